import PyProof.Rows.All
import Wide.All
import OpenK.AllK
import Wide.FinOn
import KE.KLam
import KE.KNestM
import KE.KPar
import Lean
import PySem.Challenge.RW_ij0042_01
set_option maxRecDepth 100000
set_option bootstrap.genMatcherCode false
set_option genSizeOf false
set_option backward.match.sparseCases false
set_option linter.all false
set_option Elab.async false
namespace Mine
theorem sN {n : Nat} (h : n < 1000000000) : (-(1000000000:Int)) < ((n:Nat):Int) ∧ ((n:Nat):Int) < (1000000000:Int) := by lia
theorem sZ {n m : Nat} (h : n + m < 1000000000) : (-(1000000000:Int)) < ((n:Nat):Int) + ((m:Nat) : Int) ∧ ((n:Nat):Int) + ((m:Nat):Int) < (1000000000:Int) := by lia
theorem o0{a b:Nat}(h:a<b):a+1≤b:=h
theorem o1{x:Int}(h:1≤x):0≤x:=by exact Int.le_of_lt h
theorem o2{x:Int}(h:1≤x):0<x:=h
theorem o3{a b:Nat}:a+b=b+a:=by exact Nat.add_comm a b
theorem o4{x:Int}(h:1≤x):¬(x<1):=by exact Int.not_lt_of_ge h
theorem o5{a:Nat}(h:a≤64):¬(a>64):=Nat.not_lt.2 h
theorem o6{x y:Int}:x≤y↔¬(y<x):=by exact Iff.symm Int.not_lt
theorem o7{x y:Int}:x≥y↔¬(x<y):=by lia
theorem o8{a b c:Nat}(h:a=0)(i:b=a)(j:¬(a≠c)):b=0:=h ▸ i
theorem o9{a b c d:Nat}(h:a=b)(i:c=d)(j:¬(b≠d)):a=c:=by lia
theorem o10{a b c d:Nat}(h:a=b)(i:b≠c)(j:d=c):¬(a=d):=by lia
theorem o11{x:Int}(h:¬(0≤x)):x<0:=by exact Int.lt_of_not_ge h
theorem o12{a b:Nat}{x:Int}(h:-(a:Int)≤x)(i:b=a):-(b:Int)≤x:=i ▸ h
theorem o13{a b:Nat}(h:a=b)(i:b≤1000000):(a:Int)<9223372036854775808:=by lia
theorem o14{a:Nat}:¬((a:Int)+1=0):=by exact not_eq_of_beq_eq_false rfl
theorem o15{a:Nat}{x:Int}(h:-(a:Int)≤x)(i:¬(0≤x)):0≤x+(a:Int)∧x+(a:Int)<(a:Int):=by lia
theorem o16{a:Nat}{x:Int}(h:-(a:Int)≤x)(i:¬(0≤x)):x<(a:Int):=by lia
theorem o17{a b:Nat}{x:Int}(h:-(a:Int)≤x)(i:Int.toNat (x+(a:Int))=b):x<0→x+(a:Int)=(b:Int):=by lia
theorem o18{a:Nat}{x:Int}(h:¬(0≤x)):0≤x→x=(a:Int):=by lia
theorem o19{a b:Nat}{x:Int}(h:-(a:Int)≤x)(i:Int.toNat (x+(a:Int))=b)(j:¬(0≤x)):b<a:=by lia
theorem o20{a b:Nat}(h:(a:Int)<(b:Int)):a<b:=Int.ofNat_lt.1 h
theorem o21{a:Nat}(h:0≤(a:Int)):¬((a:Int)<0):=by exact Int.not_ofNat_neg a
theorem o22{a b:Nat}(h:0≤(a:Int)):-(b:Int)≤(a:Int):=by exact Int.neg_natCast_le_natCast b a
theorem o23{a b:Nat}(h:0≤(a:Int)):(a:Int)<0→(a:Int)+(b:Int)=((Int.toNat (a:Int):Nat):Int):=by lia
theorem o24{a:Nat}(h:0≤(a:Int)):0≤(a:Int)→(a:Int)=((Int.toNat (a:Int):Nat):Int):=by exact fun a => (fun {m n} => Int.ofNat_inj.mpr) rfl
theorem o25{a b:Nat}(h:(a:Int)<(b:Int))(i:0≤(a:Int)):Int.toNat (a:Int)<b:=Int.ofNat_lt.1 h
theorem o26{a b c:Nat}(h:a-b=c)(i:a=c)(j:¬(c=0)):b=0:=by lia
theorem o27{a b c:Nat}(h:a-b=c)(i:a≤c):a=c:=by lia
theorem o28{a b c:Nat}:min a b≤b+c:=by lia
theorem o29{a b:Nat}{x:Int}(h:(a:Int)<(b:Int))(i:b≤a):max 0 (min x (a:Int))=(b:Int):=by lia
theorem o30{a b c d e:Nat}(h:a+b≤c)(i:d=a)(j:e=b):a+b≤c+1:=Nat.le_succ_of_le h
theorem o31{a b c d e:Nat}(h:a+b≤c)(i:d=a)(j:e=b):a≤c:=by exact Nat.le_of_add_right_le h
theorem o32{a b c:Nat}(h:a<b)(i:c=a):a+1≤b:=h
theorem o33{a b c d:Nat}(h:a=b)(i:b≤c)(j:d≤b):d≤c:=by exact Nat.le_trans j i
theorem o34{a b:Nat}{x:Int}(h:a=b)(i:x<(b:Int)):x<(a:Int):=h ▸ i
theorem o35{a:Nat}(h:a≤1000000):a≤1000000:=h
theorem o36{a b:Nat}(h:a≤b):a≤b+1+1:=by lia
theorem o37{a:Nat}(h:¬(2≤a)):a≤2:=by exact Nat.le_of_not_ge h
theorem o38{a:Nat}(h:2≤a)(i:¬((a:Int)-2>0)):a-2=0:=by lia
theorem o39{a b:Nat}:Int.toNat ((a:Int)-2+(-(b:Int)))=a-2-b:=by lia
theorem o40{a:Nat}(h:(a:Int)-2>0):(a:Int)-2-0-(-1)-1=((a-2:Nat):Int):=by lia
theorem o41{a:Nat}(h:2≤a):a-1-(a-2)=1:=by omega
theorem o42{a:Nat}(h:2≤a):a-2+1=a-1:=by lia
theorem o43{a:Nat}:a-2≤a-2+1:=by exact Nat.le_add_right (a - 2) 1
theorem o44{a:Nat}(h:2≤a):a-2<a:=by omega
theorem o45{a:Nat}(h:2≤a):max (-1) (min (-2+(a:Int)) ((a:Int)-1))=(a:Int)-2∧max (-1) (min 0 ((a:Int)-1))=0:=by lia
theorem o46:¬(-(1:Int)>(0:Int)):=by exact Std.Rxo.size_eq_zero_iff_not_le.mp rfl
theorem o47{a b:Nat}(h:a<b+1):Int.toNat ((b:Int)+(-(a:Int)))=b-a:=by lia
theorem o48{a:Nat}:-1<(a:Int):=by exact Rat.intCast_lt_intCast.mp rfl
theorem o49{a:Nat}:a+1-(a+1)=0:=by exact Eq.symm (Nat.eq_sub_of_add_eq' rfl)
theorem o50{a:Nat}:a+1≤a+1:=by lia
theorem o51{a b c:Nat}(h:a+1≤b+1)(i:b<c):b-a<c:=by exact Nat.sub_lt_of_lt i
theorem o52{a b:Nat}(h:a+1≤b+1):b+1-(a+1)+1=b+1-a:=by lia
theorem o53{a b c:Nat}(h:a+1≤b+1)(i:b<c):b-a<min (b+1) c:=by lia
theorem o54{a b:Nat}(h:a+1≤b+1):a≤b+1:=by exact Nat.le_of_succ_le h
theorem o55{a b:Nat}(h:0<a)(i:b<a):b≤a-1:=by exact (Nat.le_sub_one_iff_lt h).mpr i
theorem o56{a b:Nat}(h:0<a)(i:b≤a-1):b<a:=by exact Nat.lt_of_le_pred h i
theorem o57{x y:Int}(h:x≤y)(i:y≤x):x=y:=by exact Int.le_antisymm h i
theorem o58{x y z:Int}(h:x≤y)(i:¬(z<y)):x≤z:=by lia
theorem o59{x y z:Int}(h:x<y)(i:z≤x):z≤y:=by lia
theorem o60{x y z:Int}(h:x≤y)(i:¬(x<z)):z≤y:=by lia
theorem o61{x y z:Int}(h:x<y)(i:y≤z):x≤z:=by lia
theorem o62{a b:Nat}(h:0+a≤b):b≤a+(b-a):=by lia
theorem o63{a:Nat}{x:Int}(h:0≤x)(i:x≤(a:Int)):Int.toNat x≤a:=by exact Int.toNat_le.mpr i
theorem o64{x:Int}(h:0≤x):¬(x<0):=by exact Int.not_lt_of_ge h
theorem o65{a b:Nat}(h:¬(a≤b+1)):b+1-a=0:=by omega
theorem o66{a b c:Nat}(h:a≤b)(i:¬(c≤a+1)):min a b≤c:=by lia
theorem o67{a b:Nat}(h:a≤b+1):a+(b+1-a)=b+1:=by exact Nat.add_sub_of_le h
theorem o68{a b c d:Nat}(h:a+(b+1)=c+1)(i:c≤d)(j:¬(a<c)):min c d≤a+1:=by lia
theorem o69{a b c d:Nat}(h:a+(b+1)=c+1)(i:c≤d)(j:¬(a<c)):min c d≤a:=by lia
theorem o70{a b:Nat}:a+1+b=a+(b+1):=by lia
theorem o71{a b c d e:Nat}(h:a+(b+1)=c+1)(i:a<c)(j:a<d)(k:c≤e):a<e:=by exact Nat.lt_of_lt_of_le i k
theorem o72{a b c d:Nat}(h:a+(b+1)=c+1)(i:a<c)(j:a<d):a+1≤c:=by exact Nat.succ_le_of_lt i
theorem o73{a b c d:Nat}(h:a+(b+1)=c+1)(i:a<c)(j:c≤d):a<min c d:=by lia
theorem o74{a b c:Nat}(h:a+(b+1)=c+1):a+1+b=c+1:=by lia
theorem o75{a b:Nat}(h:a≤b):a≤b+1:=Nat.le_succ_of_le h
theorem o76{a b c:Nat}(h:a+0=b+1)(i:b≤c):min b c≤a:=by lia
theorem o77{a b c d:Nat}(h:a+b=c+d)(i:a≤1000000)(j:b≤1000000):c+d≤16777216:=by lia
theorem o78{a:Nat}(h:(a=61∨48≤a∧a≤57)∨65≤a∧a≤70):a<128:=by lia
theorem o79{a b c d e f:Nat}(h:a+b=c+d+e):f+b+a+b=f+(c+d)+(e+b):=by lia
theorem o80{a:Nat}:0+a≤a:=by lia
theorem o81{a b c:Nat}(h:a+(b+1)≤c):a+1+b≤c:=by lia
theorem o82{a b c:Nat}(h:a+(b+1)≤c):a<c:=by exact Nat.lt_of_add_right_lt h
theorem o83{a:Nat}(h:33≤a∧a≤126):33+(a-33)=a:=by omega
theorem o84{a:Nat}(h:33≤a∧a≤126):a-33<94:=by omega
theorem o85{a:Nat}{x:Int}:x+(-(a:Int))=x-(a:Int):=rfl
theorem o86{x:Int}(h:-4611686018427387904<x)(i:x<4611686018427387904):x+(-1+1)<9223372036854775808:=by lia
theorem o87{x:Int}(h:-4611686018427387904<x)(i:x<4611686018427387904):-9223372036854775808≤x+(-1+1):=by lia
theorem o88{x:Int}(h:-4611686018427387904<x)(i:x<4611686018427387904):x+(1-1)<9223372036854775808:=by lia
theorem o89{x:Int}(h:-4611686018427387904<x)(i:x<4611686018427387904):-9223372036854775808≤x+(1-1):=by lia
theorem o90{x:Int}(h:0≤x∧x≤9223372036854775806):x<9223372036854775808:=by omega
theorem o91{x:Int}(h:0≤x∧x≤9223372036854775806):-9223372036854775808≤x:=by lia
theorem o92{x:Int}(h:x=1∨x=-1):x<9223372036854775808:=by lia
theorem o93{x:Int}(h:x=1∨x=-1):-9223372036854775808≤x:=by lia
theorem o94{x:Int}(h:-4611686018427387904<x)(i:x<4611686018427387904):x<9223372036854775808:=by lia
theorem o95{x:Int}(h:-4611686018427387904<x)(i:x<4611686018427387904):-9223372036854775808≤x:=by lia
theorem o96{x y:Int}(h:-4611686018427387904<x)(i:-4611686018427387904<y)(j:x<4611686018427387904)(k:y<4611686018427387904):0≤((Int.toNat (x-y):Nat):Int)∧((Int.toNat (x-y):Nat):Int)≤9223372036854775806:=by lia
theorem o97{a b:Nat}:a+b+1=a+1+b:=by lia
theorem o98{a:Nat}:a+1≠a:=by exact Ne.symm (Nat.ne_add_one a)
theorem o99{a b:Nat}(h:a<b+2)(i:b≤a)(j:¬(a=b+1)):a=b:=by lia
theorem Br{a b:Nat}(h:a<b+1)(i:b≤a):a=b:=by exact Nat.eq_of_le_of_lt_succ i h
theorem wT{a b:Nat}(h:a<b):b≠a:=Nat.ne_of_gt h
theorem Bs{a b:Nat}(h:a<b):b+1≠a:=by lia
theorem wU{a b:Nat}(h:a≤b)(i:¬(a<b)):a=b:=by lia
theorem k8{a b:Nat}(h:a≤b):a≤b:=h
theorem rS{a b:Nat}(h:a<b):b-(a+1)<b-a:=by exact Nat.sub_succ_lt_self b a h
theorem Bt{a b c d e:Nat}(h:a<b)(i:b≤c)(j:d=e)(k:e≤a):e≤c:=by lia
theorem Bu{a:Nat}:a≠a+1:=by lia
theorem rT{a:Nat}(h:a≤100):a≤1000000:=by lia
theorem Bv{a:Nat}(h:¬(29<a)):a<30:=Nat.lt_of_not_le h
theorem rU{a b:Nat}(h:a+(b+1)≤8):a+1+b≤8:=by lia
theorem wV{a b:Nat}(h:a+(b+1)≤8):a+1≤8:=by lia
theorem Bw{a b c:Nat}(h:a+1≤8)(i:b≤a*1000000)(j:c≤1000000):b+c≤16777216∧b+c≤(a+1)*1000000:=by lia
theorem Bx{a:Nat}:a<a+1:=by lia
theorem wW{a b c d:Nat}(h:a=b)(i:b=c)(j:c=d)(k:d≤100):b≤1000000:=by lia
theorem wX{a b c d:Nat}(h:a=b)(i:b=c)(j:c=d)(k:d≤100):d≤1000000:=by lia
theorem By{a b c d:Nat}(h:a=b)(i:a=c)(j:d=b):c=d:=by lia
theorem Bz:(0:Int)<(4611686018427387904:Int):=by exact Int.sign_eq_one_iff_pos.mp rfl
theorem BA:-(4611686018427387904:Int)<(0:Int):=by exact Int.sign_eq_neg_one_iff_neg.mp rfl
theorem BB{a b c:Nat}(h:a+60*(b+1)+100<c):a+3+60*b+100<c:=by lia
theorem BC{a b c:Nat}(h:a+(b+1)<c):a+1+b<c:=by lia
theorem BD{a b c:Nat}(h:a+(b+1)<c):a<c:=by exact Nat.lt_of_add_right_lt h
theorem BE{a b c d e:Nat}(h:a+b=c+d)(i:a≤1000000)(j:b≤100)(k:e=b):c+d≤16777216:=by lia
theorem BF{a:Nat}(h:a≤1000000):a≤16777216:=Nat.le_trans h (Nat.le_of_ble_eq_true rfl)
theorem BG{a b c:Nat}(h:a<b)(i:c≤a):c≤b:=by lia
theorem BH{x:Int}(h:-1000000000<x∧x<1000000000):x<4611686018427387904:=by lia
theorem BJ{x:Int}(h:-1000000000<x∧x<1000000000):-4611686018427387904<x:=by lia
theorem BK{a:Nat}(h:a<1000000000):(a:Int)<4611686018427387904:=by lia
theorem BL{a:Nat}(h:a<1000000000):-4611686018427387904<(a:Int):=by exact Rat.intCast_lt_intCast.mp rfl
theorem BM{a:Nat}:1≤(a:Int)+1∧Int.toNat (-1+((a:Int)+1))=a:=by lia
theorem BN{a b:Nat}(h:a<16)(i:b<16):((16*a+b:Nat):Int)<256:=by lia
theorem BO{a b:Nat}(h:a<16)(i:b<16):0≤((16*a+b:Nat):Int):=by exact Int.natCast_nonneg (16 * a + b)
theorem wY{a:Nat}(h:a<4611686018427387904):(a:Int)<4611686018427387904:=Int.ofNat_lt.2 h
theorem wZ{a:Nat}(h:a<4611686018427387904):-4611686018427387904<(a:Int):=by lia
theorem BP{a:Nat}(h:0<a∧a<1073741824):0≤(a:Int):=by exact Int.natCast_nonneg a
theorem BQ{a:Nat}(h:0<a∧a<1073741824):Int.natAbs (a:Int)<1073741824:=by omega
theorem BR{a:Nat}(h:0<a∧a<1073741824):(a:Int)≠0:=by lia
theorem BS{a:Nat}(h:0<a):0≤(a:Int):=by exact Int.natCast_nonneg a
theorem BU{a:Nat}(h:0<a):(a:Int)≠0:=by exact Int.natCast_ne_zero_iff_pos.mpr h
theorem BV{a:Nat}:Int.toNat (-1+((a+1+1:Nat):Int))=a+1:=by lia
theorem BW{a:Nat}:Int.toNat (-1+((a+1:Nat):Int))=a:=by lia
theorem BX{a b:Nat}(h:¬(a≤b)):b≤a:=by exact Nat.le_of_not_ge h
theorem BY{a b:Nat}(h:¬(a≤b)):b≤min a b:=by lia
theorem BZ{a b c:Nat}(h:¬(a≤b)):min c b≤a:=by lia
theorem B0{a b c:Nat}(h:¬(a≤b)):min c b≤min a b:=by lia
theorem B1{a:Nat}:¬((a:Int)<0):=by exact Int.not_ofNat_neg a
theorem w4{a b c:Nat}(h:¬((a:Int)=(b:Int)))(i:¬(a=c)):¬(a=b∨a=c):=by exact not_or_intro (fun a => h (congrArg Nat.cast a)) i
theorem nZ{a b:Nat}(h:¬(a=b)):¬((a:Int)=(b:Int)):=by exact Nat.ToInt.of_diseq rfl rfl h
theorem w5{a b c:Nat}(h:a=b):a=c∨a=b:=by lia
theorem n4{a b:Nat}(h:a=b):(a:Int)=(b:Int):=by exact Int.ofNat_inj.mpr h
theorem w6{a b c:Nat}(h:(a:Int)=(b:Int)):a=b∨a=c:=by lia
theorem w7{a b c:Nat}(h:a<b):¬(b≤a∧a≤c):=by lia
theorem w8{a b c:Nat}(h:¬(a≤b)):¬(c≤a∧a≤b):=by exact not_and.mpr fun a => h
theorem k9{a b:Nat}(h:¬(a≤b)):b<a:=Nat.lt_of_not_le h
theorem B2{a:Nat}(h:(a:Int)=1):a=1:=by lia
theorem B3{a b c:Nat}(h:(a:Int)+(b:Int)≤(c:Int)):(a:Int)+(b:Int)≤(c:Int):=h
theorem w9{a:Nat}:0+a=a:=by exact Nat.zero_add a
theorem rV{a b c:Nat}(h:(a:Int)+(b:Int)≤(c:Int)):a+b≤c:=Int.ofNat_le.1 h
theorem iA{a:Nat}(h:a<1000):a≤1000000:=Nat.le_trans (Nat.le_of_lt h) (Nat.le_of_ble_eq_true rfl)
theorem rW{a:Nat}(h:a<1000):a<1000000000:=Nat.lt_of_lt_of_le h (Nat.le_of_ble_eq_true rfl)
theorem B4{a b c:Nat}(h:(a:Int)+(b:Int)≤(c:Int))(i:(c:Int)<(a:Int)+(b:Int)):False:=by lia
theorem B5{x:Int}(h:0≤x)(i:x<0):False:=by lia
theorem xa{a b c:Nat}(h:a+(b+1)=c):a+1+b=c:=by lia
theorem xb{a b c d e:Nat}(h:a+(b+1)=c)(i:d+c≤e):d+a<e:=by lia
theorem xc{a b c:Nat}(h:a+(b+1)=c):a<c:=by lia
theorem xd{a b:Nat}(h:a+0=b):b≤a:=by exact Nat.le_of_eq (id (Eq.symm h))
theorem B6{a b c:Nat}(h:(a:Int)<(b:Int)+(c:Int))(i:b+c≤a):False:=by lia
theorem B7{a b c:Nat}(h:¬(a+b≤c)):(c:Int)-(b:Int)<(a:Int):=by lia
theorem xe{a b:Nat}(h:a<500)(i:b=a):b+1≤1000000:=by lia
theorem B8{a b:Nat}(h:(a:Int)-(b:Int)=((a-b:Nat):Int))(i:a<1000):-1000000000<((a-b:Nat):Int)∧((a-b:Nat):Int)<1000000000:=by lia
theorem B9{a b c:Nat}(h:(a:Int)-(b:Int)=((a-b:Nat):Int))(i:c+b≤a)(j:a<1000):-1000000000<(c:Int)∧(c:Int)<1000000000:=by lia
theorem Ca{a b c:Nat}(h:a+b≤c):(c:Int)-(b:Int)=((c-b:Nat):Int):=by lia
theorem Cb{a b c:Nat}(h:a+b≤c):(a:Int)≤(c:Int)-(b:Int):=by lia
theorem xf{a:Nat}(h:a<1000):a<100000:=Nat.lt_of_lt_of_le h (Nat.le_of_ble_eq_true rfl)
theorem xg{a:Nat}(h:a<500):a<1000:=Nat.lt_of_lt_of_le h (Nat.le_of_ble_eq_true rfl)
theorem rX{a:Nat}(h:a<500):a≤1000000:=Nat.le_trans (Nat.le_of_lt h) (Nat.le_of_ble_eq_true rfl)
theorem xh{a:Nat}(h:a<500):¬((a:Int)+1+1=1):=by exact not_eq_of_beq_eq_false rfl
theorem Cc{a b c:Nat}(h:a<b+c):(a:Int)<(b:Int)+(c:Int):=by exact Int.lt_toNat.mp h
theorem Cd{a b c:Nat}(h:a+b≤c)(i:c<1000):a+b<100000:=by lia
theorem rY{a b:Nat}(h:a+(b+1)<1000):a+1+b<1000:=by lia
theorem xi{a b:Nat}(h:a+(b+1)<1000):a<1000000:=by lia
theorem Ce{a b c:Nat}(h:a+b≤c)(i:c<1000):-1000000000<(a:Int)∧(a:Int)<1000000000:=by lia
theorem rZ{a:Nat}(h:a<100000):-1000000000<(a:Int)∧(a:Int)<1000000000:=sN (Nat.lt_of_lt_of_le h (Nat.le_of_ble_eq_true rfl))
theorem xj{a b c:Nat}(h:a+b≤c):(a:Int)+(b:Int)≤(c:Int):=by exact Int.toNat_le.mp h
theorem Cf{a b:Nat}(h:a<100000):b+1≤b+1+a:=by exact Nat.le_add_right (b + 1) a
theorem Cg{a b c:Nat}(h:¬(a+b≤c)):c<a+b:=Nat.lt_of_not_le h
theorem Ch{a b c:Nat}(h:¬(a+b≤c)):(c:Int)<(a:Int)+(b:Int):=by lia
theorem xk{a b c:Nat}(h:a+1≤b+1+c):a+1≤b+(c+1):=by lia
theorem Ci{a b c:Nat}(h:a+1≤0+b):a<b+c:=by lia
theorem Cj{a b c:Nat}(h:a+1≤0+b):(a:Int)<(b:Int)+(c:Int):=by lia
theorem Ck{a:Nat}{x:Int}(h:¬((a:Int)≤x)):x<(a:Int):=by exact Int.lt_of_not_ge h
theorem Cl{a b:Nat}(h:(a:Int)-(b:Int)=((a-b:Nat):Int))(i:0≤(a:Int)-(b:Int))(j:a<1000):-1000000000<((a-b:Nat):Int)∧((a-b:Nat):Int)<1000000000:=by omega
theorem Cm{a:Nat}(h:a≤1000):-1000000000<(a:Int)∧(a:Int)<1000000000:=sN (Nat.lt_of_le_of_lt h (Nat.le_of_ble_eq_true rfl))
theorem Cn{a b:Nat}(h:0≤(a:Int)-(b:Int)):(a:Int)-(b:Int)=((a-b:Nat):Int):=by lia
theorem Co{a:Nat}{x:Int}(h:(a:Int)≤x):(a:Int)≤x:=h
theorem Cp{a b:Nat}(h:0≤(a:Int)-(b:Int)):-1≤(a:Int)-(b:Int):=by exact Int.le_of_lt h
theorem Cq{a b:Nat}(h:a<1000):(a:Int)-(b:Int)≤1000:=by lia
theorem Cr{a b:Nat}(h:a<1000∧a+b≤1000):a+b<100000:=by lia
theorem Cs{a b:Nat}(h:a<1000∧a+b≤1000):-1000000000<(a:Int)∧(a:Int)<1000000000:=by omega
theorem Ct{a b:Nat}(h:a<1000)(i:b<100000):a-b≤1000000:=by lia
theorem Cu{a:Nat}(h:a<100000):a<1000000000:=Nat.lt_of_lt_of_le h (Nat.le_of_ble_eq_true rfl)
theorem Cv{x y:Int}(h:-1≤x)(i:y≤x∧-1≤y)(j:x≤1000):y≤1000:=by lia
theorem Cw{a b:Nat}{x:Int}(h:-1≤x)(i:a<1000)(j:b≤Int.toNat (x-(a:Int)+1))(k:x≤1000):1+b≤1000000:=by lia
theorem Cy{a:Nat}{x:Int}(h:-1≤x)(i:a<1000)(j:x≤1000):Int.toNat (x-(a:Int)+1)≤1000000:=by lia
theorem Cz{a:Nat}{x:Int}(h:-1≤x)(i:a<1000)(j:x≤1000):-1000000000<x-(a:Int)+1∧x-(a:Int)+1<1000000000:=by lia
theorem CA{a b:Nat}{x y:Int}(h:(a:Int)=x)(i:a<Int.toNat (y-(b:Int)+1)):(a:Int)≤y:=by lia
theorem CB{a b:Nat}:Int.toNat ((a:Int)-(b:Int))=a-b:=by exact Int.toNat_sub a b
theorem CC{a b:Nat}(h:a≤b):¬((b:Int)<(a:Int)):=by lia
theorem CD{a b:Nat}:¬(3*((a:Int)+1)=3*((a:Int)+((b:Int)+1)+1)):=by lia
theorem CE{a b c:Nat}(h:((3*a:Nat):Int)+3=((3*b:Nat):Int))(i:b<1000)(j:c=3*a):a+1+1≤1000000:=by lia
theorem CF{a:Nat}:3*(a:Int)+3=3*((a:Int)+1):=rfl
theorem CG{a b c:Nat}(h:a<1000)(i:a=b+c+1):b+1≤1000000:=by lia
theorem CH{a b c d:Nat}(h:a<1000)(i:a=b+c+1)(j:d=3*b):-1000000000<((3*b:Nat):Int)+3∧((3*b:Nat):Int)+3<1000000000:=by lia
theorem CI{a b c d:Nat}(h:a<1000)(i:a=b+c+1)(j:d=3*b):-1000000000<((3*b:Nat):Int)∧((3*b:Nat):Int)<1000000000:=by lia
theorem jG{a:Nat}(h:a<256):a/16<16:=by exact Nat.div_lt_of_lt_mul h
theorem CJ{a b:Nat}:3*(a:Int)+2<3*((a:Int)+(b:Int)+1):=by lia
theorem CK{a b:Nat}:¬(3*(a:Int)+1=3*((a:Int)+(b:Int)+1)):=by lia
theorem CL{a b:Nat}:(a:Int)<(a:Int)+(b:Int)+1:=by exact Int.lt.intro rfl
theorem CM{a b:Nat}:a+(b+1)=a+b+1:=rfl
theorem CN{a b:Nat}:a+b-a=b:=by exact Nat.add_sub_self_left a b
theorem xl{a b:Nat}:a≤a+b:=by exact Nat.le_add_right a b
theorem CO{a:Nat}:3+3*a=3*(a+1):=by lia
theorem xm{a b:Nat}(h:a+(b+1)<10000):a+1+b<10000:=by lia
theorem xn{a b:Nat}(h:a+(b+1)<10000):a<1000000:=by lia
theorem la{a b:Nat}(h:a<b):a<b:=h
theorem CP{a:Nat}(h:a<100000):0+(0+1+1+1+1)+a+(0+1+1+1)≤1000000:=by lia
theorem CQ{a:Nat}(h:a<100000):a≤1000000:=Nat.le_trans (Nat.le_of_lt h) (Nat.le_of_ble_eq_true rfl)
theorem CR{a b c d:Nat}(h:a+2*b<10000)(i:c+a=d):a+2*b<30000:=Nat.lt_of_lt_of_le h (Nat.le_of_ble_eq_true rfl)
theorem CS{a b:Nat}(h:a+b<100000):b<100000:=by exact Nat.lt_of_add_left_lt h
theorem CT{a b:Nat}(h:a+2*b<10000):a<10000:=by exact Nat.lt_of_add_right_lt h
theorem CU{a b:Nat}(h:a+2*(b+1+1)<30000):a+1+2*(b+1)<30000:=by lia
theorem CV{a b c:Nat}(h:a+b≤c)(i:c<100000):b<100000:=by lia
theorem CW{a b:Nat}(h:a+2*(b+1+1)<30000):a<1000000:=by lia
theorem CX{a b c:Nat}(h:a+b≤c)(i:c<100000):0+(0+1+1+1+1+1+1)+a+(0+1)≤1000000:=by lia
theorem CY{a b c d:Nat}:¬((a:Int)+1+(b:Int)=(a:Int)+1+(b:Int)+((c:Int)+(d:Int)+1)):=by lia
theorem CZ{a:Nat}(h:a+2<30000):a+1<1000000:=Nat.le_trans (Nat.le_of_lt h) (Nat.le_of_ble_eq_true rfl)
theorem xo{a:Nat}(h:a+2<30000):a<1000000:=by lia
theorem C0{a b c:Nat}(h:a+b≤c)(i:c<100000):a≤1000000:=by lia
theorem C1{a b c d e:Nat}(h:(a:Int)+1=(b:Int))(i:c<10000)(j:c=a+1+d+e):d<10000:=by lia
theorem C2{a b c:Nat}:¬((a:Int)+1=(a:Int)+1+((b:Int)+1)+(c:Int)):=by lia
theorem C3{a b c:Nat}:a+(b+c+1)=a+1+b+c:=by lia
theorem C4{a b c d:Nat}:a+b≤c+a+d+b:=by lia
theorem C5{a b:Nat}:a+0≤b+a:=by exact Nat.le_add_left (a + 0) b
theorem xp{a b:Nat}(h:a<b)(i:a=b):False:=absurd i (Nat.ne_of_lt h)
theorem C6{a:Nat}(h:1<a):a≠1:=Nat.ne_of_gt h
theorem C7{a:Nat}(h:1<a)(i:1=a):False:=absurd i (Nat.ne_of_lt h)
theorem xq{a b c:Nat}(h:a<b)(i:a=c)(j:c=b):False:=by lia
theorem C8{a:Nat}(h:1<a):0<a:=by exact Nat.zero_lt_of_lt h
theorem C9{a:Nat}(h:(a=61∨48≤a∧a≤57)∨65≤a∧a≤70):48≤a∧a≤57∨65≤a∧a≤70∨a=61:=by lia
theorem Da{a b:Nat}{x:Int}(h:a<100)(i:b<100000)(j:x=(a:Int)):-1000000000<(b:Int)+x∧(b:Int)+x<1000000000:=by lia
theorem xr{a:Nat}:((a+4:Nat):Int)+1=(a:Int)+5:=rfl
theorem iB{a b:Nat}(h:a<10000)(i:b=a):a<1000000:=by lia
theorem xt{a:Nat}(h:a<90000):-1000000000<((a+4:Nat):Int)∧((a+4:Nat):Int)<1000000000:=sN (Nat.lt_of_lt_of_le (Nat.add_lt_add_right h _) (Nat.le_of_ble_eq_true rfl))
theorem n5{a:Nat}(h:a<90000):-1000000000<(a:Int)+1∧(a:Int)+1<1000000000:=sN (Nat.lt_of_le_of_lt h (Nat.le_of_ble_eq_true rfl))
theorem n6{a:Nat}(h:a<90000):a<1000000000:=Nat.lt_of_lt_of_le h (Nat.le_of_ble_eq_true rfl)
theorem n7{a:Nat}(h:a<90000):-1000000000<(a:Int)∧(a:Int)<1000000000:=sN (Nat.lt_of_lt_of_le h (Nat.le_of_ble_eq_true rfl))
theorem da{a:Nat}(h:a<90000):a<100000:=by lia
theorem xu{a b:Nat}(h:3≤a):(b:Int)<(b:Int)+((a:Int)+1+1+1+1+1)-3:=by lia
theorem Db{a:Nat}:((a+3:Nat):Int)+1=(a:Int)+4:=rfl
theorem Dc{a:Nat}(h:a<90000):-1000000000<((a+3:Nat):Int)∧((a+3:Nat):Int)<1000000000:=sN (Nat.lt_of_lt_of_le (Nat.add_lt_add_right h _) (Nat.le_of_ble_eq_true rfl))
theorem xv{a b:Nat}(h:3≤a):(b:Int)<(b:Int)+((a:Int)+1+1+1+1)-3:=by lia
theorem Dd{a:Nat}:((a+5:Nat):Int)+1=(a:Int)+6:=rfl
theorem n8{a b:Nat}(h:a≤b):¬(b<a):=Nat.not_lt.2 h
theorem De{a:Nat}(h:a<90000):-1000000000<((a+5:Nat):Int)∧((a+5:Nat):Int)<1000000000:=sN (Nat.lt_of_lt_of_le (Nat.add_lt_add_right h _) (Nat.le_of_ble_eq_true rfl))
theorem xw{a b:Nat}(h:3≤a):(b:Int)<(b:Int)+((a:Int)+1+1+1+1+1+1)-3:=by lia
theorem r9{a b:Nat}(h:3≤a):(b:Int)<(b:Int)+((a:Int)+1)-3:=by lia
theorem xx{a:Nat}(h:1<a)(i:a=1):False:=by lia
theorem xy{a:Nat}(h:a<1000000000):0≤(a:Int):=by exact Int.natCast_nonneg a
theorem sb{a b:Nat}(h:(a:Int)+1=(b:Int))(i:a<90000):a<100000:=by lia
theorem xz{a:Nat}(h:a<10000):a<1000000:=Nat.lt_of_lt_of_le h (Nat.le_of_ble_eq_true rfl)
theorem Df{a b:Nat}(h:3≤a):(b:Int)<(b:Int)+((a:Int)+1+1)-3:=by lia
theorem Dg{a b c d:Nat}(h:a+(b+1)<10000)(i:c+d=b+d+1):a+1+b<10000:=by lia
theorem Dh{a b c d:Nat}(h:a+(b+1)<10000)(i:c+d=b+d+1):a<10000:=by exact Nat.lt_of_add_right_lt h
theorem Di{a b:Nat}(h:3≤a):3≤b+a:=by exact Nat.le_add_left_of_le h
theorem Dj{a b:Nat}(h:a+b<90000):a<90000:=by lia
theorem xA{a b:Nat}:a+1+b=a+b+1:=by exact Nat.add_right_comm a 1 b
theorem Dk{a:Nat}(h:48≤a∧a≤57):a≠42:=by lia
theorem Dl{a:Nat}(h:65≤a∧a≤70):a≠42:=by lia
theorem Dm{a:Nat}(h:a=61):a≠42:=by lia
theorem Dn{a:Nat}(h:a<8000):1+a<9000:=by lia
theorem Do{a b c:Nat}(h:a<90000)(i:a=4+b+c+3):b+1+1+1+1<90000:=by lia
theorem Dp{a b:Nat}:a+(b+3)+1=4+a+b:=by lia
theorem Dq{a b:Nat}:Int.toNat (-3+((a:Int)+(b:Int)+1+1+1+1+3))=a+b+1+1+1+1:=by lia
theorem Dr{a b:Nat}(h:a+(b+1+1)<9000):a+1+(b+1)<9000:=by lia
theorem xB{a b c d e:Nat}(h:a<90000)(i:a=b+6+c+1+d+3)(j:a=b+e+3):b+(c+1+1+1+1+1+1)<90000:=by lia
theorem Ds{a b c:Nat}(h:a<9000)(i:b=a+(c+1)+1):a<10000:=by lia
theorem xC{a b:Nat}(h:a+b<9000):a<10000:=by lia
theorem Dt{a b c d e:Nat}(h:a=b+6+c+1+d+3)(i:a=b+e+3):3≤c+(d+3+1):=by lia
theorem Du{a b c d e:Nat}(h:a<90000)(i:a=b+6+c+1+d+3)(j:a=b+e+3):b<90000:=by lia
theorem Dv{a b:Nat}:a+2+b=a+(b+1)+1:=by exact Nat.add_right_comm a 2 b
theorem Dw{a b c:Nat}:a+(b+(c+3+1)+1+1+1+1+1+1)=a+6+b+1+c+3:=by lia
theorem Dx{a b:Nat}:(a:Int)+((b:Int)+3+1+1)-3≤(a:Int)+((b:Int)+1+1):=by lia
theorem Dy{a:Nat}(h:a<9000):a<10000:=Nat.lt_of_lt_of_le h (Nat.le_of_ble_eq_true rfl)
theorem Dz{a b c d:Nat}(h:a<90000)(i:a=b+2+c+3)(j:a=b+d+3):b+(c+1+1)<90000:=by lia
theorem DA{a b c d:Nat}(h:a<90000)(i:a=b+2+c+3)(j:a=b+d+3):b<90000:=by lia
theorem DB{a b:Nat}:a+(b+3+1+1)=a+2+b+3:=by lia
theorem DC{a b:Nat}:a+(b+3)=a+b+3:=rfl
theorem fH{a:Nat}(h:a<90000):a<1000000:=Nat.lt_of_lt_of_le h (Nat.le_of_ble_eq_true rfl)
theorem n9{a b c:Nat}(h:a<9000)(i:b=a+c+6):-1000000000<((a+5:Nat):Int)∧((a+5:Nat):Int)<1000000000:=sN (Nat.lt_of_lt_of_le (Nat.add_lt_add_right h _) (Nat.le_of_ble_eq_true rfl))
theorem xD{a b c:Nat}(h:a<9000)(i:b=a+c+6):-1000000000<((a+4:Nat):Int)∧((a+4:Nat):Int)<1000000000:=by lia
theorem oa{a b c:Nat}(h:a<9000)(i:b=a+c+6):a+5<1000000000:=by lia
theorem xE{a b c:Nat}(h:a<9000)(i:b=a+c+6):a+6<1000000000:=Nat.lt_of_lt_of_le (Nat.add_lt_add_right h _) (Nat.le_of_ble_eq_true rfl)
theorem xF{a b c:Nat}(h:a<9000)(i:b=a+c+6):-1000000000<(a:Int)+3∧(a:Int)+3<1000000000:=sN (Nat.lt_of_lt_of_le (Nat.add_lt_add_right h _) (Nat.le_of_ble_eq_true rfl))
theorem od{a b c:Nat}(h:a<9000)(i:b=a+c+6):-1000000000<((a+1:Nat):Int)∧((a+1:Nat):Int)<1000000000:=by lia
theorem xG{a b c:Nat}(h:a<9000)(i:b=a+c+6):a+3<1000000000:=Nat.lt_of_lt_of_le (Nat.add_lt_add_right h _) (Nat.le_of_ble_eq_true rfl)
theorem xH{a b:Nat}(h:a<9000):(b:Int)+5<(b:Int)+(a:Int)+6:=by lia
theorem xI{a:Nat}:(a:Int)+1+1+1+1+1=((a+5:Nat):Int):=rfl
theorem xJ{a b:Nat}(h:a<9000):(b:Int)+1+1+1+1+1<(b:Int)+(a:Int)+6:=by lia
theorem xK{a b:Nat}(h:a<9000):(b:Int)+1+1+1+1<(b:Int)+(a:Int)+6:=by lia
theorem xL{a b:Nat}(h:a<9000):(b:Int)+1+1+1<(b:Int)+(a:Int)+6:=by lia
theorem oe{a b:Nat}(h:a<9000):(b:Int)+1+1<(b:Int)+(a:Int)+6:=by lia
theorem xM{a b:Nat}(h:a<9000):(b:Int)+1<(b:Int)+(a:Int)+6:=by lia
theorem xN{a b:Nat}(h:a<9000):(b:Int)<(b:Int)+(a:Int)+6:=by lia
theorem xO{a b:Nat}:a+(b+1+1+1+1+1+1)=a+b+6:=rfl
theorem lb{a b c:Nat}(h:a<9000)(i:b=a+c+5):-1000000000<((a+4:Nat):Int)∧((a+4:Nat):Int)<1000000000:=sN (Nat.lt_of_lt_of_le (Nat.add_lt_add_right h _) (Nat.le_of_ble_eq_true rfl))
theorem xP{a b c:Nat}(h:a<9000)(i:b=a+c+5):-1000000000<((a+3:Nat):Int)∧((a+3:Nat):Int)<1000000000:=by lia
theorem og{a b c:Nat}(h:a<9000)(i:b=a+c+5):a+4<1000000000:=Nat.lt_of_lt_of_le (Nat.add_lt_add_right h _) (Nat.le_of_ble_eq_true rfl)
theorem xQ{a b c:Nat}(h:a<9000)(i:b=a+c+5):a+5<1000000000:=Nat.lt_of_lt_of_le (Nat.add_lt_add_right h _) (Nat.le_of_ble_eq_true rfl)
theorem xR{a b c:Nat}(h:a<9000)(i:b=a+c+5):-1000000000<(a:Int)+2∧(a:Int)+2<1000000000:=sN (Nat.lt_of_lt_of_le (Nat.add_lt_add_right h _) (Nat.le_of_ble_eq_true rfl))
theorem lc{a b c:Nat}(h:a<9000)(i:b=a+c+5):-1000000000<((a+1:Nat):Int)∧((a+1:Nat):Int)<1000000000:=by lia
theorem xS{a b c:Nat}(h:a<9000)(i:b=a+c+5):a+2<1000000000:=Nat.lt_of_lt_of_le (Nat.add_lt_add_right h _) (Nat.le_of_ble_eq_true rfl)
theorem sd{a b:Nat}(h:a<9000):(b:Int)+4<(b:Int)+(a:Int)+5:=by lia
theorem se{a:Nat}:(a:Int)+1+1+1+1=((a+4:Nat):Int):=rfl
theorem sf{a b:Nat}(h:a<9000):(b:Int)+1+1+1+1<(b:Int)+(a:Int)+5:=by lia
theorem sh{a b:Nat}(h:a<9000):(b:Int)+1+1+1<(b:Int)+(a:Int)+5:=by lia
theorem oh{a b:Nat}(h:a<9000):(b:Int)+1+1<(b:Int)+(a:Int)+5:=by lia
theorem iC{a b:Nat}(h:a<9000):(b:Int)+1<(b:Int)+(a:Int)+5:=by lia
theorem si{a b:Nat}(h:a<9000):(b:Int)<(b:Int)+(a:Int)+5:=by lia
theorem sk{a b:Nat}:a+(b+1+1+1+1+1)=a+b+5:=rfl
theorem DD{a b c:Nat}(h:a<9000)(i:b=a+c+4):-1000000000<((a+3:Nat):Int)∧((a+3:Nat):Int)<1000000000:=sN (Nat.lt_of_lt_of_le (Nat.add_lt_add_right h _) (Nat.le_of_ble_eq_true rfl))
theorem DE{a b c:Nat}(h:a<9000)(i:b=a+c+4):-1000000000<((a+1:Nat):Int)∧((a+1:Nat):Int)<1000000000:=sN (Nat.lt_of_le_of_lt h (Nat.le_of_ble_eq_true rfl))
theorem DF{a b:Nat}(h:a<9000):(b:Int)+3<(b:Int)+(a:Int)+4:=by lia
theorem DG{a:Nat}:(a:Int)+1+1+1=((a+3:Nat):Int):=rfl
theorem DH{a b:Nat}(h:a<9000):(b:Int)+1+1+1<(b:Int)+(a:Int)+4:=by lia
theorem DI{a b:Nat}(h:a<9000):(b:Int)+1+1<(b:Int)+(a:Int)+4:=by lia
theorem sm{a b:Nat}(h:a<9000):(b:Int)+1<(b:Int)+(a:Int)+4:=by lia
theorem DJ{a b:Nat}(h:a<9000):(b:Int)<(b:Int)+(a:Int)+4:=by lia
theorem DK{a b:Nat}:a+(b+1+1+1+1)=a+b+4:=rfl
theorem sn{a b:Nat}(h:a<9000):(b:Int)<(b:Int)+((a:Int)+1):=by exact Int.lt_add_succ (↑b) a
theorem DL{a:Nat}(h:48≤a∧a≤57):a≠42∧a≠63∧a≠91:=by lia
theorem DM{a:Nat}(h:65≤a∧a≤70):a≠42∧a≠63∧a≠91:=by lia
theorem DN{a:Nat}(h:a=61):a≠42∧a≠63∧a≠91:=by lia
theorem DO{a b:Nat}(h:a<1000000000∧a≤b):(a:Int)≤(b:Int):=by lia
theorem DP{a b:Nat}(h:a<1000000000∧a≤b):0≤(a:Int):=by exact Int.natCast_nonneg a
theorem DQ{a:Nat}(h:a<9000):a<80000:=Nat.lt_of_lt_of_le h (Nat.le_of_ble_eq_true rfl)
theorem xT{a b:Nat}(h:a+(b+1)<80000):a+1+b<80000:=by lia
theorem DR{a b:Nat}(h:a+(b+1)<80000):a+b<80000:=by exact Nat.lt_of_succ_lt h
theorem xU{a b:Nat}(h:a+(b+1)<80000):a<90000:=by lia
theorem xV{a b c d:Nat}(h:a<9000)(i:a=b+c+d):d<9000:=by lia
theorem xW{a b c d:Nat}(h:a<9000)(i:a=b+c+d):b<9000:=by lia
theorem DS{a b c:Nat}:a+(b+c)=a+b+c:=by exact Eq.symm (Nat.add_assoc a b c)
theorem DT{a b c d e:Nat}(h:a+b≤c)(i:c<1000)(j:d=b)(k:e≤c):a+2*e<10000:=by lia
theorem DU{a b c d e f g:Nat}(h:a<1000)(i:b+c≤a)(j:d≤a)(k:e≤6*b)(l:f≤6*c+7*d)(m:g=c):e+f<100000:=by lia
theorem DV{a b c d e:Nat}(h:a+b≤c)(i:c<1000)(j:d=b)(k:e≤c):a+(e+b)<10000:=by lia
theorem DW{a b c:Nat}(h:a=b):c+a=c+b:=by lia
theorem DX{a b c d e f:Nat}(h:a+b≤c)(i:d≤6*b+7*e)(j:e≤c)(k:f≤6*a):0+1+1+1+1+(f+d)+(0+1+1+1)≤13*c+7:=by lia
theorem DY{a b c d e f:Nat}(h:a≤6*(b+c)+7*(d+1))(i:e≤6*f):0+1+1+1+1+1+1+e+(0+1)+a≤6*(f+(b+c))+7*(d+1+1):=by lia
theorem DZ{a b:Nat}(h:a≤6*b):0+1+1+a≤6*(b+0)+7*(0+1):=by lia
theorem D0{a b c:Nat}(h:a≤6*b)(i:c≤6):c+a≤6*(b+1):=by lia
theorem xX{a b c d:Nat}(h:a+b≤c)(i:d≤c):a+1+b≤c+1∧d≤c+1:=by lia
theorem D1{a b c d:Nat}(h:a+1+b≤c)(i:d≤c):0+(a+1+b)≤c+1∧d+1≤c+1:=by lia
theorem D2{a b c:Nat}(h:0+a≤b)(i:c+1≤b):0+a≤b+1∧c+1≤b+1:=by lia
theorem D3{a:Nat}(h:2<a):a≠1:=by lia
theorem D4{a:Nat}(h:2<a)(i:2=a):False:=absurd i (Nat.ne_of_lt h)
theorem D5{a:Nat}(h:1=a)(i:2<a):False:=by lia
theorem D6{a:Nat}(h:2<a):0<a:=by exact Nat.zero_lt_of_lt h
theorem jH{a:Nat}(h:a<1000):a<1000000:=Nat.lt_of_lt_of_le h (Nat.le_of_ble_eq_true rfl)
theorem D7{a b:Nat}:16*(a:Int)+(b:Int)=((16*a+b:Nat):Int):=rfl
theorem D8{a:Nat}(h:a<16):a<1000000000:=Nat.lt_of_lt_of_le h (Nat.le_of_ble_eq_true rfl)
theorem D9{a b:Nat}(h:a<1000)(i:b≤13):a+b≤1000000:=by lia
theorem Ea{a b:Nat}(h:a≤6)(i:b≤6):a+b≤12:=by lia
theorem Eb{a b:Nat}(h:a≤6)(i:b≤6):1+a+b≤1000000:=by lia
theorem xY{a:Nat}(h:a≤6):1+a≤1000000:=by lia
theorem Ec{a:Nat}(h:a<100000000):a<4611686018427387904:=Nat.lt_of_lt_of_le h (Nat.le_of_ble_eq_true rfl)
theorem Ed{a:Nat}(h:a<100000000)(i:¬(a%8<2)):a/8<4611686018427387904:=by lia
theorem Ee{a:Nat}(h:¬(a%8=2)):¬((a:Int)%8=2):=by exact Nat.ToInt.of_diseq rfl rfl h
theorem Ef{a:Nat}(h:a<1000):a+3≤1000000:=Nat.le_trans (Nat.le_of_lt (Nat.add_lt_add_right h _)) (Nat.le_of_ble_eq_true rfl)
theorem Eg{a:Nat}(h:a/8%256<256):((a/8%256:Nat):Int)<256:=Int.ofNat_lt.2 h
theorem Eh{a:Nat}(h:a/8%256<256):0≤((a/8%256:Nat):Int):=by exact Int.natCast_nonneg (a / 8 % 256)
theorem Ei{a:Nat}(h:a%8=2):(a:Int)%8=2:=by exact Eq.symm (Nat.ToInt.of_eq rfl rfl (id (Eq.symm h)))
theorem Ej{a:Nat}(h:¬(a%8<2)):2≤(a:Int)%8:=by lia
theorem xZ{a b:Nat}(h:a<1000)(i:b≤2):a+b≤1000000:=by lia
theorem ya{a:Nat}:min (a/8%3) 2≤2:=by exact Nat.min_le_right (a / 8 % 3) 2
theorem Ek{a:Nat}:-1000000000<((a/8%3:Nat):Int)∧((a/8%3:Nat):Int)<1000000000:=by lia
theorem El{a:Nat}(h:Int.toNat (1+((a%8:Nat):Int))=1+a%8)(i:a%8<2):1+a%8≤2:=by exact Nat.one_add_le_iff.mpr i
theorem Em{a:Nat}(h:a%8<2):Int.toNat (1+((a%8:Nat):Int))=1+a%8:=rfl
theorem En{a:Nat}(h:a%8<2):1*Int.toNat (1+((a%8:Nat):Int))≤1000000:=by lia
theorem Eo{a:Nat}(h:a%8<2):-1000000000<1+((a%8:Nat):Int)∧1+((a%8:Nat):Int)<1000000000:=by omega
theorem Ep{a:Nat}(h:a%8<2):1≤1+((a%8:Nat):Int):=by exact Int.le.intro (a % 8) rfl
theorem Er{a:Nat}(h:a%8<2):(a:Int)%8<2:=by exact Int.lt_of_toNat_lt h
theorem yb{a b c:Nat}(h:a+2*(b+1)<1000)(i:c≤2):a+c+2*b<1000:=by lia
theorem Es{a b c d:Nat}(h:a+(b+1)<1000)(i:a=c+(0+1))(j:d=c+(0+1)):d+b<1000:=by lia
theorem yc{a b c:Nat}(h:a+13*(b+1)<1000)(i:c≤13):a+c+13*b<1000:=by lia
theorem Et{a b:Nat}(h:a+13*(b+1)<1000):b<1000:=by lia
theorem Eu{a b c d:Nat}(h:a+(b+1)<1000)(i:a=c+(0+1))(j:d=c+(0+1)+(0+1)):d+b<1000:=by lia
theorem yd{a b c:Nat}(h:a+13*(b+1)<1000)(i:c+(b+1)<1000):c<1000:=by exact Nat.lt_of_add_right_lt i
theorem Ev{a b c:Nat}(h:a+13*(b+1)<1000)(i:c+2*(b+1)<1000):c<1000:=by exact Nat.lt_of_add_right_lt i
theorem Ew{a b:Nat}(h:a+13*(b+1)<1000):a<1000:=by exact Nat.lt_of_add_right_lt h
theorem Ex{a b:Nat}(h:a≤6)(i:b≤6):0+1+(a+(b+0))≤13:=by lia
theorem Ey{a:Nat}(h:3≤min 5 a):3≤((min 5 a:Nat):Int):=by exact Int.toNat_le.mp h
theorem Ez{a:Nat}(h:a<3)(i:a≤5):a+3≤1000000:=Nat.le_trans (Nat.le_of_lt (Nat.add_lt_add_right h _)) (Nat.le_of_ble_eq_true rfl)
theorem EA{a:Nat}(h:min 5 a<3):((min 5 a:Nat):Int)<3:=Int.ofNat_lt.2 h
theorem EB{a:Nat}(h:a≤6):1+a+1≤1000000:=by lia
theorem EC{a b c:Nat}(h:a=b)(i:b≤c)(j:c≤4):a≤6:=by lia
theorem ED{a b:Nat}(h:a=b)(i:b≤4):a<1000:=by lia
theorem EE{a:Nat}:1<(a:Int)+1+1:=by exact Int.compare_eq_gt.mp rfl
theorem EF{a b:Nat}(h:a≤b+1)(i:b≤5):a≤6:=by lia
theorem EG{a:Nat}(h:a≤5):a<1000:=Nat.lt_of_le_of_lt h (Nat.le_of_ble_eq_true rfl)
theorem EH{a:Nat}(h:a≤5):2*a<1000:=by lia
theorem EI{a:Nat}(h:a≤5):1+a<1000:=by lia
theorem EJ{a:Nat}(h:a≤5):13*a<1000:=by lia
theorem EK{a:Nat}(h:a≤5):a≤1000000:=Nat.le_trans h (Nat.le_of_ble_eq_true rfl)
theorem EL{a:Nat}(h:a≤63):min 5 a≤5:=by lia
theorem EM{a:Nat}(h:a≤63):min 5 a≤1000000:=by lia
theorem EN{a b:Nat}(h:a+1≤b+1):a+1≤b+1+1:=Nat.le_succ_of_le h
theorem EO{a b:Nat}(h:a≤b+1):a+1≤b+1+1:=by exact Nat.add_le_add_right h 1
theorem EP{x:Int}(h:0≤x%100000000):x%100000000=((Int.toNat (x%100000000):Nat):Int):=by exact Eq.symm (Int.toNat_of_nonneg h)
theorem EQ{a:Nat}(h:a≤5):a+0≤5:=h
theorem ER{a:Nat}(h:a<3)(i:a≤5):a+(0+1+1+1)≤5:=Nat.lt_of_lt_of_le (Nat.add_lt_add_right h _) (Nat.le_of_ble_eq_true rfl)
theorem ES{a:Nat}:min 5 a≤5:=by exact Nat.min_le_left 5 a
theorem ET{a:Nat}(h:a=65∨a=13∨a=8):a<100000000:=by lia
theorem EU{x:Int}(h:0≤x%100000000):Int.toNat (x%100000000)<100000000:=by lia
theorem ye{a b:Nat}(h:3*a%3=0)(i:3*b≤3*a):b≤a:=by lia
theorem EV{a b:Nat}(h:3*a%3=0)(i:b<a):3*b<3*a:=by lia
theorem yf{a b:Nat}(h:a≤b):3*a≤3*b:=by exact Nat.mul_le_mul_left 3 h
theorem EW{a:Nat}(h:a%3=0):a=3*(a/3):=by lia
theorem EX{a b:Nat}:a+1≤a+1+3*b:=by exact Nat.le_add_right (a + 1) (3 * b)
theorem EY{a b:Nat}(h:a<b)(i:b<a):False:=by lia
theorem EZ{a b c d:Nat}(h:a+b≤c∧a<c)(i:d≤a):d≤a∧a<d+(c-d):=by lia
theorem E0{a b c:Nat}(h:0≤(a:Int)∧(a:Int)+(b:Int)≤(c:Int))(i:0<b):a+b≤c∧a<c:=by omega
theorem E2{a b c d:Nat}(h:a≤b)(i:¬(a+c≤d)):¬(b+c≤d):=by lia
theorem yg{a b:Nat}(h:a≤b)(i:¬(b=a)):a+1≤b:=by lia
theorem E3{a b:Nat}(h:a+1≤b):a≤b:=by exact Nat.le_of_succ_le h
theorem E4{a b:Nat}(h:a<b)(i:b≤a):¬(a<b):=by omega
theorem E5{a b c d:Nat}(h:a+1≤0+b)(i:b≤c):¬(c+d≤a):=by lia
theorem E6{a:Nat}(h:a%3≠0):a%3=1∨a%3=2:=by lia
theorem E7{a:Nat}:a=3*(a/3)+a%3:=by exact Eq.symm (Nat.div_add_mod a 3)
theorem E8{a b c:Nat}(h:¬(a+b≤c)):¬(0≤(a:Int)∧(a:Int)+(b:Int)≤(c:Int)):=by lia
theorem E9{a b c:Nat}(h:¬(a+b≤c)):¬(3*a+3*b≤3*c):=by lia
theorem Fb{a b c:Nat}(h:a+b≤c):0≤(a:Int)∧(a:Int)+(b:Int)≤(c:Int):=by lia
theorem Fc{a b c:Nat}(h:a+b≤c):3*a+3*b≤3*c:=by lia
theorem yh{a:Nat}:3*(a+1)=3*a+1+1+1:=rfl
theorem Fd{a:Nat}(h:¬(a=61)):¬(61≤a)∨¬(a≤61):=by lia
theorem Fe{a b c:Nat}(h:¬(a≤b)):¬(a≤c∧c≤b):=by lia
theorem Ff{a b c:Nat}(h:¬(a≤b∧b≤c)):¬(a≤b)∨¬(b≤c):=by exact Decidable.not_and_iff_or_not.mp h
theorem Fg{a b:Nat}(h:¬(a=b)):¬(b≤a)∨¬(a≤b):=by lia
theorem Fh{a:Nat}:3*a+1+1+1=3*(a+1):=rfl
theorem Fi{a:Nat}(h:1≤a):a=a-1+1:=by exact (Nat.sub_eq_iff_eq_add h).mp rfl
theorem Fj{a b c:Nat}(h:(a:Int)≤(b:Int)-(c:Int)):a≤b:=by lia
theorem Fk{a b c:Nat}(h:3*a+3*b≤3*c)(i:¬(b≤c)):False:=by lia
theorem Fm{a b:Nat}(h:¬(a≤b)):¬(0≤(b:Int)-(a:Int)∧(b:Int)-(a:Int)+(a:Int)≤(b:Int)):=by lia
theorem Fn{a b c d:Nat}(h:(a:Int)-(b:Int)=((a-c:Nat):Int))(i:(d:Int)≤(a:Int)-(c:Int)):3*d+3*c≤3*a:=by lia
theorem Fo{a b c d:Nat}(h:(a:Int)-(b:Int)=((a-c:Nat):Int))(i:3*d+3*c≤3*a):(d:Int)≤(a:Int)-(c:Int):=by lia
theorem Fp{a b c:Nat}(h:(a:Int)-(b:Int)=((a-c:Nat):Int))(i:c≤a):3*a-3*c=3*(a-c):=by exact Eq.symm (Nat.mul_sub_left_distrib 3 a c)
theorem Fq{a b:Nat}(h:a≤b):(b:Int)-(a:Int)=((b-a:Nat):Int):=by exact Eq.symm (Int.ofNat_sub h)
theorem Fr{a:Nat}(h:(a:Int)≤-1):False:=by lia
theorem Ft{a b:Nat}{x:Int}(h:(a:Int)+(b:Int)≤x):a<Int.toNat (x-(b:Int)+1):=by lia
theorem Fu{a b:Nat}{x y:Int}(h:(a:Int)=x)(i:a<Int.toNat (y-(b:Int)+1)):(a:Int)+(b:Int)≤y:=by lia
theorem Fv{a b:Nat}{x:Int}(h:(a:Int)+(b:Int)≤x):((a+b:Nat):Int)≤x:=h
theorem Fw{a b:Nat}(h:(a:Int)≤(b:Int)):a≤b:=Int.ofNat_le.1 h
theorem Fx{a b:Nat}(h:a≤b):(a:Int)≤(b:Int):=Int.ofNat_le.2 h
theorem Fy{a b:Nat}{x:Int}(h:((a+b:Nat):Int)≤x):(a:Int)+(b:Int)≤x:=h
theorem Fz{a b c:Nat}(h:a≤b):a+c≤b+c:=by exact Nat.add_le_add_right h c
theorem FA{a b c:Nat}{x:Int}(h:((a+b:Nat):Int)≤x)(i:c≤a):(c:Int)≤x:=by lia
theorem FB{a:Nat}{x y:Int}(h:(a:Int)≤x)(i:x≤y):(a:Int)≤y:=by exact Int.le_trans h i
theorem FC{a b c:Nat}(h:a≤b)(i:b≤c):a≤c:=Nat.le_trans h i
theorem FD{a b:Nat}{x:Int}(h:(a:Int)≤x)(i:b≤a):(b:Int)≤x:=by lia
theorem FE{a b:Nat}:3*a+3*b=3*(a+b):=by exact Eq.symm (Nat.mul_add 3 a b)
theorem FF{a:Nat}(h:a<100):3*a≤1000000:=by lia
theorem FG{a:Nat}(h:a<100):a≤1000000:=Nat.le_trans (Nat.le_of_lt h) (Nat.le_of_ble_eq_true rfl)
theorem yi{a:Nat}(h:a<256):(a:Int)<256:=Int.ofNat_lt.2 h
theorem yj{a:Nat}(h:a<256):0≤(a:Int):=by exact Int.natCast_nonneg a
theorem FH{a b:Nat}(h:a<16)(i:b<16):16*a+b<256:=by lia
theorem FI{a:Nat}:a/8%256<256:=by lia
theorem FJ{a b:Nat}(h:a=b/8%256):a<256:=by lia
theorem FK{a b:Nat}(h:a=b/24%256∨a=10):a<256:=by lia
theorem FL{a b:Nat}(h:a≤50)(i:b≤a):b≤1000:=by lia
theorem gg{a:Nat}(h:a≤50):a<1000:=Nat.lt_of_le_of_lt h (Nat.le_of_ble_eq_true rfl)
theorem yk{a:Nat}(h:a<50):a<500:=Nat.lt_of_lt_of_le h (Nat.le_of_ble_eq_true rfl)
theorem jI{a:Nat}(h:a≤50):3*a<1000:=by lia
theorem FM{a b:Nat}(h:a≤50)(i:b≤a):b<8000:=by lia
theorem FN{a b c d:Nat}(h:a+b≤c)(i:c≤50)(j:d≤b):d<9000:=by lia
theorem FO{a b c:Nat}(h:a+b≤c)(i:c≤50):a<9000:=by lia
theorem FP{a b:Nat}(h:a≤13*b+7)(i:b≤50):a<90000:=by lia
theorem FQ{a b c:Nat}(h:a≤b):a≤c+b:=by exact Nat.le_add_left_of_le h
theorem FR{a:Nat}(h:a<1536):a<1000000:=Nat.lt_of_lt_of_le h (Nat.le_of_ble_eq_true rfl)
theorem FS{a:Nat}:16*(a/16)+a%16=a:=by exact Nat.div_add_mod a 16
theorem FT{a:Nat}(h:a≤50):a<9000:=Nat.lt_of_le_of_lt h (Nat.le_of_ble_eq_true rfl)
theorem FU{a:Nat}(h:a≤50):a-1≤50:=by omega
theorem FV{a b c:Nat}(h:a=b)(i:b≤5)(j:c≤2*b):c≤50:=by lia
theorem FW{a b c:Nat}(h:a=b)(i:b≤5)(j:c≤13*b):c<9000:=by lia
theorem FX{a b c:Nat}(h:a=b)(i:b≤5)(j:c≤3*a):c≤50:=by lia
theorem FY{a b c:Nat}(h:a=b)(i:b≤5)(j:c≤a):c≤40:=by lia
theorem FZ{a b c:Nat}(h:a=b)(i:b≤5)(j:c≤a):c≤50:=by lia
theorem F0{a b:Nat}(h:a<50)(i:b≤a+1):b<1000:=by lia
theorem yl{a:Nat}(h:a≤50):a<100:=Nat.lt_of_le_of_lt h (Nat.le_of_ble_eq_true rfl)
theorem F4{a b:Nat}(h:a≤39)(i:b≤a):b<50:=by lia
theorem F7{a b:Nat}(h:a≤50)(i:b≤a):b≤50:=Nat.le_trans i h
theorem F8{a b:Nat}(h:a≤50)(i:b≤a):b<1000:=by lia
theorem F9{a b c:Nat}(h:a≤13*b)(i:c≤13):c+a≤13*(b+1):=by lia
theorem Ga{a b:Nat}(h:a≤3*b):a+1+1+1≤3*(b+1):=by lia
theorem Gb{a b c:Nat}(h:a≤3*b)(i:c≤2):c+a≤3*(b+1):=by lia
theorem Gc{a b c:Nat}:min (a-b) a-c≤a:=by omega
theorem Gd{a b:Nat}(h:a=b):a≤b:=by lia
theorem Ge{a b c:Nat}:min a b-c≤b:=by omega
theorem Gf{a b c:Nat}(h:a+b<c):a<c:=by lia
theorem Gg{a b c:Nat}(h:a+60*b+100<c):a<c:=by lia
theorem Gh{a:Nat}(h:(a=61∨48≤a∧a≤57)∨65≤a∧a≤70)(i:(¬((a:Int)=61)∧(48≤(a:Int)→57<(a:Int)))∧(65≤(a:Int)→70<(a:Int))):False:=by lia
theorem Gi:256≤1000000:=by exact Nat.le_of_ble_eq_true rfl
theorem Gj{a b:Nat}(h:a<b)(i:b=14):a<15:=by lia
end Mine
namespace Mine
open PySem
inductive V where
 | none
 | bool (b : Bool)
 | int (i : Int)
 | str (s : List Nat)
 | tup (l : List V)
 | lst (l : List V)
 | rng (a b c : Int)
 | cell (k : Nat)
 | app (k : Nat)
 | spc
 | con (v : Value)
structure St where
 loc : List (Option V)
 cells : List (List V)
set_option genInjectivity false in
inductive G where
 | len | range | ord | chr | int16 | min | max | object | isStr
 | fn (n : Nat)
set_option genInjectivity false in
inductive Gv where
 | hexdigits | nl | quopri | special
set_option genInjectivity false in
inductive Mt where
 | find | replace | join | splitlines | rstrip | endswith | translate | append | extend
set_option genInjectivity false in
inductive X where
 | cst (v : V)
 | loc (i : Nat)
 | glo (g : Gv)
 | and (a b : X)
 | or (a b : X)
 | not (a : X)
 | neg (a : X)
 | bin (op : Operator) (a b : X)
 | ite (t a b : X)
 | cmp (a : X) (op : CmpOp) (b : X)
 | cmp2 (a : X) (op : CmpOp) (b : X) (op' : CmpOp) (c : X)
 | comp (two : Bool) (slot : Nat) (elt iter : X) (ifs : List X)
 | jgen (sep : List Nat) (src : Nat)
 | call (g : G) (args : List X)
 | meth (m : Mt) (o : X) (args : List X)
 | cadd (i : Nat) (a : X)
 | attr (o : X)
 | idx (o i : X)
 | slc (o : X) (lo hi : Option X)
 | rev (o : X)
 | mid (o : X)
 | lst (l : List X)
 | new0
 | new1
 | tup (l : List X)
 | fstr (l : List X)
 | sub (a : X)
set_option genInjectivity false in
inductive S where
 | assign (i : Nat) (e : X)
 | tuple (is : List Nat) (e : X)
 | setidx (o i e : X)
 | del (o i : X)
 | aug (i : Nat) (op : Operator) (e : X)
 | expr (e : X)
 | ite (t : X) (a b : List S)
 | whl (t : X) (b : List S)
 | for (i : Nat) (it : X) (b : List S)
 | ret (e : X)
 | brk
 | cont
 | assert (t : X)
 | bad
set_option genInjectivity false in
inductive Fl where
 | next | brk | cont
 | ret (v : V)
noncomputable def lim : Nat := 1000000
noncomputable def small (i : Int) : Prop := -4611686018427387904 < i ∧ i < 4611686018427387904
noncomputable def aE (cs : List (List V)) : V → Option (List V)
 | .lst l => some l
 | .cell k => cs[k]?
 | _ => Option.none
noncomputable def cW (a b c : Int) : List Int := if c = 1 then (List.range (b - a).toNat).map fun (k : Nat) => a + k else (List.range (a - b).toNat).map fun (k : Nat) => a - k
noncomputable def cw : V → Option (List V)
 | .lst l => some l
 | .rng a b c => some ((cW a b c).map V.int)
 | .str x => some (x.map fun c => V.str [c])
 | _ => Option.none
noncomputable def bX : List V → Option (List Int)
 | [] => some []
 | .int i :: r => (bX r).map (i :: ·)
 | _ :: _ => Option.none
noncomputable def txts : List V → Option (List (List Nat))
 | [] => some []
 | .str i :: r => (txts r).map (i :: ·)
 | _ :: _ => Option.none
noncomputable def cY (n : Nat) (i : Int) : Option Nat :=
 if 0 ≤ i then (if i < n then some i.toNat else Option.none) else if -(n : Int) ≤ i then some (i + n).toNat else Option.none
noncomputable def ce (n : Nat) (i : Int) : Nat := if i < 0 then (i + n).toNat else min i.toNat n
noncomputable def cut {α : Type} (x : List α) (lo hi : Option Int) : List α :=
 (x.take (hi.elim x.length (ce x.length))).drop (lo.elim 0 (ce x.length))
theorem ex2 {α : Type} {p q : α → Prop} {P : Prop} (h : ∃ x, p x ∧ q x) (k : ∀ x, p x → q x → P) : P := h.elim fun x h => k x h.1 h.2
theorem ab {α : Type _} {x : α} {P : Prop} (h : Option.none = some x) : P := by cases h
theorem cn {α : Type _} {x : α} {P : Prop} (h : some x = Option.none) : P := by cases h
theorem aH {P : Prop} (h : false = true) : P := by cases h
theorem gh {P : Prop} (h : true = false) : P := by cases h
noncomputable def onO {α : Type} (o : Option α) (K : α → Prop) : Prop := match o with
 | some x => K x
 | Option.none => False
noncomputable def cZ (v : V) (K : List Nat → Prop) : Prop := match v with
 | .str x => K x
 | _ => False
noncomputable def cq (v : V) (K : Int → Prop) : Prop := match v with
 | .int x => K x
 | _ => False
noncomputable def lf (v : V) (K : Nat → Prop) : Prop := match v with
 | .cell x => K x
 | _ => False
noncomputable def on0 {α : Type} (l : List α) (P : Prop) : Prop := match l with
 | [] => P
 | _ :: _ => False
noncomputable def on1 {α : Type} (l : List α) (K : α → Prop) : Prop := match l with
 | [] => False
 | a :: r => on0 r (K a)
noncomputable def on2 {α : Type} (l : List α) (K : α → α → Prop) : Prop := match l with
 | [] => False
 | a :: r => on1 r (K a)
noncomputable def lg (v : V) (K : Nat → Prop) : Prop := cZ v fun x => on1 x K
theorem bP {α : Type} {o : Option α} {K : α → Prop} (h : onO o K) : ∃ x, o = some x ∧ K x := by cases o with
 | none => exact h.elim
 | some x => exact ⟨x, rfl, h⟩
theorem bQ {v : V} {K : List Nat → Prop} (h : cZ v K) : ∃ x, v = .str x ∧ K x := by cases v with
 | str x => exact ⟨x, rfl, h⟩
 | _ => exact h.elim
theorem bn {v : V} {K : Int → Prop} (h : cq v K) : ∃ x, v = .int x ∧ K x := by cases v with
 | int x => exact ⟨x, rfl, h⟩
 | _ => exact h.elim
theorem iD {v : V} {K : Nat → Prop} (h : lf v K) : ∃ x, v = .cell x ∧ K x := by cases v with
 | cell x => exact ⟨x, rfl, h⟩
 | _ => exact h.elim
theorem hV {α : Type} {l : List α} {P : Prop} (h : on0 l P) : l = [] ∧ P := by cases l with
 | nil => exact ⟨rfl, h⟩
 | cons => exact h.elim
theorem c4 {α : Type} {l : List α} {K : α → Prop} (h : on1 l K) : ∃ x, l = [x] ∧ K x := by cases l with
 | nil => exact h.elim
 | cons a r => obtain ⟨rfl, h⟩ := hV h; exact ⟨a, rfl, h⟩
theorem um {α : Type} {l : List α} {K : α → α → Prop} (h : on2 l K) : ∃ x y, l = [x, y] ∧ K x y := by cases l with
 | nil => exact h.elim
 | cons a r => obtain ⟨y, rfl, h⟩ := c4 h; exact ⟨a, y, rfl, h⟩
theorem iP {v : V} {K : Nat → Prop} (h : lg v K) : ∃ x, v = .str [x] ∧ K x := by
 obtain ⟨x, rfl, h⟩ := bQ h
 obtain ⟨y, rfl, h⟩ := c4 h
 exact ⟨y, rfl, h⟩
noncomputable def so (cs : List (List V)) (a b : V) (K : V → Prop) : Prop := onO (aE cs a) fun l => onO (aE cs b) fun m => l.length + m.length ≤ lim ∧ K (.lst (l ++ m))
noncomputable def ym (cs : List (List V)) (a b : V) (K : V → Prop) : Prop := match a with
 | .int i => cq b fun j => K (.int (i + j))
 | .str x => cZ b fun y => x.length + y.length ≤ lim ∧ K (.str (x ++ y))
 | .lst l => so cs (.lst l) b K
 | .cell k => so cs (.cell k) b K
 | _ => False
noncomputable def yn (a b : V) (K : V → Prop) : Prop := match a with
 | .int i => cq b fun j => small i ∧ small j ∧ K (.int (i * j))
 | .str x => cq b fun n => 1 ≤ n ∧ small n ∧ x.length * n.toNat ≤ lim ∧ K (.str (List.replicate n.toNat x).flatten)
 | _ => False
noncomputable def dx (cs : List (List V)) (op : Operator) (a b : V) (K : V → Prop) : Prop := match op with
 | .Add => ym cs a b K
 | .Sub => cq a fun i => cq b fun j => K (.int (i - j))
 | .Mult => yn a b K
 | .FloorDiv => cq a fun i => cq b fun j => j ≠ 0 ∧ j.natAbs < 1073741824 ∧ K (.int (i.fdiv j))
 | .Mod => cq a fun i => cq b fun j => j ≠ 0 ∧ K (.int (i.fmod j))
 | _ => False
noncomputable def Gk (a b : V) (K : V → Prop) : Prop := match a with
 | .int i => cq b fun j => K (.int (i + j))
 | .str x => cZ b fun y => x.length + y.length ≤ lim ∧ K (.str (x ++ y))
 | _ => False
noncomputable def lh (op : Operator) (a b : V) (K : V → Prop) : Prop := match op with
 | .Add => Gk a b K
 | _ => False
noncomputable def gO (l m : List V) : Option Bool :=
 if l.length ≠ m.length then some false else
 if l.length = 0 then some true else
 match txts l, txts m with
 | some x, some y => some (decide (x = y))
 | _, _ => Option.none
noncomputable def li : V → Option Addr
 | .con v => (match v with | .ref a => some a | _ => Option.none)
 | _ => Option.none
noncomputable def isN : V → Option Bool
 | .none => some true
 | .str _ => some false
 | .lst _ => some false
 | .cell _ => some false
 | _ => Option.none
noncomputable def isR (a : Addr) (v : V) : Option Bool := match v with
 | .str _ => some false
 | v => (match li v with | some b => if a = b then some true else Option.none | Option.none => Option.none)
noncomputable def isS (a : V) : Option Bool := match a with
 | .str _ => some false
 | _ => Option.none
noncomputable def isW (a b : V) : Option Bool := match li a with
 | some x => isR x b
 | Option.none => (li b).bind fun _ => isS a
noncomputable def isV (a b : V) : Option Bool := match b with
 | .none => isN a
 | b => isW a b
noncomputable def sq (x : List Nat) : Option Nat := match x with
 | [] => Option.none
 | c :: r => (match r with | [] => some c | _ :: _ => Option.none)
noncomputable def inV (cs : List (List V)) (a b : V) : Option Bool := match a with
 | .str x => (match b with
  | .str y => (sq x).map fun c => y.contains c
  | .tup l => (txts l).map fun l => l.contains x
  | _ => Option.none)
 | .int i => (aE cs b).bind fun l => (bX l).map fun l => l.contains i
 | _ => Option.none
noncomputable def eqL (cs : List (List V)) (a b : V) : Option Bool := (aE cs a).bind fun l => (aE cs b).bind fun m => gO l m
noncomputable def eqV (cs : List (List V)) (a b : V) : Option Bool := match a with
 | .int i => (match b with | .int j => some (decide (i = j)) | _ => Option.none)
 | .str x => (match b with | .str y => some (decide (x = y)) | _ => Option.none)
 | .bool x => (match b with | .bool y => some (x == y) | _ => Option.none)
 | .lst l => eqL cs (.lst l) b
 | .cell k => eqL cs (.cell k) b
 | _ => Option.none
noncomputable def ltV (a b : V) : Option Bool := match a with
 | .int i => (match b with | .int j => some (decide (i < j)) | _ => Option.none)
 | .str x => (match b with | .str y => some (decide (x < y)) | _ => Option.none)
 | _ => Option.none
noncomputable def aR (cs : List (List V)) (op : CmpOp) (a b : V) : Option Bool := match op with
 | .Eq => eqV cs a b
 | .NotEq => (eqV cs a b).map not
 | .Lt => ltV a b
 | .Gt => ltV b a
 | .LtE => (ltV b a).map not
 | .GtE => (ltV a b).map not
 | .Is => isV a b
 | .IsNot => (isV a b).map not
 | .In => inV cs a b
 | .NotIn => (inV cs a b).map not
noncomputable def bE (cs : List (List V)) : V → Option Bool
 | .bool b => some b
 | .str x => some (!x.isEmpty)
 | v => (aE cs v).map fun l => !l.isEmpty
noncomputable def ae (o : Option Bool) (K : Bool → Prop) : Prop := match o with
 | some b => K b
 | Option.none => False
noncomputable def iQ (cs : List (List V)) : V → Option (List V)
 | .tup l => some l
 | v => aE cs v
noncomputable def jJ (cs : List (List V)) (o : V) (i : Int) (K : V → Prop) : Prop := onO (iQ cs o) fun l => onO (cY l.length i) fun j => onO l[j]? K
noncomputable def Gl (cs : List (List V)) (o : V) (i : Int) (K : V → Prop) : Prop := match o with
 | .str x => onO (cY x.length i) fun j => onO x[j]? fun c => K (.str [c])
 | .lst l => jJ cs (.lst l) i K
 | .tup l => jJ cs (.tup l) i K
 | .cell k => jJ cs (.cell k) i K
 | _ => False
noncomputable def eX (cs : List (List V)) (o i : V) (K : V → Prop) : Prop := cq i fun i => Gl cs o i K
noncomputable def dy : Option V → Option (Option Int)
 | Option.none => some Option.none
 | some (.int i) => some (some i)
 | some _ => Option.none
noncomputable def sr (cs : List (List V)) (o : V) (a b : Option Int) (K : V → Prop) : Prop := onO (aE cs o) fun l => (∀ i, a = some i → small i) ∧ (∀ i, b = some i → small i) ∧ K (.lst (cut l a b))
noncomputable def Gm (cs : List (List V)) (o : V) (a b : Option Int) (K : V → Prop) : Prop := match o with
 | .str x => (∀ i, a = some i → small i) ∧ (∀ i, b = some i → small i) ∧ K (.str (cut x a b))
 | .lst l => sr cs (.lst l) a b K
 | .cell k => sr cs (.cell k) a b K
 | _ => False
noncomputable def gP (cs : List (List V)) (o : V) (lo hi : Option V) (K : V → Prop) : Prop := onO (dy lo) fun a => onO (dy hi) fun b => Gm cs o a b K
noncomputable def cF (c : Nat) : Option Nat := if 48 ≤ c ∧ c ≤ 57 then some (c - 48) else if 65 ≤ c ∧ c ≤ 70 then some (c - 55) else Option.none
noncomputable def aW : Int → List Int → Int
 | m, [] => m
 | m, x :: r => aW (if m < x then x else m) r
noncomputable def bJ : Int → List Int → Int
 | m, [] => m
 | m, x :: r => bJ (if x < m then x else m) r
noncomputable def vals (l : List V) : V := .lst l
noncomputable def V.fz : V → Bool
 | .cell _ | .app _ | .rng _ _ _ => false
 | .tup l => fzs l
 | .lst l => fzs l
 | _ => true
where fzs : List V → Bool
 | [] => true
 | v :: r => v.fz && fzs r
noncomputable def oi (l : List V) : Bool := V.fz.fzs l
noncomputable def aq (cs : List (List V)) : Nat → V → Option V
 | 0, _ => Option.none
 | n + 1, v => if v.fz then some v else match v with
  | .cell k => (match cs[k]? with
   | some l => (l.mapM (aq cs n)).map V.lst
   | Option.none => Option.none)
  | .lst l => (l.mapM (aq cs n)).map V.lst
  | .tup l => (l.mapM (aq cs n)).map V.tup
  | _ => Option.none
abbrev Fns := Nat → List V → V → Prop
noncomputable def su (cs : List (List V)) (v : V) (K : V → Prop) : Prop := onO (aE cs v) fun l => K (.int l.length)
noncomputable def yo (cs : List (List V)) (v : V) (K : V → Prop) : Prop := match v with
 | .str x => K (.int x.length)
 | .lst l => su cs (.lst l) K
 | .cell k => su cs (.cell k) K
 | _ => False
noncomputable def Gn (a : Int) (l : List V) (K : V → Prop) : Prop := match l with
 | [] => small a ∧ K (.rng 0 a 1)
 | b :: r => cq b fun b => match r with
  | [] => small a ∧ small b ∧ K (.rng a b 1)
  | c :: r => on0 r (cq c fun c => small a ∧ small b ∧ c = -1 ∧ K (.rng a b (-1)))
noncomputable def Go (l : List V) (K : V → Prop) : Prop := match l with
 | [] => False
 | a :: r => cq a fun a => Gn a r K
noncomputable def hd? (l : List Int) (K : Int → List Int → Prop) : Prop := match l with
 | [] => False
 | x :: r => K x r
noncomputable def bB (fns : Fns) (cs : List (List V)) (g : G) (args : List V) (K : V → Prop) : Prop := match g with
 | .len => on1 args fun v => yo cs v K
 | .range => Go args K
 | .ord => on1 args fun v => lg v fun c => K (.int c)
 | .chr => on1 args fun v => cq v fun i => 0 ≤ i ∧ i < 256 ∧ K (.str [i.toNat])
 | .int16 => on1 args fun v => cZ v fun x => on2 x fun c d => onO (cF c) fun a => onO (cF d) fun b => K (.int (16 * a + b : Nat))
 | .max => on1 args fun v => onO ((aE cs v).bind bX) fun l => hd? l fun x r => K (.int (aW x r))
 | .min => on1 args fun v => onO ((aE cs v).bind bX) fun l => hd? l fun x r => K (.int (bJ x r))
 | .object => on0 args (∀ a, K (.con (.ref a)))
 | .isStr => on1 args fun v => cZ v fun _ => K (.bool true)
 | .fn n => oi args = true ∧ ∃ v, fns n args v ∧ K v
noncomputable def bf (sep : List Nat) : List (List Nat) → List Nat
 | [] => []
 | [x] => x
 | x :: r => x ++ sep ++ bf sep r
noncomputable def bl (c : Nat) (x : List Nat) (lo hi : Nat) : Int := match ((x.take hi).drop lo).findIdx? (· == c) with
 | some j => ((lo + j : Nat) : Int)
 | Option.none => -1
noncomputable def ag (c : Nat) : Bool := c == 61 || (48 ≤ c && c ≤ 57) || (65 ≤ c && c ≤ 70)
noncomputable def cG (c : Nat) : Bool := 33 ≤ c && c ≤ 126
noncomputable def AL (cs : List (List V)) (x : List Nat) (c : Nat) (a : Int) (l : List V) (K : V → List (List V) → Prop) : Prop := match l with
 | [] => 0 ≤ a ∧ small a ∧ K (.int (bl c x a.toNat x.length)) cs
 | b :: r => on0 r (cq b fun b => 0 ≤ a ∧ small a ∧ 0 ≤ b ∧ small b ∧ b ≤ x.length ∧ K (.int (bl c x a.toNat b.toNat)) cs)
noncomputable def AM (cs : List (List V)) (x : List Nat) (l : List V) (K : V → List (List V) → Prop) : Prop := match l with
 | [] => False
 | c :: r => lg c fun c => match r with
  | [] => False
  | a :: r => cq a fun a => AL cs x c a r K
noncomputable def yp (v : V) (P : Prop) : Prop := match v with
 | .spc => P
 | _ => False
theorem yq {v : V} {P : Prop} (h : yp v P) : v = .spc ∧ P := by cases v with
 | spc => exact ⟨rfl, h⟩
 | _ => exact h.elim
noncomputable def un (v : V) (K : List V → Prop) : Prop := match v with
 | .lst x => K x
 | _ => False
theorem u3 {v : V} {K : List V → Prop} (h : un v K) : ∃ x, v = .lst x ∧ K x := by cases v with
 | lst x => exact ⟨x, rfl, h⟩
 | _ => exact h.elim
noncomputable def bL (cs : List (List V)) (m : Mt) (o : V) (args : List V) (K : V → List (List V) → Prop) : Prop := match m with
 | .find => cZ o fun x => AM cs x args K
 | .replace => cZ o fun x => on2 args fun c y => lg c fun c => cZ y fun _ => x.contains c = false ∧ K (.str x) cs
 | .join => cZ o fun sep => on1 args fun v => onO ((aE cs v).bind txts) fun l => (bf sep l).length ≤ lim ∧ K (.str (bf sep l)) cs
 | .splitlines => cZ o fun x => on0 args (x ≠ [] ∧ x.all cG = true ∧ K (.lst [.str x]) cs)
 | .rstrip => cZ o fun x => on0 args (x.all cG = true ∧ K (.str x) cs)
 | .endswith => cZ o fun x => on1 args fun v => cZ v fun y => K (.bool (y.isSuffixOf x)) cs
 | .translate => lg o fun c => on1 args fun v => yp v (ag c = true ∧ K (.str [c]) cs)
 | .append => lf o fun k => on1 args fun v => onO cs[k]? fun l => l.length < lim ∧ K .none (cs.set k (l ++ [v]))
 | .extend => lf o fun k => on1 args fun v => onO cs[k]? fun l => un v fun m => l.length + m.length ≤ lim ∧ K .none (cs.set k (l ++ m))
noncomputable def qc (v : V) : Bool := match v with
 | .str _ => true
 | _ => false
noncomputable def jK (v : V) : Bool := match v with
 | .cell _ => true
 | _ => false
noncomputable def dC (m : Mt) (v : V) : Bool := match m with
 | .append => jK v
 | .extend => jK v
 | _ => qc v
theorem u4 {v : V} (h : qc v = true) : ∃ y, v = .str y := by cases v with
 | str y => exact ⟨y, rfl⟩
 | _ => exact aH h
theorem lj {v : V} (h : jK v = true) : ∃ y, v = .cell y := by cases v with
 | cell y => exact ⟨y, rfl⟩
 | _ => exact aH h
noncomputable def gi : Gv → V
 | .hexdigits => .str [48, 49, 50, 51, 52, 53, 54, 55, 56, 57, 97, 98, 99, 100, 101, 102, 65, 66, 67, 68, 69, 70]
 | .nl => .str [10]
 | .quopri => .lst ((List.range 256).map fun c => .str [61, (if c / 16 < 10 then 48 + c / 16 else 55 + c / 16), (if c % 16 < 10 then 48 + c % 16 else 55 + c % 16)])
 | .special => .spc
noncomputable def bC (turn : V → (Option V → List (List V) → Prop) → List (List V) → Prop) : List V → List V → (List V → List (List V) → Prop) → List (List V) → Prop
 | [], acc, K, cs => K acc cs
 | x :: r, acc, K, cs => turn x (fun o cs' => bC turn r (acc ++ o.toList) K cs') cs
noncomputable def AN (l : List V) : Option (V × V) := match l with
 | [] => Option.none
 | a :: r => (match r with
  | [] => Option.none
  | b :: r => (match r with
   | [] => some (a, b)
   | _ :: _ => Option.none))
noncomputable def kN (v : V) : Option (V × V) := match v with
 | .tup l => AN l
 | _ => Option.none
theorem yr {v : V} {q : V × V} (h : kN v = some q) : v = .tup [q.1, q.2] := by
 cases v with
 | tup l =>
  cases l with
  | nil => exact ab h
  | cons a r =>
   cases r with
   | nil => exact ab h
   | cons b r =>
    cases r with
    | nil => exact Option.some.inj h ▸ rfl
    | cons => exact ab h
 | _ => exact ab h
noncomputable def bindC (two : Bool) (slot : Nat) (x : V) (loc : List (Option V)) : Option (List (Option V)) := match two with
 | false => some (loc.set slot (some x))
 | true => (kN x).map fun q => (loc.set slot (some q.1)).set (slot + 1) (some q.2)
abbrev cu {α : Type} (o : Option α) (K : α → Prop) : Prop := match o with
 | some x => K x
 | Option.none => False
abbrev kO (v : V) (K : Int → Prop) : Prop := match v with
 | .int x => K x
 | _ => False
abbrev kP (v : V) (K : Nat → Prop) : Prop := match v with
 | .cell x => K x
 | _ => False
abbrev kQ (v : V) (K : List Nat → Prop) : Prop := match v with
 | .str x => K x
 | _ => False
abbrev oj (v : V) (K : Nat → Prop) : Prop := match v with
 | .app x => K x
 | _ => False
abbrev uo (v : V) (K : List V → Prop) : Prop := match v with
 | .tup x => K x
 | _ => False
abbrev uq (v : V) (P : Prop) : Prop := match v with
 | .none => P
 | _ => False
theorem dR {α : Type} {o : Option α} {K : α → Prop} (h : cu o K) : ∃ x, o = some x ∧ K x := bP h
theorem u5 {v : V} {K : Int → Prop} (h : kO v K) : ∃ x, v = .int x ∧ K x := bn h
theorem u6 {v : V} {K : Nat → Prop} (h : kP v K) : ∃ x, v = .cell x ∧ K x := iD h
theorem u7 {v : V} {K : List Nat → Prop} (h : kQ v K) : ∃ x, v = .str x ∧ K x := bQ h
theorem u8 {v : V} {K : Nat → Prop} (h : oj v K) : ∃ x, v = .app x ∧ K x := by cases v with
 | app x => exact ⟨x, rfl, h⟩
 | _ => exact h.elim
abbrev eJ (l : List (Option V)) (i : Nat) (K : V → Prop) : Prop := cu l[i]? fun o => cu o K
theorem fS {l : List (Option V)} {i : Nat} {K : V → Prop} (h : eJ l i K) : ∃ v, l[i]? = some (some v) ∧ K v := by
 obtain ⟨o, e, h⟩ := dR h
 obtain ⟨v, rfl, h⟩ := dR h
 exact ⟨v, e, h⟩
theorem hW {l : List (Option V)} {i : Nat} {v : V} {K : V → Prop} (e : l[i]? = some (some v)) (h : K v) : eJ l i K := by unfold eJ; rw [e]; exact h
abbrev jL (cs : List (List V)) (w j : V) (K : Nat → Int → List V → Prop) : Prop := kP w fun k => kO j fun j => cu cs[k]? fun l => 0 ≤ j ∧ j < l.length ∧ K k j l
theorem qd {cs : List (List V)} {w j : V} {K : Nat → Int → List V → Prop} (h : jL cs w j K) : ∃ k i l, w = .cell k ∧ j = .int i ∧ cs[k]? = some l ∧ 0 ≤ i ∧ i < l.length ∧ K k i l := by
 obtain ⟨k, rfl, h⟩ := u6 h
 obtain ⟨i, rfl, h⟩ := u5 h
 obtain ⟨l, e, h⟩ := dR h
 exact ⟨k, i, l, rfl, rfl, e, h⟩
mutual
noncomputable def WE (fns : Fns) : X → (V → St → Prop) → St → Prop
 | .cst v, K, st => K v st
 | .loc i, K, st => eJ st.loc i fun v => K v st
 | .glo g, K, st => K (gi g) st
 | .and _ _, _, _ => False
 | .or _ _, _, _ => False
 | .not _, _, _ => False
 | .neg a, K, st => WE fns a (fun v st => kO v fun i => K (.int (-i)) st) st
 | .bin op a b, K, st => WE fns a (fun x st => WE fns b (fun y st => dx st.cells op x y (fun v => K v st)) st) st
 | .ite t a b, K, st => WT fns t (fun c st => if c = true then WE fns a K st else WE fns b K st) st
 | .cmp a op b, K, st => WE fns a (fun x st => WE fns b (fun y st => ae (aR st.cells op x y) (fun c => K (.bool c) st)) st) st
 | .cmp2 a op b op' c, K, st => WE fns a (fun x st => WE fns b (fun y st => ae (aR st.cells op x y) (fun o => if o = true then WE fns c (fun z st => ae (aR st.cells op' y z) (fun o => K (.bool o) st)) st else K (.bool false) st)) st) st
 | .comp two slot elt iter ifs, K, st => WE fns iter (fun v st => cu (cw v) fun items => items.length ≤ lim ∧ bC (fun x K' cs => cu (bindC two slot x st.loc) fun loc => WTs fns ifs (fun b st' => if b = true then WE fns elt (fun y st'' => K' (some y) st''.cells) st' else K' Option.none st'.cells) ⟨loc, cs⟩) items [] (fun l cs => K (.lst l) ⟨st.loc, cs⟩) st.cells) st
 | .jgen sep src, K, st => eJ st.loc src fun v => cu ((aE st.cells v).bind txts) fun l => l.all (fun x => !x.contains 92 && !x.contains 45) = true ∧ (bf sep l).length ≤ lim ∧ K (.str (bf sep l)) st
 | .call g args, K, st => WEs fns args (fun vs st => bB fns st.cells g vs (fun v => K v st)) st
 | .meth m o args, K, st => WE fns o (fun v st => dC m v = true ∧ WEs fns args (fun vs st => bL st.cells m v vs (fun r cs => K r ⟨st.loc, cs⟩)) st) st
 | .cadd i a, K, st => eJ st.loc i fun w => oj w fun k => WE fns a (fun v st => bL st.cells .append (.cell k) [v] (fun r cs => K r ⟨st.loc, cs⟩)) st
 | .attr o, K, st => WE fns o (fun v st => kP v fun k => K (.app k) st) st
 | .idx o i, K, st => WE fns o (fun v st => WE fns i (fun j st => eX st.cells v j (fun r => K r st)) st) st
 | .slc o lo hi, K, st => WE fns o (fun v st => WO fns lo (fun a st => WO fns hi (fun b st => gP st.cells v a b (fun r => K r st)) st) st) st
 | .rev o, K, st => WE fns o (fun v st => cu (aE st.cells v) fun l => K (.lst l.reverse) st) st
 | .mid o, K, st => WE fns o (fun v st => cu (aE st.cells v) fun l => K (.lst ((l.take (l.length - 1)).drop 1).reverse) st) st
 | .lst l, K, st => WEs fns l (fun vs st => K (.lst vs) st) st
 | .new0, K, st => K (.cell st.cells.length) ⟨st.loc, st.cells ++ [[]]⟩
 | .new1, K, st => K (.cell (st.cells.length + 1)) ⟨st.loc, st.cells ++ [[], [.cell st.cells.length]]⟩
 | .tup l, K, st => WEs fns l (fun vs st => K (.tup vs) st) st
 | .fstr l, K, st => WF fns l [] K st
 | .sub a, K, st => WE fns a (fun v st => kQ v fun x => x.all (fun c => c != 38 && c != 124 && c != 126) = true ∧ K (.str x) st) st
noncomputable def WT (fns : Fns) : X → (Bool → St → Prop) → St → Prop
 | .and a b, K, st => WT fns a (fun c st => if c = true then WT fns b K st else K false st) st
 | .or a b, K, st => WT fns a (fun c st => if c = true then K true st else WT fns b K st) st
 | .not a, K, st => WT fns a (fun c st => K (!c) st) st
 | .ite t a b, K, st => WT fns t (fun c st => if c = true then WT fns a K st else WT fns b K st) st
 | .cmp a op b, K, st => WE fns a (fun x st => WE fns b (fun y st => ae (aR st.cells op x y) (fun c => K c st)) st) st
 | .cmp2 a op b op' c, K, st => WE fns a (fun x st => WE fns b (fun y st => ae (aR st.cells op x y) (fun o => if o = true then WE fns c (fun z st => ae (aR st.cells op' y z) (fun o => K o st)) st else K false st)) st) st
 | .cst v, K, st => ae (bE st.cells v) (fun b => K b st)
 | .loc i, K, st => eJ st.loc i fun v => ae (bE st.cells v) (fun b => K b st)
 | .call g args, K, st => WEs fns args (fun vs st => bB fns st.cells g vs (fun v => ae (bE st.cells v) (fun b => K b st))) st
 | .meth m o args, K, st => WE fns o (fun v st => dC m v = true ∧ WEs fns args (fun vs st => bL st.cells m v vs (fun r cs => ae (bE cs r) (fun b => K b ⟨st.loc, cs⟩))) st) st
 | _, _, _ => False
noncomputable def WEs (fns : Fns) : List X → (List V → St → Prop) → St → Prop
 | [], K, st => K [] st
 | a :: r, K, st => WE fns a (fun v st => WEs fns r (fun vs st => K (v :: vs) st) st) st
noncomputable def WF (fns : Fns) : List X → List Nat → (V → St → Prop) → St → Prop
 | [], acc, K, st => acc.length ≤ lim ∧ K (.str acc) st
 | a :: r, acc, K, st => WE fns a (fun v st => kQ v fun x => WF fns r (acc ++ x) K st) st
noncomputable def WTs (fns : Fns) : List X → (Bool → St → Prop) → St → Prop
 | [], K, st => K true st
 | a :: r, K, st => WT fns a (fun c st => if c = true then WTs fns r K st else K false st) st
noncomputable def WO (fns : Fns) : Option X → (Option V → St → Prop) → St → Prop
 | Option.none, K, st => K Option.none st
 | some a, K, st => WE fns a (fun v st => K (some v) st) st
end
noncomputable def eB : List Nat → List V → List (Option V) → Option (List (Option V))
 | [], [], loc => some loc
 | i :: is, v :: vs, loc => eB is vs (loc.set i (some v))
 | _, _, _ => Option.none
abbrev kR (f : Fl) (P : Prop) (Q : Fl → Prop) : Prop := match f with
 | .next => P
 | .cont => P
 | .brk => Q .next
 | .ret v => Q (.ret v)
abbrev dX (f : Fl) (P R : Prop) : Prop := match f with
 | .next => P
 | .brk => R
 | .cont => R
 | .ret _ => R
noncomputable def aC (t : (Bool → St → Prop) → St → Prop) (b : (Fl → St → Prop) → St → Prop) (Q : Fl → St → Prop) : Nat → St → Prop
 | 0, _ => False
 | n + 1, st => t (fun c st => if c = true then b (fun f st => kR f (aC t b Q n st) fun f => Q f st) st else Q .next st) st
noncomputable def cf (b : V → (Fl → St → Prop) → St → Prop) (Q : Fl → St → Prop) : List V → St → Prop
 | [], st => Q .next st
 | x :: r, st => b x (fun f st => kR f (cf b Q r st) fun f => Q f st) st
mutual
noncomputable def WS (fns : Fns) : S → (Fl → St → Prop) → St → Prop
 | .assign i e, Q, st => WE fns e (fun v st => Q .next ⟨st.loc.set i (some v), st.cells⟩) st
 | .tuple is e, Q, st => WE fns e (fun v st => uo v fun vs => cu (eB is vs st.loc) fun loc => Q .next ⟨loc, st.cells⟩) st
 | .setidx o i e, Q, st => WE fns e (fun v st => WE fns o (fun w st => WE fns i (fun j st => jL st.cells w j fun k j l => Q .next ⟨st.loc, st.cells.set k (l.set j.toNat v)⟩) st) st) st
 | .del o i, Q, st => WE fns o (fun w st => WE fns i (fun j st => jL st.cells w j fun k j l => Q .next ⟨st.loc, st.cells.set k (l.eraseIdx j.toNat)⟩) st) st
 | .aug i op e, Q, st => eJ st.loc i fun x => WE fns e (fun y st => lh op x y (fun v => Q .next ⟨st.loc.set i (some v), st.cells⟩)) st
 | .expr e, Q, st => WE fns e (fun v st => uq v (Q .next st)) st
 | .ite t a b, Q, st => WT fns t (fun c st => if c = true then WSs fns a Q st else WSs fns b Q st) st
 | .whl t b, Q, st => ∃ n, aC (WT fns t) (WSs fns b) Q n st
 | .for i it b, Q, st => WE fns it (fun v st => cu (cw v) fun items => items.length ≤ lim ∧ cf (fun x Q st => WSs fns b Q ⟨st.loc.set i (some x), st.cells⟩) Q items st) st
 | .ret e, Q, st => WE fns e (fun v st => Q (.ret v) st) st
 | .brk, Q, st => Q .brk st
 | .cont, Q, st => Q .cont st
 | .assert t, Q, st => WT fns t (fun c st => c = true ∧ Q .next st) st
 | .bad, _, _ => False
noncomputable def WSs (fns : Fns) : List S → (Fl → St → Prop) → St → Prop
 | [], Q, st => Q .next st
 | s :: r, Q, st => WS fns s (fun f st => dX f (WSs fns r Q st) (Q f st)) st
end
end Mine
namespace Mine
open PySem
noncomputable def ah : List Str → Str → Option Nat
 | [], _ => Option.none
 | y :: r, x => match ah r x with
  | some i => some (i + 1)
  | Option.none => if y == x then some 0 else Option.none
noncomputable def defNames : List Str := ["translate", "escape", "_translate", "_join_translated_parts", "unquote", "quote", "decode", "_law_half", "_law_built", "_law_read", "_law_at", "_law_shares", "_law_fits", "_law_told"]
noncomputable def ur (x : Str) : Option X :=
 if x == ("hexdigits" : Str) then some (.glo .hexdigits) else if x == ("_QUOPRI_MAP" : Str) then some (.glo .quopri)
 else if x == ("_special_chars_map" : Str) then some (.glo .special) else Option.none
noncomputable def jM (x : Str) : Option Mt :=
 if x == ("find" : Str) then some .find else if x == ("replace" : Str) then some .replace else if x == ("join" : Str) then some .join
 else if x == ("splitlines" : Str) then some .splitlines else if x == ("rstrip" : Str) then some .rstrip else if x == ("endswith" : Str) then some .endswith
 else if x == ("translate" : Str) then some .translate else if x == ("append" : Str) then some .append else if x == ("extend" : Str) then some .extend else Option.none
noncomputable def aO {α β : Type} (f : α → Option β) : List α → Option (List β)
 | [] => some []
 | a :: r => match f a, aO f r with
  | some b, some l => some (b :: l)
  | _, _ => Option.none
noncomputable def lk {α β : Type} (f : α → Option β) : Option α → Option (Option β)
 | Option.none => some Option.none
 | some a => (f a).map some
noncomputable def ll (sc : List (Str × NameKind)) (Γ xs : List Str) (scope : Scope) : Bool :=
 scope.kind == .function && !scope.isGenerator && !scope.isCoroutine && xs.all (fun x => scope.names.lookup x == some .local && x != (".0" : Str)) && decide xs.Nodup &&
 scope.names.all fun (y, k) => scope.names.lookup y == some k && (match k with
  | .local => xs.contains y || y == (".0" : Str)
  | .free => sc.lookup y == some .cell && (ah Γ y).isSome && !xs.contains y
  | .globalImplicit => true
  | _ => false)
noncomputable def Γof (scope : Scope) : List Str := (scope.names.filter fun p => p.2 == .local || p.2 == .cell).map (·.1)
noncomputable def exE {α : Type} (d : α) (e : Expr) (n : Str → Pos → α := fun _ _ => d) (c : Const → Nat → Pos → α := fun _ _ _ => d) (u : UnaryOp → Expr → Pos → α := fun _ _ _ => d) (f : Expr → List Expr → List Keyword → Pos → α := fun _ _ _ _ => d) (a : Expr → Str → Pos → α := fun _ _ _ => d) (g : Expr → List Comprehension → Scope → Pos → α := fun _ _ _ _ => d) (l : Arguments → Expr → Scope → Pos → α := fun _ _ _ _ => d) (s : List Expr → Pos → α := fun _ _ => d) (t : List Expr → Nat → Pos → α := fun _ _ _ => d) (w : Expr → Expr → Pos → α := fun _ _ _ => d) (v : Expr → Int → Option Expr → Pos → α := fun _ _ _ _ => d) (b : Option Expr → Option Expr → Option Expr → Pos → α := fun _ _ _ _ => d) : α := match e with
 | .Name x p => n x p
 | .Constant x k p => c x k p
 | .UnaryOp o x p => u o x p
 | .Call x y z p => f x y z p
 | .Attribute x y p => a x y p
 | .GeneratorExp x y z p => g x y z p
 | .Lambda x y z p => l x y z p
 | .List x p => s x p
 | .Tuple x k p => t x k p
 | .Subscript x y p => w x y p
 | .FormattedValue x y z p => v x y z p
 | .Slice x y z p => b x y z p
 | _ => d
theorem eK {α : Type} {P : Expr → α → Prop} {d : α} (e : Expr) {n : Str → Pos → α} {c : Const → Nat → Pos → α} {u : UnaryOp → Expr → Pos → α} {f : Expr → List Expr → List Keyword → Pos → α} {a : Expr → Str → Pos → α} {g : Expr → List Comprehension → Scope → Pos → α} {l : Arguments → Expr → Scope → Pos → α} {s : List Expr → Pos → α} {t : List Expr → Nat → Pos → α} {w : Expr → Expr → Pos → α} {v : Expr → Int → Option Expr → Pos → α} {b : Option Expr → Option Expr → Option Expr → Pos → α} (hd : ∀ e, P e d) (hn : ∀ x p, P (.Name x p) (n x p)) (hc : ∀ x k p, P (.Constant x k p) (c x k p)) (hu : ∀ o x p, P (.UnaryOp o x p) (u o x p)) (hf : ∀ x y z p, P (.Call x y z p) (f x y z p)) (ha : ∀ x y p, P (.Attribute x y p) (a x y p)) (hg : ∀ x y z p, P (.GeneratorExp x y z p) (g x y z p)) (hl : ∀ x y z p, P (.Lambda x y z p) (l x y z p)) (hs : ∀ x p, P (.List x p) (s x p)) (ht : ∀ x k p, P (.Tuple x k p) (t x k p)) (hw : ∀ x y p, P (.Subscript x y p) (w x y p)) (hv : ∀ x y z p, P (.FormattedValue x y z p) (v x y z p)) (hb : ∀ x y z p, P (.Slice x y z p) (b x y z p)) : P e (exE d e n c u f a g l s t w v b) := by cases e with
 | Name => exact hn _ _
 | Constant => exact hc _ _ _
 | UnaryOp => exact hu _ _ _
 | Call => exact hf _ _ _ _
 | Attribute => exact ha _ _ _
 | GeneratorExp => exact hg _ _ _ _
 | Lambda => exact hl _ _ _ _
 | List => exact hs _ _
 | Tuple => exact ht _ _ _
 | Subscript => exact hw _ _ _
 | FormattedValue => exact hv _ _ _ _
 | Slice => exact hb _ _ _ _
 | _ => exact hd _
noncomputable def c5 (e : Expr) : Option Str := exE Option.none e (n := fun x _ => some x)
noncomputable def lm (e : Expr) : Option Const := exE Option.none e (c := fun x _ _ => some x)
noncomputable def om : Const → Option Str
 | .str s => some s
 | _ => Option.none
noncomputable def ut : Const → Option Int
 | .int s => some s
 | _ => Option.none
noncomputable def on (e : Expr) : Option Str := (lm e).bind om
noncomputable def jN (e : Expr) : Option Int := (lm e).bind ut
noncomputable def qe : UnaryOp → Bool
 | .USub => true
 | _ => false
noncomputable def uu (e : Expr) : Option Expr := exE Option.none e (u := fun op a _ => if qe op then some a else Option.none)
noncomputable def sv (e : Expr) : Option Int := (uu e).bind jN
noncomputable def uv (e : Expr) : Option (Expr × List Expr × List Keyword × Pos) := exE Option.none e (f := fun f as ks p => some (f, as, ks, p))
noncomputable def uw (e : Expr) : Option (Expr × Str × Pos) := exE Option.none e (a := fun o m p => some (o, m, p))
noncomputable def yt (e : Expr) : Option (Expr × List Comprehension × Scope) := exE Option.none e (g := fun e gs sc _ => some (e, gs, sc))
noncomputable def yu (e : Expr) : Option (Arguments × Scope) := exE Option.none e (l := fun a _ sc _ => some (a, sc))
noncomputable def oo (e : Expr) : Bool := exE false e (s := fun l _ => l.isEmpty)
noncomputable def yv (e : Expr) : Option (List Expr) := exE Option.none e (t := fun l _ _ => some l)
noncomputable def fI {α : Type} : List α → Option α
 | [] => Option.none
 | a :: r => match r with
  | [] => some a
  | _ :: _ => Option.none
noncomputable def jO {α : Type} : List α → Option (α × α)
 | [] => Option.none
 | a :: r => (fI r).map fun b => (a, b)
noncomputable def u9 : Operator → Bool
 | .Pow => true
 | _ => false
noncomputable def qf (e : Expr) : Bool := exE false e (f := fun _ _ _ _ => true)
noncomputable def sw (e : Expr) : Option (Expr × Str × Pos × Pos × Str × Str) :=
 (uv e).bind fun q => (uw q.1).bind fun r => (jO q.2.1).bind fun t => (on t.1).bind fun c => (on t.2).bind fun d => if q.2.2.1.isEmpty then some (r.1, r.2.1, r.2.2, q.2.2.2, c, d) else Option.none
noncomputable def two {α β γ : Type} (f : α → β → γ) (a : Option α) (b : Option β) : Option γ := a.bind fun a => b.map fun b => f a b
noncomputable def dY {α β γ δ : Type} (f : α → β → γ → δ) (a : Option α) (b : Option β) (c : Option γ) : Option δ := a.bind fun a => b.bind fun b => c.map fun c => f a b c
noncomputable def qg (c : Const) : Option X := match c with
 | .none => some (.cst .none)
 | .bool b => some (.cst (.bool b))
 | .int i => some (.cst (.int i))
 | .str s => if s.cps.size ≤ 100 then some (.cst (.str s.cps.toList)) else Option.none
 | _ => Option.none
noncomputable def oq : Option NameKind → Bool
 | some k => (match k with
  | .local => true
  | .cell => true
  | .free => true
  | _ => false)
 | Option.none => false
noncomputable def fT : Option NameKind → Bool
 | some k => (match k with
  | .globalImplicit => true
  | _ => false)
 | Option.none => false
noncomputable def eg : Option NameKind → Bool
 | some k => (match k with
  | .local => true
  | _ => false)
 | Option.none => false
noncomputable def ot : Option NameKind → Bool
 | some k => (match k with
  | .cell => true
  | _ => false)
 | Option.none => false
noncomputable def ux (Γ : List Str) (sc : List (Str × NameKind)) (x : Str) : Option X :=
 if x == ("__debug__" : Str) then Option.none else if oq (sc.lookup x) then (ah Γ x).map .loc else if fT (sc.lookup x) then ur x else Option.none
noncomputable def iR (l : Expr) (op : Operator) (r : Expr) : Bool := jN l == some 10 && u9 op && jN r == some 8
noncomputable def cUn (op : UnaryOp) (a : Option X) : Option X := match op with
 | .Not => a.map .not
 | .USub => a.map .neg
 | _ => Option.none
noncomputable def uy (op : BoolOp) (l : Option (List X)) : Option X := l.bind fun l => match l with
 | [] => Option.none
 | a :: r => match r with
  | [] => Option.none
  | b :: r => match r with
   | [] => some (match op with | .And => .and a b | .Or => .or a b)
   | c :: r => match r with
    | [] => some (match op with | .And => .and a (.and b c) | .Or => .or a (.or b c))
    | _ :: _ => Option.none
noncomputable def yw (a : Option X) (ops : List CmpOp) (l : Option (List X)) : Option X := a.bind fun a => l.bind fun l => match ops with
 | [] => Option.none
 | op :: ops => match l with
  | [] => Option.none
  | b :: l => match ops with
   | [] => if l.isEmpty then some (.cmp a op b) else Option.none
   | op' :: ops => match l with
    | [] => Option.none
    | c :: l => if ops.isEmpty && l.isEmpty then some (.cmp2 a op b op' c) else Option.none
noncomputable def yx (t : Expr) : Option (Bool × List Str) := match c5 t with
 | some x => some (false, [x])
 | Option.none => (yv t).bind fun l => (jO l).bind fun q => (c5 q.1).bind fun x => (c5 q.2).map fun y => (true, [x, y])
noncomputable def ou (F : List Str → List (Str × NameKind) → Expr → Option X) (Γ : List Str) (sc : List (Str × NameKind)) (elt : Expr) (gens : List Comprehension) (scope : Scope) : Option X :=
 (fI gens).bind fun g => (yx g.target).bind fun q => if ll sc Γ q.2 scope && g.is_async == 0 then
  dY (fun i e l => .comp q.1 Γ.length e i l) (F Γ sc g.iter) (F (Γ ++ q.2) scope.names elt) (aO (F (Γ ++ q.2) scope.names) g.ifs) else Option.none
noncomputable def lq (sp : Bool) (sc : List (Str × NameKind)) (m sep : Str) (scope : Scope) (r2 r1 : Expr × Str × Pos × Pos × Str × Str) (x' : Str) (gn : Comprehension) (x src : Str) : Bool :=
 sp && gn.ifs.isEmpty && gn.is_async == 0 && x' == x && r1.2.1 == ("replace" : Str) && r2.2.1 == ("replace" : Str) && r1.2.2.1.endLine == r1.2.2.2.1.line && r2.2.2.1.endLine == r2.2.2.2.1.line && r1.2.2.2.2.1.cps == #[92] && r2.2.2.2.2.1.cps == #[45] && x != ("__debug__" : Str) &&
     m == ("join" : Str) && eg (sc.lookup src) && src != ("__debug__" : Str) && scope.kind == .function && scope.isGenerator && !scope.isCoroutine && sep.cps.size ≤ 100 && x != (".0" : Str) &&
     eg (scope.names.lookup x) && eg (scope.names.lookup (".0" : Str)) && scope.names.all (fun p => eg (some p.2))
noncomputable def ow (sp : Bool) (Γ : List Str) (sc : List (Str × NameKind)) (o : Expr) (m : Str) (args : List Expr) : Option X :=
 (on o).bind fun sep => (fI args).bind fun g => (yt g).bind fun q => (sw q.1).bind fun r2 => (sw r2.1).bind fun r1 => (c5 r1.1).bind fun x' => (fI q.2.1).bind fun gn => (c5 gn.target).bind fun x => (c5 gn.iter).bind fun src =>
  if lq sp sc m sep q.2.2 r2 r1 x' gn x src then (ah Γ src).map (.jgen sep.cps.toList) else Option.none
noncomputable def lr : NameKind → Bool
 | .free => true
 | _ => false
noncomputable def jP (F : Expr → Option X) (sp : Bool) (sc : List (Str × NameKind)) (o : Expr) (m : Str) (args : List Expr) : Option X :=
 (c5 o).bind fun t => (jO args).bind fun q => (yu q.1).bind fun r => if sp && fT (sc.lookup t) && t == ("_twin_re_1" : Str) && m == ("sub" : Str) && r.1.defaults.isEmpty && r.1.kw_defaults.isEmpty && r.2.names.all (fun p => !lr p.2) then (F q.2).map .sub else Option.none
noncomputable def uz (F : Expr → Option X) (sp : Bool) (Γ : List Str) (sc : List (Str × NameKind)) (o : Expr) (m : Str) (apos : Pos) (args : List Expr) (pos : Pos) : Option X :=
 if apos.endLine != pos.line then Option.none else if qf o then Option.none else match ow sp Γ sc o m args with
  | some x => some x
  | Option.none => match jP F sp sc o m args with
   | some x => some x
   | Option.none => if 29 < args.length then Option.none else dY .meth (jM m) (F o) (aO F args)
noncomputable def gNames : List (Str × G) := [("len", .len), ("range", .range), ("ord", .ord), ("chr", .chr), ("min", .min), ("max", .max), ("object", .object)]
noncomputable def sx (F : Expr → Option X) (sc : List (Str × NameKind)) (f : Str) (args : List Expr) : Option X :=
 match gNames.lookup f with
 | some g => (aO F args).map (.call g)
 | Option.none => if f == ("int" : Str) then (jO args).bind fun q => if jN q.2 == some 16 then (aO F [q.1]).map (.call .int16) else Option.none
  else if f == ("isinstance" : Str) then (jO args).bind fun q => (c5 q.2).bind fun t => if t == ("str" : Str) && fT (sc.lookup ("str" : Str)) then (aO F [q.1]).map (.call .isStr) else Option.none
  else (ah defNames f).bind fun i => (aO F args).map (.call (.fn i))
noncomputable def qh (F : Expr → Option X) (Γ : List Str) (sc : List (Str × NameKind)) (f : Str) (args : List Expr) : Option X :=
 if f == ("__debug__" : Str) then Option.none else if fT (sc.lookup f) then sx F sc f args else if eg (sc.lookup f) then (ah Γ f).bind fun i => (fI args).bind fun a => (F a).map (.cadd i) else Option.none
noncomputable def uA (F : Expr → Option X) (sp : Bool) (Γ : List Str) (sc : List (Str × NameKind)) (f : Expr) (args : List Expr) (ks : List Keyword) (pos : Pos) : Option X :=
 if ks.isEmpty then exE Option.none f (n := fun x _ => qh F Γ sc x args) (a := fun o m apos => uz F sp Γ sc o m apos args pos) else Option.none
noncomputable def nh (F : Expr → Option X) (o i : Expr) : Option X := exE (two .idx (F o) (F i)) i (b := fun lo hi st _ => (match st with
  | Option.none => dY .slc (F o) (lk F lo) (lk F hi)
  | some st => if sv st == some 1 then (match lo with
    | Option.none => (match hi with
     | Option.none => (F o).map .rev
     | some _ => Option.none)
    | some lo => (match hi with
     | Option.none => Option.none
     | some hi => if sv lo == some 2 && jN hi == some 0 then (F o).map .mid else Option.none)) else Option.none))
noncomputable def AO (F : Expr → Option X) (l : List Expr) : Option X := match l with
 | [] => some .new0
 | a :: r => if r.isEmpty && oo a then some .new1 else if 100 < (a :: r).length then Option.none else (aO F (a :: r)).map .lst
noncomputable def oy (F : Expr → Option X) (e : Expr) : Option X := exE Option.none e (c := fun c _ _ => (om c).bind fun s => if s.cps.size ≤ 100 then some (.cst (.str s.cps.toList)) else Option.none) (v := fun v cv spec _ => if cv == -1 && spec.isNone then F v else Option.none)
noncomputable def cE (sp : Bool) : Nat → List Str → List (Str × NameKind) → Expr → Option X
 | 0, _, _, _ => Option.none
 | n + 1, Γ, sc, e => match e with
  | .Constant c _ _ => qg c
  | .Name x _ => ux Γ sc x
  | .BinOp l op r _ => if iR l op r then some (.cst (.int 100000000)) else two (.bin op) (cE sp n Γ sc l) (cE sp n Γ sc r)
  | .UnaryOp op a _ => cUn op (cE sp n Γ sc a)
  | .BoolOp op l _ => uy op (aO (cE sp n Γ sc) l)
  | .IfExp t a b _ => dY .ite (cE sp n Γ sc t) (cE sp n Γ sc a) (cE sp n Γ sc b)
  | .Compare a ops l _ => yw (cE sp n Γ sc a) ops (aO (cE sp n Γ sc) l)
  | .ListComp elt gens scope _ => ou (cE sp n) Γ sc elt gens scope
  | .Call f args ks pos => uA (cE sp n Γ sc) sp Γ sc f args ks pos
  | .Attribute o m _ => if m == ("append" : Str) then (c5 o).bind fun _ => (cE sp n Γ sc o).map .attr else Option.none
  | .Subscript o i _ => nh (cE sp n Γ sc) o i
  | .List l _ => AO (cE sp n Γ sc) l
  | .Tuple l _ _ => if 100 < l.length then Option.none else (aO (cE sp n Γ sc) l).map .tup
  | .JoinedStr l _ => if 8 < l.length || l.length < 2 then Option.none else (aO (oy (cE sp n Γ sc)) l).map .fstr
  | _ => Option.none
noncomputable def lu (e : Expr) : Option Str := exE Option.none e (n := fun x _ => if x == ("__debug__" : Str) then Option.none else some x)
noncomputable def fU : Expr → Bool
 | .ListComp .. => true
 | _ => false
noncomputable def jQ (ts : List Expr) (e : Expr) : Bool := exE false e (t := fun vs _ _ => !(ts.length == 2 && vs.length == 2 && !(vs.all (constantsAlone 8))))
noncomputable def gj (Γ : List Str) (sc : List (Str × NameKind)) (x : Str) : Option Nat := if eg (sc.lookup x) || ot (sc.lookup x) then ah Γ x else Option.none
noncomputable def ni (F : Expr → Option X) (Γ : List Str) (sc : List (Str × NameKind)) (t e : Expr) : Option S := exE Option.none t (n := fun x _ => two .assign (gj Γ sc x) (F e)) (t := fun ts _ _ => if jQ ts e || 3 < ts.length then Option.none else two .tuple (aO (fun t => (lu t).bind (gj Γ sc)) ts) (F e))
 (w := fun o i _ => if fU e then Option.none else dY .setidx (F o) (F i) (F e))
noncomputable def yy (F : Expr → Option X) (t : Expr) : Option S := exE Option.none t (w := fun o i _ => two .del (F o) (F i))
noncomputable def Gp (F : Expr → Option X) (Γ : List Str) (sc : List (Str × NameKind)) (t : Expr) (op : Operator) (e : Expr) : Option S := exE (some .bad) t (n := fun x _ => if eg (sc.lookup x) then two (fun i e => .aug i op e) (ah Γ x) (F e) else Option.none)
noncomputable def yz (Γ : List Str) (sc : List (Str × NameKind)) (t : Expr) (it : Option X) (b : Option (List S)) : Option S := (c5 t).bind fun x => dY .for (gj Γ sc x) it b
noncomputable def cS (sp : Bool) : Nat → List Str → List (Str × NameKind) → Stmt → Option S
 | 0, _, _, _ => Option.none
 | n + 1, Γ, sc, s => match s with
  | .Assign ts e _ => (fI ts).bind fun t => ni (cE sp n Γ sc) Γ sc t e
  | .Delete ts _ => (fI ts).bind fun t => yy (cE sp n Γ sc) t
  | .AugAssign t op e _ => Gp (cE sp n Γ sc) Γ sc t op e
  | .Expr e _ => if fU e then Option.none else (cE sp n Γ sc e).map .expr
  | .If t a b _ => (cE sp n Γ sc t).map fun t => .ite t ((aO (cS sp n Γ sc) a).getD [.bad]) ((aO (cS sp n Γ sc) b).getD [.bad])
  | .While t b el _ => if el.isEmpty then two .whl (cE sp n Γ sc t) (aO (cS sp n Γ sc) b) else Option.none
  | .For t it b el _ => if el.isEmpty then yz Γ sc t (cE sp n Γ sc it) (aO (cS sp n Γ sc) b) else Option.none
  | .Return e _ => e.bind fun e => (cE sp n Γ sc e).map .ret
  | .Break _ => some .brk
  | .Continue _ => some .cont
  | .Assert t m _ => if m.isNone then (cE sp n Γ sc t).map .assert else Option.none
  | _ => Option.none
noncomputable def ay (n : Nat) : List Stmt × Scope := match (PySem.Challenge.pw_ij0042_01.main.body)[n]? with
 | some (.FunctionDef _ _ b _ _ _ sc _ _ _) => (b, sc)
 | _ => default
noncomputable def bs (n : Nat) : Option (List S) := aO (cS (n == 8) 40 (Γof (ay n).2) (ay n).2.names) (ay n).1
end Mine
namespace Mine
open PySem PySem.W PySem.Calls PyProof.Rows
abbrev PH := Addr → Option Obj
noncomputable def SeqAt (F : PH) (a : Addr) (T : String) (vs : List Value) : Prop := ∃ o n, F a = some o ∧ o.cls = .type T ∧ o.data = .seq vs.toArray n
noncomputable def OwnAt (F : PH) (a : Addr) (vs : List Value) : Prop := ∃ o n, F a = some o ∧ o.cls = .type "list" ∧ o.data = .seq vs.toArray n ∧ o.dict = Option.none ∧ o.slots = #[]
theorem OwnAt.seq {F : PH} {a : Addr} {vs : List Value} (x : OwnAt F a vs) : SeqAt F a "list" vs := by
 obtain ⟨o, n, h1, h2, h3, _⟩ := x; exact ⟨o, n, h1, h2, h3⟩
theorem OwnAt.plain {h : Heap} {a : Addr} {vs : List Value} (x : OwnAt h.get? a vs) : h.PlainList a vs.toArray := by
 obtain ⟨⟨c, d, dt, sl⟩, n, h1, h2, h3, h4, h5⟩ := x
 simp only at h2 h3 h4 h5
 subst h2 h3 h4 h5
 exact ⟨n, h1⟩
theorem OwnAt.of {h : Heap} {a : Addr} {vs : Array Value} (x : h.PlainList a vs) : OwnAt h.get? a vs.toList := by
 obtain ⟨n, h1⟩ := x; exact ⟨_, n, h1, rfl, by simp, rfl, rfl⟩
noncomputable def dD (a : Addr) : Obj := { cls := .type "builtin_function_or_method", data := .fields #[.builtin "list.append", .ref a] }
mutual
noncomputable def VR (sp : Addr) (F : PH) (μ : List Addr) : V → Value → Prop
 | .none, r => r = .none
 | .bool b, r => r = .bool b
 | .int i, r => ∃ t, r = .int i t
 | .str l, r => l.length ≤ lim ∧ ∃ t, r = .str ⟨l.toArray⟩ t
 | .tup l, r => l.length ≤ lim ∧ ∃ a vs, r = .ref a ∧ SeqAt F a "tuple" vs ∧ VRs sp F μ l vs
 | .lst l, r => l.length ≤ lim ∧ ∃ a vs, r = .ref a ∧ SeqAt F a "list" vs ∧ VRs sp F μ l vs
 | .rng a b c, r => small a ∧ small b ∧ (c = 1 ∨ c = -1) ∧ ∃ x t u v, r = .ref x ∧ F x = some { cls := .type "range", dict := Option.none, data := .fields #[.int a t, .int b u, .int c v], slots := #[] }
 | .cell k, r => ∃ a, μ[k]? = some a ∧ r = .ref a
 | .app k, r => ∃ a b, μ[k]? = some a ∧ r = .ref b ∧ F b = some (dD a)
 | .spc, r => r = .ref sp
 | .con v, r => r = v
noncomputable def VRs (sp : Addr) (F : PH) (μ : List Addr) : List V → List Value → Prop
 | [], [] => True
 | v :: l, r :: rs => VR sp F μ v r ∧ VRs sp F μ l rs
 | _, _ => False
end
theorem OwnAt.mono {F F' : PH} {a : Addr} {vs : List Value} (x : OwnAt F a vs) (hF : ∀ a o, F a = some o → F' a = some o) : OwnAt F' a vs := by
 obtain ⟨o, n, h1, h2⟩ := x; exact ⟨o, n, hF _ _ h1, h2⟩
noncomputable def PLe (F F' : PH) : Prop := ∀ a o, F a = some o → F' a = some o
theorem SeqAt.mono {F F' : PH} {a : Addr} {T : String} {vs : List Value} (h : SeqAt F a T vs) (hF : PLe F F') : SeqAt F' a T vs := by
 obtain ⟨o, n, h1, h2, h3⟩ := h; exact ⟨o, n, hF _ _ h1, h2, h3⟩
theorem gk {α : Type} {l l' : List α} (h : l <+: l') {k : Nat} {a : α} (e : l[k]? = some a) : l'[k]? = some a := by
 obtain ⟨r, rfl⟩ := h
 rw [List.getElem?_append_left (by have := List.getElem?_eq_some_iff.mp e; exact this.1)]; exact e
mutual
theorem VR.mono {sp : Addr} {F F' : PH} {μ μ' : List Addr} (hF : PLe F F') (hμ : μ <+: μ') : ∀ {v : V} {r : Value}, VR sp F μ v r → VR sp F' μ' v r
 | .none, _, h => h
 | .bool _, _, h => h
 | .int _, _, h => h
 | .str _, _, h => h
 | .tup _, _, h => ⟨h.1, h.2.elim fun a h => ⟨a, h.elim fun vs h => ⟨vs, h.1, h.2.1.mono hF, VRs.mono hF hμ h.2.2⟩⟩⟩
 | .lst _, _, h => ⟨h.1, h.2.elim fun a h => ⟨a, h.elim fun vs h => ⟨vs, h.1, h.2.1.mono hF, VRs.mono hF hμ h.2.2⟩⟩⟩
 | .rng _ _ _, _, h => ⟨h.1, h.2.1, h.2.2.1, h.2.2.2.elim fun x h => ⟨x, h.elim fun t h => ⟨t, h.elim fun u h => ⟨u, h.elim fun v h => ⟨v, h.1, hF _ _ h.2⟩⟩⟩⟩⟩
 | .cell _, _, h => h.elim fun a h => ⟨a, gk hμ h.1, h.2⟩
 | .app _, _, h => h.elim fun a h => ⟨a, h.elim fun b h => ⟨b, gk hμ h.1, h.2.1, hF _ _ h.2.2⟩⟩
 | .spc, _, h => h
 | .con _, _, h => h
theorem VRs.mono {sp : Addr} {F F' : PH} {μ μ' : List Addr} (hF : PLe F F') (hμ : μ <+: μ') : ∀ {l : List V} {rs : List Value}, VRs sp F μ l rs → VRs sp F' μ' l rs
 | [], rs, h => by cases rs with
  | nil => exact h
  | cons => exact h.elim
 | _ :: _, rs, h => by cases rs with
  | nil => exact h.elim
  | cons => exact ⟨VR.mono hF hμ h.1, VRs.mono hF hμ h.2⟩
end
theorem VRs.ind {sp : Addr} {F : PH} {μ : List Addr} {P : List V → List Value → Prop} (h0 : P [] []) (h1 : ∀ v r l rs, VR sp F μ v r → VRs sp F μ l rs → P l rs → P (v :: l) (r :: rs)) {l : List V} {rs : List Value} (h : VRs sp F μ l rs) : P l rs := by
 induction l generalizing rs with
 | nil => cases rs with
  | nil => exact h0
  | cons => exact h.elim
 | cons v l ih => cases rs with
  | nil => exact h.elim
  | cons r rs => exact h1 v r l rs h.1 h.2 (ih h.2)
section
variable {sp : Addr} {F : PH} {μ : List Addr} {l m : List V} {rs ss : List Value} {v : V} {r : Value}
theorem VRs.length (h : VRs sp F μ l rs) : rs.length = l.length := h.ind (P := fun l rs => rs.length = l.length) rfl fun _ _ _ _ _ _ ih => congrArg (· + 1) ih
theorem VRs.get (h : VRs sp F μ l rs) : ∀ {k : Nat} {v : V}, l[k]? = some v → ∃ r, rs[k]? = some r ∧ VR sp F μ v r :=
 h.ind (P := fun l rs => ∀ {k : Nat} {v : V}, l[k]? = some v → ∃ r, rs[k]? = some r ∧ VR sp F μ v r) (fun e => ab e) fun v r l rs hv _ ih k w e => by
  cases k with
  | zero => exact ⟨r, rfl, Option.some.inj e ▸ hv⟩
  | succ k => exact ih e
theorem VRs.append (h : VRs sp F μ l rs) (h' : VRs sp F μ m ss) : VRs sp F μ (l ++ m) (rs ++ ss) := h.ind (P := fun l rs => VRs sp F μ (l ++ m) (rs ++ ss)) h' fun _ _ _ _ hv _ ih => ⟨hv, ih⟩
theorem VRs.drop (n : Nat) (h : VRs sp F μ l rs) : VRs sp F μ (l.drop n) (rs.drop n) :=
 h.ind (P := fun l rs => ∀ n, VRs sp F μ (l.drop n) (rs.drop n)) (fun n => by cases n <;> trivial) (fun _ _ _ _ hv hs ih n => by
  cases n with
  | zero => exact ⟨hv, hs⟩
  | succ n => exact ih n) n
theorem VRs.take (n : Nat) (h : VRs sp F μ l rs) : VRs sp F μ (l.take n) (rs.take n) :=
 h.ind (P := fun l rs => ∀ n, VRs sp F μ (l.take n) (rs.take n)) (fun n => by cases n <;> trivial) (fun _ _ _ _ hv hs ih n => by
  cases n with
  | zero => trivial
  | succ n => exact ⟨hv, ih n⟩) n
theorem VRs.reverse (h : VRs sp F μ l rs) : VRs sp F μ l.reverse rs.reverse :=
 h.ind (P := fun l rs => VRs sp F μ l.reverse rs.reverse) trivial fun _ _ _ _ hv _ ih => by rw [List.reverse_cons, List.reverse_cons]; exact ih.append ⟨hv, trivial⟩
theorem VRs.set (hv : VR sp F μ v r) (n : Nat) (h : VRs sp F μ l rs) : VRs sp F μ (l.set n v) (rs.set n r) :=
 h.ind (P := fun l rs => ∀ n, VRs sp F μ (l.set n v) (rs.set n r)) (fun n => by cases n <;> trivial) (fun _ _ _ _ h1 hs ih n => by
  cases n with
  | zero => exact ⟨hv, hs⟩
  | succ n => exact ⟨h1, ih n⟩) n
theorem VRs.eraseIdx (n : Nat) (h : VRs sp F μ l rs) : VRs sp F μ (l.eraseIdx n) (rs.eraseIdx n) :=
 h.ind (P := fun l rs => ∀ n, VRs sp F μ (l.eraseIdx n) (rs.eraseIdx n)) (fun n => by cases n <;> trivial) (fun _ _ _ _ h1 hs ih n => by
  cases n with
  | zero => exact hs
  | succ n => exact ⟨h1, ih n⟩) n
end
set_option genInjectivity false in
structure Cx where
 prog : Program
 w : World
 g : Heap
 P : Addr
 pc : Addr
 sp : Addr
 fns : Fns
noncomputable def iS (P : Addr) (h : Heap) : Prop := ∃ ps, h.get? P = some (tabObj ps) ∧ TriplesOk ps.toList
structure EnvOk (Γ : List Str) (sc : List (Str × NameKind)) (env : Env) : Prop where
 kind : env.scope.kind = .function
 glob : env.globals = mainGlobals
 bi : env.builtins = builtinsNs
 loc : ∀ x, sc.lookup x = some .local → env.kindOf x = some .local
 cel : ∀ x, (sc.lookup x = some .cell ∨ sc.lookup x = some .free) → (ah Γ x).isSome = true → env.kindOf x = some .cell
 gl : ∀ x, sc.lookup x = some .globalImplicit → env.kindOf x = some .globalImplicit
 apart : ∀ n n' c, (n, c) ∈ env.cells → (n', c) ∈ env.cells → n = n'
 dot : ah Γ ".0" = Option.none
structure Ok (cx : Cx) (Γ : List Str) (sc : List (Str × NameKind)) (env : Env) (h₀ : Heap) (F : PH) (μ : List Addr) (st : St) (h : Heap) : Prop where
 fz : ∀ a o, F a = some o → h.get? a = some o
 fL : F env.locals = Option.none
 fC : ∀ n c, (n, c) ∈ env.cells → F c = Option.none
 fM : ∀ a ∈ μ, F a = Option.none
 fP : F cx.P = Option.none
 gF : ∀ a o, cx.g.get? a = some o → F a = some o
 keep : ∀ a o, h₀.get? a = some o → h.get? a = some o
 nL : h₀.get? env.locals = Option.none
 nC : ∀ n c, (n, c) ∈ env.cells → h₀.get? c = Option.none
 nM : ∀ a ∈ μ, h₀.get? a = Option.none
 nP : h₀.get? cx.P = Option.none
 nd : μ.Nodup
 mL : env.locals ∉ μ
 mP : cx.P ∉ μ
 lP : env.locals ≠ cx.P
 cM : ∀ n c, (n, c) ∈ env.cells → c ∉ μ ∧ c ≠ env.locals ∧ c ≠ cx.P
 ns : ∃ m, h.Ns env.locals m ∧ ∀ x i v, sc.lookup x = some .local → ah Γ x = some i → st.loc[i]? = some (some v) → ∃ r, m x = some r ∧ VR cx.sp F μ v r
 cl : ∀ x i, (sc.lookup x = some .cell ∨ sc.lookup x = some .free) → ah Γ x = some i → ∃ c ov, env.cells.lookup x = some c ∧ h.IsCell c ov ∧ ∀ v, st.loc[i]? = some (some v) → ∃ r, ov = some r ∧ VR cx.sp F μ v r
 len : μ.length = st.cells.length
 ca : ∀ n c, (n, c) ∈ env.cells → h.get? c ≠ Option.none
 ct : ∀ (k : Nat) (a : Addr) (l : List V), μ[k]? = some a → st.cells[k]? = some l → l.length ≤ lim ∧ ∃ vs, OwnAt h.get? a vs ∧ VRs cx.sp F μ l vs
 tab : iS cx.P h
structure Tr (P : Addr) (F : PH) (μ : List Addr) (s : Shared) (F' : PH) (μ' : List Addr) (s' : Shared) : Prop where
 le : PLe F F'
 mu : μ <+: μ'
 keep : ∀ a o, s.heap.get? a = some o → a ∉ μ → a ≠ P → s'.heap.get? a = some o
 alive : ∀ a, s.heap.get? a ≠ Option.none → s'.heap.get? a ≠ Option.none
 new : ∀ a, F' a ≠ Option.none → F a ≠ Option.none ∨ s.heap.get? a = Option.none
 newM : ∀ a, a ∈ μ' → a ∈ μ ∨ s.heap.get? a = Option.none
 os : s'.os = s.os
 gens : AllBare s.gens → AllBare s'.gens
theorem Tr.refl {P : Addr} {F : PH} {μ : List Addr} {s : Shared} : Tr P F μ s F μ s :=
 ⟨fun _ _ h => h, List.prefix_refl _, fun _ _ h _ _ => h, fun _ h => h, fun _ h => .inl h, fun _ h => .inl h, rfl, fun h => h⟩
theorem Tr.trans {P : Addr} {F F' F'' : PH} {μ μ' μ'' : List Addr} {s s' s'' : Shared} (x : Tr P F μ s F' μ' s') (y : Tr P F' μ' s' F'' μ'' s'') : Tr P F μ s F'' μ'' s'' where
 le := fun a o h => y.le a o (x.le a o h)
 mu := x.mu.trans y.mu
 keep := fun a o h1 h2 h3 => y.keep a o (x.keep a o h1 h2 h3) (fun hm => (x.newM a hm).elim h2 fun e => by rw [h1] at e; exact cn e) h3
 alive := fun a h => y.alive a (x.alive a h)
 new := fun a h => (y.new a h).elim (x.new a) fun e => .inr (Classical.byContradiction fun q => x.alive a q e)
 newM := fun a h => (y.newM a h).elim (x.newM a) fun e => .inr (Classical.byContradiction fun q => x.alive a q e)
 os := y.os.trans x.os
 gens := fun h => y.gens (x.gens h)
theorem Tr.tok {P : Addr} {F : PH} {μ : List Addr} {s : Shared} {t : Nat} : Tr P F μ s F μ { s with toks := t } :=
 ⟨fun _ _ h => h, List.prefix_refl _, fun _ _ h _ _ => h, fun _ h => h, fun _ h => .inl h, fun _ h => .inl h, rfl, fun h => h⟩
theorem Tr.ext {P : Addr} {F F' : PH} {μ : List Addr} {s : Shared} {h' : Heap} {t : Nat} (hF : PLe F F') (hk : ∀ a o, s.heap.get? a = some o → h'.get? a = some o)
  (hn : ∀ a, F' a ≠ Option.none → F a ≠ Option.none ∨ s.heap.get? a = Option.none) : Tr P F μ s F' μ { s with heap := h', toks := t } :=
 ⟨hF, List.prefix_refl _, fun a o h _ _ => hk a o h, fun a h => by
  cases e : s.heap.get? a with
  | none => exact absurd e h
  | some o => rw [show ({ s with heap := h', toks := t } : Shared).heap.get? a = some o from hk a o e]; simp, hn, fun _ h => .inl h, rfl, fun h => h⟩
theorem OwnAt.list {h : Heap} {a : Addr} {vs : List Value} (x : OwnAt h.get? a vs) : h.IsList a vs.toArray := x.plain.isList
theorem SeqAt.list {h : Heap} {a : Addr} {vs : List Value} (x : SeqAt h.get? a "list" vs) : h.IsList a vs.toArray := by
 obtain ⟨o, n, h1, h2, h3⟩ := x; exact ⟨o, h1, h2, n, h3⟩
theorem cL {h h' : Heap} {c : Addr} {ov : Option Value} (x : h.IsCell c ov) (hk : ∀ o, h.get? c = some o → h'.get? c = some o) : h'.IsCell c ov := by
 obtain ⟨o, h1, h2⟩ := x; exact ⟨o, hk _ h1, h2⟩
section
variable {cx : Cx} {Γ : List Str} {sc : List (Str × NameKind)} {env : Env} {h₀ : Heap} {F F' : PH} {μ : List Addr} {st : St} {h h' : Heap}
theorem Ok.ext (k : Ok cx Γ sc env h₀ F μ st h) (hF : PLe F F') (hk : ∀ a o, h.get? a = some o → h'.get? a = some o) (hz : ∀ a o, F' a = some o → h'.get? a = some o)
  (hn : ∀ a, F' a ≠ Option.none → F a ≠ Option.none ∨ h.get? a = Option.none) : Ok cx Γ sc env h₀ F' μ st h' := by
 have no : ∀ a, F a = Option.none → h.get? a ≠ Option.none → F' a = Option.none := fun a h1 h2 => Classical.byContradiction fun q => (hn a q).elim (fun z => z h1) h2
 obtain ⟨m, hm, hmv⟩ := k.ns
 have hLa : h.get? env.locals ≠ Option.none := by obtain ⟨o, _, _, e, _⟩ := hm; rw [e]; simp
 have hMa : ∀ a ∈ μ, h.get? a ≠ Option.none := fun a ha => by
  obtain ⟨i, hi, rfl⟩ := List.getElem_of_mem ha
  have hi' : i < st.cells.length := by rw [← k.len]; exact hi
  obtain ⟨_, vs, ⟨o, n, e, _⟩, _⟩ := k.ct i μ[i] st.cells[i] (by simp [hi]) (by simp [hi'])
  rw [e]; simp
 have hPa : h.get? cx.P ≠ Option.none := by obtain ⟨ps, e, _⟩ := k.tab; rw [e]; simp
 refine ⟨hz, no _ k.fL hLa, fun n c hc => no _ (k.fC n c hc) (k.ca n c hc), fun a ha => no _ (k.fM a ha) (hMa a ha), no _ k.fP hPa, fun a o e => hF _ _ (k.gF a o e), fun a o e => hk _ _ (k.keep a o e), k.nL, k.nC, k.nM, k.nP, k.nd, k.mL, k.mP, k.lP, k.cM,
  ⟨m, hm.keeps hk, fun x i v h1 h2 h3 => ?_⟩, fun x i h1 h2 => ?_, k.len, fun n c hc => ?_, fun i a l h1 h2 => ?_, ?_⟩
 ·obtain ⟨r, e, hv⟩ := hmv x i v h1 h2 h3
  exact ⟨r, e, hv.mono hF (List.prefix_refl _)⟩
 ·obtain ⟨c, ov, e1, e2, e3⟩ := k.cl x i h1 h2
  exact ⟨c, ov, e1, cL e2 fun o => hk c o, fun v hv => by obtain ⟨r, e, z⟩ := e3 v hv; exact ⟨r, e, z.mono hF (List.prefix_refl _)⟩⟩
 ·cases e : h.get? c with
  | none => exact absurd e (k.ca n c hc)
  | some o => rw [hk _ _ e]; simp
 ·obtain ⟨h3, vs, h4, h5⟩ := k.ct i a l h1 h2
  exact ⟨h3, vs, h4.mono fun a o e => hk a o e, h5.mono hF (List.prefix_refl _)⟩
 ·obtain ⟨ps, e, t⟩ := k.tab; exact ⟨ps, hk _ _ e, t⟩
theorem Ok.aliveL (k : Ok cx Γ sc env h₀ F μ st h) : h.get? env.locals ≠ Option.none := by
 obtain ⟨m, ⟨o, _, _, e, _⟩, _⟩ := k.ns; rw [e]; simp
theorem Ok.aliveM (k : Ok cx Γ sc env h₀ F μ st h) : ∀ a ∈ μ, h.get? a ≠ Option.none := fun a ha => by
 obtain ⟨i, hi, rfl⟩ := List.getElem_of_mem ha
 have hi' : i < st.cells.length := by rw [← k.len]; exact hi
 obtain ⟨_, vs, ⟨o, n, e, _⟩, _⟩ := k.ct i μ[i] st.cells[i] (by simp [hi]) (by simp [hi'])
 rw [e]; simp
theorem Ok.aliveP (k : Ok cx Γ sc env h₀ F μ st h) : h.get? cx.P ≠ Option.none := by obtain ⟨ps, e, _⟩ := k.tab; rw [e]; simp
theorem bY : ∀ {Γ : List Str} {x : Str} {i : Nat}, ah Γ x = some i → Γ[i]? = some x
 | y :: r, x, i, h => by
  unfold ah at h
  cases q : ah r x with
  | some j => rw [q] at h; obtain rfl := Option.some.inj h; simpa using bY q
  | none =>
   rw [q] at h
   simp only at h
   split at h
   ·rename_i e; cases h; rw [beq_iff_eq.mp e]; rfl
   ·cases h
theorem eM {Γ : List Str} {x y : Str} {i : Nat} (h1 : ah Γ x = some i) (h2 : ah Γ y = some i) : x = y :=
 Option.some.inj ((bY h1).symm.trans (bY h2))
theorem eY {l : List (Option V)} {i j : Nat} {v w : V} (h : (l.set i (some v))[j]? = some (some w)) : (i = j ∧ w = v) ∨ (i ≠ j ∧ l[j]? = some (some w)) := by
 by_cases e : i = j
 ·subst e
  left
  refine ⟨rfl, ?_⟩
  rw [List.getElem?_set] at h
  simp only [if_true] at h
  split at h
  ·cases h; rfl
  ·cases h
 ·right
  rw [List.getElem?_set, if_neg e] at h
  exact ⟨e, h⟩
theorem Ok.setL (k : Ok cx Γ sc env h₀ F μ st h) {x : Str} {i : Nat} {v : V} {r : Value} (hx : ah Γ x = some i) (hk : sc.lookup x = some .local) (hv : VR cx.sp F μ v r)
  {m : Str → Option Value} (hm : h.Ns env.locals m) (hn : h'.Ns env.locals (fun y => if y = x then some r else m y)) (hs : Heap.SameBut env.locals h h') : Ok cx Γ sc env h₀ F μ ⟨st.loc.set i (some v), st.cells⟩ h' := by
 have ne : ∀ {a : Addr} {z : Prop}, (a = env.locals → False) → a ≠ env.locals := fun h => h
 have st' : ∀ a o, a ≠ env.locals → h.get? a = some o → h'.get? a = some o := fun a o ha e => (hs.2 a ha).trans e
 obtain ⟨m', hm', hmv⟩ := k.ns
 have hmm : m' = m := by
  obtain ⟨o, es, ep, e, hd, _, hf⟩ := hm
  obtain ⟨o', es', ep', e', hd', _, hf'⟩ := hm'
  rw [e] at e'; cases e'
  rw [hd] at hd'; cases hd'
  funext y; rw [← hf, ← hf']
 subst hmm
 refine ⟨fun a o e => st' a o (fun q => by rw [q, k.fL] at e; exact ab e) (k.fz a o e), k.fL, k.fC, k.fM, k.fP, k.gF, fun a o e => st' a o (fun q => by rw [q, k.nL] at e; exact ab e) (k.keep a o e), k.nL, k.nC, k.nM, k.nP, k.nd, k.mL, k.mP, k.lP, k.cM,
  ⟨_, hn, fun y j w h1 h2 h3 => ?_⟩, fun y j h1 h2 => ?_, k.len, fun n c hc => ?_, fun i a l h1 h2 => ?_, ?_⟩
 ·rcases eY h3 with ⟨e1, e2⟩ | ⟨e1, e2⟩
  ·subst e1 e2
   have : y = x := eM h2 hx
   subst this
   exact ⟨r, by simp, hv⟩
  ·have : y ≠ x := fun q => e1 (by subst q; rw [hx] at h2; exact Option.some.inj h2)
   obtain ⟨r', e, z⟩ := hmv y j w h1 h2 e2
   exact ⟨r', by simp [this, e], z⟩
 ·obtain ⟨c, ov, e1, e2, e3⟩ := k.cl y j h1 h2
  have hc := k.cM y c (mem_of_lookup e1)
  refine ⟨c, ov, e1, cL e2 fun o => st' c o hc.2.1, fun w hw => ?_⟩
  rcases eY hw with ⟨q1, q2⟩ | ⟨q1, q2⟩
  ·subst q1
   have : y = x := eM h2 hx
   subst this
   rw [hk] at h1; rcases h1 with h1 | h1 <;> cases h1
  ·exact e3 w q2
 ·rw [hs.2 c (k.cM n c hc).2.1]; exact k.ca n c hc
 ·obtain ⟨h3, vs, ⟨o, n, e, h4⟩, h5⟩ := k.ct i a l h1 h2
  exact ⟨h3, vs, ⟨o, n, st' a o (fun q => k.mL (q ▸ List.mem_of_getElem? h1)) e, h4⟩, h5⟩
 ·obtain ⟨ps, e, t⟩ := k.tab; exact ⟨ps, st' _ _ (fun q => k.lP q.symm) e, t⟩
theorem Ok.setC (k : Ok cx Γ sc env h₀ F μ st h) {x : Str} {i : Nat} {v : V} {r : Value} {c : Addr} (hx : ah Γ x = some i) (hk : sc.lookup x = some .cell ∨ sc.lookup x = some .free) (hap : ∀ n n' c, (n, c) ∈ env.cells → (n', c) ∈ env.cells → n = n') (hv : VR cx.sp F μ v r)
  (hc : env.cells.lookup x = some c) (hn : h'.IsCell c (some r)) (hs : Heap.SameBut c h h') : Ok cx Γ sc env h₀ F μ ⟨st.loc.set i (some v), st.cells⟩ h' := by
 have hcm := mem_of_lookup hc
 have st' : ∀ a o, a ≠ c → h.get? a = some o → h'.get? a = some o := fun a o ha e => (hs.2 a ha).trans e
 obtain ⟨m, hm, hmv⟩ := k.ns
 have hc3 := k.cM x c hcm
 refine ⟨fun a o e => st' a o (fun q => by rw [q, k.fC x c hcm] at e; exact ab e) (k.fz a o e), k.fL, k.fC, k.fM, k.fP, k.gF, fun a o e => st' a o (fun q => by rw [q, k.nC x c hcm] at e; exact ab e) (k.keep a o e), k.nL, k.nC, k.nM, k.nP, k.nd, k.mL, k.mP, k.lP, k.cM,
  ⟨m, hm.at' fun o => st' _ o (Ne.symm hc3.2.1), fun y j w h1 h2 h3 => ?_⟩, fun y j h1 h2 => ?_, k.len, fun n c' hc' => ?_, fun i a l h1 h2 => ?_, ?_⟩
 ·rcases eY h3 with ⟨e1, e2⟩ | ⟨e1, e2⟩
  ·subst e1
   have : y = x := eM h2 hx
   subst this
   rw [h1] at hk; rcases hk with hk | hk <;> cases hk
  ·exact hmv y j w h1 h2 e2
 ·by_cases e : y = x
  ·subst e
   rw [hx] at h2; obtain rfl := Option.some.inj h2
   refine ⟨c, some r, hc, hn, fun w hw => ?_⟩
   rcases eY hw with ⟨q1, q2⟩ | ⟨q1, q2⟩
   ·subst q2; exact ⟨r, rfl, hv⟩
   ·exact absurd rfl q1
  ·obtain ⟨c', ov, e1, e2, e3⟩ := k.cl y j h1 h2
   have hne : c' ≠ c := fun q => e (hap _ _ _ (mem_of_lookup e1) (q ▸ hcm))
   refine ⟨c', ov, e1, cL e2 fun o => st' c' o hne, fun w hw => ?_⟩
   rcases eY hw with ⟨q1, q2⟩ | ⟨q1, q2⟩
   ·subst q1; exact absurd (eM h2 hx) e
   ·exact e3 w q2
 ·by_cases q : c' = c
  ·subst q; obtain ⟨o, e, _⟩ := hn; rw [e]; simp
  ·rw [hs.2 c' q]; exact k.ca n c' hc'
 ·obtain ⟨h3, vs, ⟨o, n, e, h4⟩, h5⟩ := k.ct i a l h1 h2
  exact ⟨h3, vs, ⟨o, n, st' a o (fun q => hc3.1 (q ▸ List.mem_of_getElem? h1)) e, h4⟩, h5⟩
 ·obtain ⟨ps, e, t⟩ := k.tab; exact ⟨ps, st' _ _ (fun q => hc3.2.2 q.symm) e, t⟩
theorem Ok.setM (k : Ok cx Γ sc env h₀ F μ st h) {i : Nat} {d : Addr} {l : List V} {vs : List Value} (hd : μ[i]? = some d) (hl : l.length ≤ lim) (hv : VRs cx.sp F μ l vs)
  (hn : OwnAt h'.get? d vs) (hs : Heap.SameBut d h h') : Ok cx Γ sc env h₀ F μ ⟨st.loc, st.cells.set i l⟩ h' := by
 have hdm := List.mem_of_getElem? hd
 have st' : ∀ a o, a ≠ d → h.get? a = some o → h'.get? a = some o := fun a o ha e => (hs.2 a ha).trans e
 obtain ⟨m, hm, hmv⟩ := k.ns
 refine ⟨fun a o e => st' a o (fun q => by rw [q, k.fM d hdm] at e; cases e) (k.fz a o e), k.fL, k.fC, k.fM, k.fP, k.gF, fun a o e => st' a o (fun q => by rw [q, k.nM d hdm] at e; cases e) (k.keep a o e), k.nL, k.nC, k.nM, k.nP, k.nd, k.mL, k.mP, k.lP, k.cM,
  ⟨m, hm.at' fun o => st' _ o (fun q => k.mL (q ▸ hdm)), hmv⟩, fun y j h1 h2 => ?_, by rw [k.len]; simp, fun n c' hc' => ?_, fun j a l' h1 h2 => ?_, ?_⟩
 ·obtain ⟨c', ov, e1, e2, e3⟩ := k.cl y j h1 h2
  exact ⟨c', ov, e1, cL e2 fun o => st' c' o fun q => (k.cM y c' (mem_of_lookup e1)).1 (q ▸ hdm), e3⟩
 ·rw [hs.2 c' fun q => (k.cM n c' hc').1 (q ▸ hdm)]; exact k.ca n c' hc'
 ·by_cases q : i = j
  ·subst q
   rw [hd] at h1; (injection h1 with h1; subst h1)
   rw [List.getElem?_set] at h2
   simp only [if_true] at h2
   split at h2
   ·cases h2; exact ⟨hl, vs, hn, hv⟩
   ·cases h2
  ·rw [List.getElem?_set, if_neg q] at h2
   obtain ⟨h3, ws, ⟨o, n, e, h4⟩, h5⟩ := k.ct j a l' h1 h2
   have : a ≠ d := fun z => q ((List.getElem?_inj (by have := List.getElem?_eq_some_iff.mp hd; exact this.1) k.nd).mp (by rw [hd, h1, z]))
   exact ⟨h3, ws, ⟨o, n, st' a o this e, h4⟩, h5⟩
 ·obtain ⟨ps, e, t⟩ := k.tab; exact ⟨ps, st' _ _ (fun q => k.mP (q ▸ hdm)) e, t⟩
theorem Ok.newM (k : Ok cx Γ sc env h₀ F μ st h) {d : Addr} {l : List V} {vs : List Value} (hd : h.get? d = Option.none) (hl : l.length ≤ lim) (hv : VRs cx.sp F (μ ++ [d]) l vs)
  (hn : OwnAt h'.get? d vs) (hs : ∀ a o, h.get? a = some o → h'.get? a = some o) : Ok cx Γ sc env h₀ F (μ ++ [d]) ⟨st.loc, st.cells ++ [l]⟩ h' := by
 have al : ∀ {a : Addr}, h.get? a ≠ Option.none → a ≠ d := fun h1 q => h1 (q ▸ hd)
 have up : ∀ {v : V} {r : Value}, VR cx.sp F μ v r → VR cx.sp F (μ ++ [d]) v r := fun z => z.mono (fun _ _ e => e) (List.prefix_append _ _)
 have ups : ∀ {v : List V} {r : List Value}, VRs cx.sp F μ v r → VRs cx.sp F (μ ++ [d]) v r := fun z => z.mono (fun _ _ e => e) (List.prefix_append _ _)
 obtain ⟨m, hm, hmv⟩ := k.ns
 have memd : ∀ {a : Addr}, a ∈ μ ++ [d] → a ∈ μ ∨ a = d := fun h => by simpa using h
 refine ⟨fun a o e => hs a o (k.fz a o e), k.fL, k.fC, fun a ha => ?_, k.fP, k.gF, fun a o e => hs a o (k.keep a o e), k.nL, k.nC, fun a ha => ?_, k.nP, ?_, fun q => ?_, fun q => ?_, k.lP, fun n c hc => ⟨fun q => ?_, (k.cM n c hc).2⟩,
  ⟨m, hm.keeps hs, fun x i v h1 h2 h3 => ?_⟩, fun y j h1 h2 => ?_, by simp [k.len], fun n c' hc' => ?_, fun j a l' h1 h2 => ?_, ?_⟩
 ·rcases memd ha with q | q
  ·exact k.fM a q
  ·subst q
   cases e : F a with
   | none => rfl
   | some o => rw [k.fz a o e] at hd; exact cn hd
 ·rcases memd ha with q | q
  ·exact k.nM a q
  ·subst q
   cases e : h₀.get? a with
   | none => rfl
   | some o => rw [k.keep a o e] at hd; exact cn hd
 ·rw [List.nodup_append]
  refine ⟨k.nd, by simp, fun a ha b hb e => ?_⟩
  simp at hb; subst hb; subst e
  exact k.aliveM a ha hd
 ·rcases memd q with q | q
  ·exact k.mL q
  ·exact k.aliveL (q ▸ hd)
 ·rcases memd q with q | q
  ·exact k.mP q
  ·exact k.aliveP (q ▸ hd)
 ·rcases memd q with q | q
  ·exact (k.cM n c hc).1 q
  ·exact k.ca n c hc (q ▸ hd)
 ·obtain ⟨r, e, z⟩ := hmv x i v h1 h2 h3
  exact ⟨r, e, up z⟩
 ·obtain ⟨c', ov, e1, e2, e3⟩ := k.cl y j h1 h2
  exact ⟨c', ov, e1, cL e2 fun o => hs c' o, fun v hv => by obtain ⟨r, e, z⟩ := e3 v hv; exact ⟨r, e, up z⟩⟩
 ·cases e : h.get? c' with
  | none => exact absurd e (k.ca n c' hc')
  | some o => rw [hs _ _ e]; simp
 ·rcases Nat.lt_trichotomy j μ.length with q | q | q
  ·rw [List.getElem?_append_left q] at h1
   rw [List.getElem?_append_left (by rw [← k.len]; exact q)] at h2
   obtain ⟨h3, ws, h4, h5⟩ := k.ct j a l' h1 h2
   exact ⟨h3, ws, h4.mono fun a o e => hs a o e, ups h5⟩
  ·subst q
   rw [List.getElem?_append_right (Nat.le_refl _)] at h1
   rw [List.getElem?_append_right (by rw [k.len]; exact Nat.le_refl _)] at h2
   simp [k.len] at h1 h2
   subst h1 h2
   exact ⟨hl, vs, hn, hv⟩
  ·rw [List.getElem?_eq_none (by simp; exact o0 q)] at h1; exact ab h1
 ·obtain ⟨ps, e, t⟩ := k.tab; exact ⟨ps, hs _ _ e, t⟩
end
end Mine
namespace Mine
open PySem PySem.W PySem.Calls PyProof.Rows
noncomputable def PH.upd (F : PH) (a : Addr) (o : Obj) : PH := fun b => if b = a then some o else F b
theorem sy : lim ≤ sizeLine := by rw [sizeLine_eq]; decide
theorem bo {n : Nat} (h : n ≤ lim) : n ≤ sizeLine := Nat.le_trans h sy
theorem bu (h : Heap) : h.get? h.objs.size = Option.none := by
 cases e : h.get? h.objs.size with
 | none => rfl
 | some o => exact absurd (Heap.lt_size e) (Nat.lt_irrefl _)
theorem eO (x : Str) : (⟨x.cps.toList.toArray⟩ : Str) = x := by cases x; simp
section
variable {cx : Cx} {Γ : List Str} {sc : List (Str × NameKind)} {env : Env} {h₀ : Heap} {F F' : PH} {μ : List Addr} {st : St} {s : Shared}
theorem Ok.waste (k : Ok cx Γ sc env h₀ F μ st s.heap) (o : Obj) {t : Nat} : Ok cx Γ sc env h₀ F μ st (s.heap.push o) ∧ Tr cx.P F μ s F μ { s with heap := s.heap.push o, toks := t } :=
 have hk : ∀ a o', s.heap.get? a = some o' → (s.heap.push o).get? a = some o' := fun a o' e => Heap.get?_push_of_some _ e
 ⟨k.ext (fun _ _ e => e) hk (fun a o' e => hk a o' (k.fz a o' e)) fun a h => .inl h, Tr.ext (fun _ _ e => e) hk fun a h => .inl h⟩
theorem Ok.made (k : Ok cx Γ sc env h₀ F μ st s.heap) (o : Obj) (hf : o.isFreed = false) {t : Nat} :
  Ok cx Γ sc env h₀ (PH.upd F s.heap.objs.size o) μ st (s.heap.push o) ∧ Tr cx.P F μ s (PH.upd F s.heap.objs.size o) μ { s with heap := s.heap.push o, toks := t } ∧ PH.upd F s.heap.objs.size o s.heap.objs.size = some o := by
 have hk : ∀ a o', s.heap.get? a = some o' → (s.heap.push o).get? a = some o' := fun a o' e => Heap.get?_push_of_some _ e
 have hF : PLe F (PH.upd F s.heap.objs.size o) := fun a o' e => by
  have : a ≠ s.heap.objs.size := fun q => by rw [q] at e; have := k.fz _ _ e; rw [bu] at this; exact ab this
  simp [PH.upd, this, e]
 have hn : ∀ a, PH.upd F s.heap.objs.size o a ≠ Option.none → F a ≠ Option.none ∨ s.heap.get? a = Option.none := fun a h => by
  by_cases q : a = s.heap.objs.size
  ·right; rw [q]; exact bu _
  ·left; simpa [PH.upd, q] using h
 refine ⟨k.ext hF hk (fun a o' e => ?_) hn, Tr.ext hF hk hn, by simp [PH.upd]⟩
 by_cases q : a = s.heap.objs.size
 ·subst q; simp [PH.upd] at e; subst e; exact Heap.get?_push_size _ hf
 ·simp [PH.upd, q] at e; exact hk a o' (k.fz a o' e)
theorem Ok.asL (k : Ok cx Γ sc env h₀ F μ st s.heap) {v : V} {r : Value} {l : List V} (hv : VR cx.sp F μ v r) (h : aE st.cells v = some l) :
  l.length ≤ lim ∧ ∃ a vs, r = .ref a ∧ SeqAt s.heap.get? a "list" vs ∧ VRs cx.sp F μ l vs := by
 cases v with
 | lst m =>
  obtain rfl := Option.some.inj h
  obtain ⟨h1, a, vs, h2, h3, h4⟩ := hv
  exact ⟨h1, a, vs, h2, h3.mono fun a o e => k.fz a o e, h4⟩
 | cell i =>
  obtain ⟨a, h1, h2⟩ := hv
  obtain ⟨h3, vs, h4, h5⟩ := k.ct i a l h1 h
  exact ⟨h3, a, vs, h2, h4.seq, h5⟩
 | _ => cases h
theorem VRs.ints {sp : Addr} {l : List V} {vs : List Value} {ns : List Int} (h : VRs sp F μ l vs) (e : bX l = some ns) : IntsAre vs ns :=
 h.ind (P := fun l vs => ∀ ns, bX l = some ns → IntsAre vs ns) (fun _ h => Option.some.inj h ▸ .nil) (fun v r l rs hv _ ih ns h => by
  cases v with
  | int i =>
   obtain ⟨ms, h3, rfl⟩ := Option.map_eq_some_iff.1 (show (bX l).map (i :: ·) = some ns from h)
   obtain ⟨t, rfl⟩ := hv
   exact .cons i t (ih _ h3)
  | _ => exact ab h) ns e
theorem VRs.txts {sp : Addr} {l : List V} {vs : List Value} {ns : List (List Nat)} (h : VRs sp F μ l vs) (e : txts l = some ns) : StrsAre vs (ns.map fun x => (⟨x.toArray⟩ : Str)) ∧ ∀ x ∈ ns, x.length ≤ lim :=
 h.ind (P := fun l vs => ∀ ns, Mine.txts l = some ns → StrsAre vs (ns.map fun x => (⟨x.toArray⟩ : Str)) ∧ ∀ x ∈ ns, x.length ≤ lim) (fun _ h => Option.some.inj h ▸ ⟨.nil, fun _ h => nomatch h⟩) (fun v r l rs hv _ ih ns h => by
  cases v with
  | str i =>
   obtain ⟨ms, h3, rfl⟩ := Option.map_eq_some_iff.1 (show (Mine.txts l).map (i :: ·) = some ns from h)
   obtain ⟨hl, t, rfl⟩ := hv
   obtain ⟨h4, h5⟩ := ih _ h3
   exact ⟨.cons _ t h4, List.forall_mem_cons.2 ⟨hl, h5⟩⟩
  | _ => exact ab h) ns e
end
section
variable {cx : Cx} {A : Around} {E : Value → Shared → Prop} {Γ : List Str} {sc : List (Str × NameKind)} {env : Env} {h₀ : Heap} {F F' : PH} {μ : List Addr} {st : St} {s : Shared} {K : V → Prop} {Q : Value → Shared → Prop}
abbrev Post (cx : Cx) (Γ : List Str) (sc : List (Str × NameKind)) (env : Env) (h₀ : Heap) (F : PH) (μ : List Addr) (st : St) (s : Shared) (K : V → Prop) (Q : Value → Shared → Prop) : Prop :=
 ∀ v F' s' r, K v → Ok cx Γ sc env h₀ F' μ st s'.heap → Tr cx.P F μ s F' μ s' → VR cx.sp F' μ v r → Q r s'
theorem Post.tok (k : Ok cx Γ sc env h₀ F μ st s.heap) (q : Post cx Γ sc env h₀ F μ st s K Q) {v : V} {r : Value} {t : Nat} (hK : K v) (hv : VR cx.sp F μ v r) : Q r { s with toks := t } :=
 q v F _ r hK k Tr.tok hv
theorem Post.here (k : Ok cx Γ sc env h₀ F μ st s.heap) (q : Post cx Γ sc env h₀ F μ st s K Q) {v : V} {r : Value} (hK : K v) (hv : VR cx.sp F μ v r) : Q r s := q v F _ r hK k Tr.refl hv
theorem Post.list (k : Ok cx Γ sc env h₀ F μ st s.heap) (q : Post cx Γ sc env h₀ F μ st s K Q) {l : List V} {vs : List Value} {t : Nat} (hl : l.length ≤ lim) (hK : K (.lst l)) (hv : VRs cx.sp F μ l vs) :
  Q (.ref s.heap.objs.size) { s with heap := s.heap.push { cls := .type "list", data := .seq vs.toArray }, toks := t } := by
 obtain ⟨k', tr, e⟩ := k.made { cls := .type "list", data := .seq vs.toArray } rfl (t := t)
 exact q _ _ _ _ hK k' tr ⟨hl, _, vs, rfl, ⟨_, _, e, rfl, rfl⟩, hv.mono tr.le (List.prefix_refl _)⟩
theorem lv {i j : Int} (hi : small i) (hj : small j) : IntMulOk i j := by
 have h1 : Builtin.Int.intBits i ≤ 64 := intBits_le_64 (by have := hi.1; omega) (by have := hi.2; omega)
 unfold IntMulOk
 rw [decide_eq_false (by show ¬ _ > 64; exact o5 h1)]
 simp
theorem dp (l m : List Nat) : (⟨l.toArray⟩ : Str) ++ (⟨m.toArray⟩ : Str) = ⟨(l ++ m).toArray⟩ := by
 apply Str.ext'
 rw [Str.cps_append]
 simp
theorem aM (l : List Nat) : (⟨l.toArray⟩ : Str).length = l.length := by simp [Str.length]
theorem lw {prog : Program} {w : World} {A : Around} {E : Value → Shared → Prop} {s : Shared} {l b : Addr} {vs ws : List Value} {Q : Value → Shared → Prop} (hl : s.heap.IsList l vs.toArray) (hb : s.heap.IsList b ws.toArray)
  (h : Q (.ref s.heap.objs.size) { s with heap := s.heap.push { cls := .type "list", data := .seq (vs ++ ws).toArray } }) (hsz : vs.length + ws.length ≤ sizeLine) :
  wpAny (model prog w) A (binaryOp .Add (.ref l) (.ref b)) Q E s := by
 obtain ⟨⟨cls, dd, data, sl⟩, ho, hc, n, hd⟩ := id hl
 obtain ⟨⟨cls2, dd2, data2, sl2⟩, ho2, hc2, n2, hd2⟩ := id hb
 simp only at hc hd hc2 hd2
 subst hc hd hc2 hd2
 have e : vs.toArray ++ ws.toArray = (vs ++ ws).toArray := by simp
 refine concat_meets ⟨_, ho, rfl⟩ ⟨_, ho2, rfl⟩ noFill_list_add seq_list_add PySem.F.slot_list_add PySem.F.entry_list_add (PySem.F.args_list_add_2 _ _) (list_addW l b vs.toArray ws.toArray n n2 dd dd2 sl sl2 (by simpa using hsz)) ⟨ho, ho2, ?_⟩
 rw [e]
 exact h
theorem fV (x : List Nat) : ∀ (n : Nat) (acc : List Nat), List.foldl (fun x1 x2 => x1 ++ x2) acc.toArray (List.replicate n x.toArray) = (acc ++ (List.replicate n x).flatten).toArray
 | 0, acc => by simp
 | n + 1, acc => by
  rw [List.replicate_succ, List.foldl_cons, List.replicate_succ, List.flatten_cons]
  rw [show acc.toArray ++ x.toArray = (acc ++ x).toArray by simp, fV x n, List.append_assoc]
theorem vd (x : List Nat) {n : Int} (hn : 1 ≤ n) : Txt.mul ⟨x.toArray⟩ n = ⟨((List.replicate n.toNat x).flatten).toArray⟩ := by
 unfold Txt.mul
 rw [if_neg (o4 hn)]
 split
 ·rename_i h
  rw [Bool.or_eq_true, beq_iff_eq, beq_iff_eq] at h
  rcases h with h | h
  ·subst h; simp
  ·rw [aM] at h
   have : x = [] := List.length_eq_zero_iff.mp h
   subst this; simp
 ·congr 1
  have := fV x n.toNat []
  simpa using this
theorem eZ (x : List Nat) (n : Nat) : ((List.replicate n x).flatten).length = x.length * n := by
 induction n with
 | zero => simp
 | succ n ih => rw [List.replicate_succ, List.flatten_cons, List.length_append, ih, Nat.mul_succ]; exact o3
theorem nj (k : Ok cx Γ sc env h₀ F μ st s.heap) {a b : V} {ra rb : Value} (ha : VR cx.sp F μ a ra) (hb : VR cx.sp F μ b rb) (hw : so st.cells a b K)
  (q : Post cx Γ sc env h₀ F μ st s K Q) : wpAny (model cx.prog cx.w) A (binaryOp .Add ra rb) Q E s := by
 refine ex2 (bP hw) fun l e1 hw => ?_
 refine ex2 (bP hw) fun m e2 hw => ?_
 obtain ⟨_, a', vs, rfl, h1, h2⟩ := k.asL ha e1
 obtain ⟨_, b', ws, rfl, h3, h4⟩ := k.asL hb e2
 refine lw h1.list h3.list (q.list k (by rw [List.length_append]; exact hw.1) hw.2 (h2.append h4)) ?_
 rw [h2.length, h4.length]; exact bo hw.1
theorem ve (k : Ok cx Γ sc env h₀ F μ st s.heap) {a b : V} {ra rb : Value} (ha : VR cx.sp F μ a ra) (hb : VR cx.sp F μ b rb) (hw : ym st.cells a b K)
  (q : Post cx Γ sc env h₀ F μ st s K Q) : wpAny (model cx.prog cx.w) A (binaryOp .Add ra rb) Q E s := by
 cases a with
 | int i =>
  refine ex2 (bn hw) fun j eq0 hw => ?_; subst eq0
  obtain ⟨t, rfl⟩ := ha; obtain ⟨u, rfl⟩ := hb
  exact PyProof.Rows.add_int (q.tok k hw ⟨_, rfl⟩)
 | str x =>
  refine ex2 (bQ hw) fun y eq0 hw => ?_; subst eq0
  obtain ⟨h1, t, rfl⟩ := ha; obtain ⟨h2, u, rfl⟩ := hb
  refine PyProof.Rows.add_str (fun t' tk => q.tok k hw.2 ⟨by rw [List.length_append]; exact hw.1, t', by rw [dp]⟩) ?_
  rw [aM, aM]; exact bo hw.1
 | lst l => exact nj k ha hb hw q
 | cell l => exact nj k ha hb hw q
 | _ => exact hw.elim
theorem vf (k : Ok cx Γ sc env h₀ F μ st s.heap) {x : List Nat} {n : Int} {t u : Tok} (h1 : x.length ≤ lim) (hw : 1 ≤ n ∧ small n ∧ x.length * n.toNat ≤ lim ∧ K (.str (List.replicate n.toNat x).flatten))
  (q : Post cx Γ sc env h₀ F μ st s K Q) : wpAny (model cx.prog cx.w) A (binaryOp .Mult (.str ⟨x.toArray⟩ t) (.int n u)) Q E s := by
 obtain ⟨h2, hs, h3, h4⟩ := hw
 refine SB.mul ⟨?_, fun _ _ => ?_, fun _ _ => ?_⟩ (fun t' tk => q.tok k h4 ⟨by rw [eZ]; exact h3, t', by rw [vd _ h2]⟩)
 ·have := hs.1; have := hs.2
  simp only [Bool.or_eq_false_iff, decide_eq_false_iff_not]; omega
 ·rw [aM]
  have hx : (x.length : Int) ≤ (lim : Int) := by exact_mod_cast h1
  have h5 : ((x.length * n.toNat : Nat) : Int) ≤ (lim : Int) := by exact_mod_cast h3
  intro h6
  have h7 : (2 ^ 63 - 1 : Int) / n < (x.length : Int) := h6
  have h8 := (Int.ediv_lt_iff_lt_mul (o2 h2)).mp h7
  rw [Int.natCast_mul, Int.toNat_of_nonneg (o1 h2)] at h5
  simp only [lim] at h5
  omega
 ·rw [aM]
  unfold Builtin.Str.tooLong
  exact decide_eq_false (Nat.not_lt.mpr (bo h3))
theorem vg (k : Ok cx Γ sc env h₀ F μ st s.heap) {a b : V} {ra rb : Value} (ha : VR cx.sp F μ a ra) (hb : VR cx.sp F μ b rb) (hw : yn a b K)
  (q : Post cx Γ sc env h₀ F μ st s K Q) : wpAny (model cx.prog cx.w) A (binaryOp .Mult ra rb) Q E s := by
 cases a with
 | int i =>
  refine ex2 (bn hw) fun j eq0 hw => ?_; subst eq0
  obtain ⟨t, rfl⟩ := ha; obtain ⟨u, rfl⟩ := hb
  exact PyProof.Rows.mul_int (q.tok k hw.2.2 ⟨_, rfl⟩) (lv hw.1 hw.2.1)
 | str x =>
  refine ex2 (bn hw) fun n eq0 hw => ?_; subst eq0
  obtain ⟨h1, t, rfl⟩ := ha; obtain ⟨u, rfl⟩ := hb
  exact vf k h1 hw q
 | _ => exact hw.elim
theorem yA (k : Ok cx Γ sc env h₀ F μ st s.heap) {op : Operator} {a b : V} {ra rb : Value} (ha : VR cx.sp F μ a ra) (hb : VR cx.sp F μ b rb) (hw : dx st.cells op a b K)
  (q : Post cx Γ sc env h₀ F μ st s K Q) : wpAny (model cx.prog cx.w) A (binaryOp op ra rb) Q E s := by
 cases op with
 | Add => exact ve k ha hb hw q
 | Mult => exact vg k ha hb hw q
 | Sub =>
  refine ex2 (bn hw) fun i eq0 hw => ?_; subst eq0
  refine ex2 (bn hw) fun j eq0 hw => ?_; subst eq0
  obtain ⟨t, rfl⟩ := ha; obtain ⟨u, rfl⟩ := hb
  exact PyProof.Rows.sub_int (q.tok k hw ⟨_, rfl⟩)
 | FloorDiv =>
  refine ex2 (bn hw) fun i eq0 hw => ?_; subst eq0
  refine ex2 (bn hw) fun j eq0 hw => ?_; subst eq0
  obtain ⟨t, rfl⟩ := ha; obtain ⟨u, rfl⟩ := hb
  obtain ⟨h1, h2, h3⟩ := hw
  exact PyProof.Rows.floordiv_int h1 (q.tok k h3 ⟨_, rfl⟩) (Or.inl (PyProof.noPylong_small h2))
 | Mod =>
  refine ex2 (bn hw) fun i eq0 hw => ?_; subst eq0
  refine ex2 (bn hw) fun j eq0 hw => ?_; subst eq0
  obtain ⟨t, rfl⟩ := ha; obtain ⟨u, rfl⟩ := hb
  exact PyProof.Rows.mod_int hw.1 (q.tok k hw.2 ⟨_, rfl⟩)
 | _ => exact hw.elim
end
end Mine
namespace Mine
open PySem PySem.W PySem.Calls PyProof.Rows
noncomputable def jR (cx : Cx) (A : Around) (s : Shared) (Q : Value → Shared → Prop) (E : Value → Shared → Prop) (op op' : CmpOp) (ra rb : Value) (c : Bool) : Prop :=
 (Q (.bool c) s → wpAny (model cx.prog cx.w) A (compareOp op ra rb) Q E s) ∧ (Q (.bool (!c)) s → wpAny (model cx.prog cx.w) A (compareOp op' ra rb) Q E s)
section
variable {cx : Cx} {A : Around} {E : Value → Shared → Prop} {Γ : List Str} {sc : List (Str × NameKind)} {env : Env} {h₀ : Heap} {F F' : PH} {μ : List Addr} {st : St} {s : Shared} {K : V → Prop} {Q : Value → Shared → Prop}
theorem StrsAre.consI {vs : List Value} {x : Str} {xs : List Str} (h : StrsAre vs (x :: xs)) : ∃ t ws, vs = .str x t :: ws ∧ StrsAre ws xs := by
 cases h with
 | cons _ t h => exact ⟨t, _, rfl, h⟩
theorem jS {y : List (List Nat)} : ∀ {x : List (List Nat)} {vs ws : List Value}, StrsAre vs (x.map fun x => (⟨x.toArray⟩ : Str)) → StrsAre ws (y.map fun x => (⟨x.toArray⟩ : Str)) → vs.length = ws.length →
  ∃ e : Nat → Bool, (List.range vs.length).all e = decide (x = y) ∧ ∀ (A : Around) (s : Shared) j (h1 : j < vs.length) (h2 : j < ws.length), SeqAt.EqAt A s vs[j] ws[j] (e j) := by
 induction y with
 | nil =>
  intro x vs ws h1 h2 hl
  obtain rfl : ws = [] := by cases h2; rfl
  cases x with
  | nil =>
   obtain rfl : vs = [] := by cases h1; rfl
   exact ⟨fun _ => true, rfl, fun _ _ j h => absurd h (Nat.not_lt_zero j)⟩
  | cons a x =>
   obtain ⟨t, us, rfl, _⟩ := StrsAre.consI h1
   exact absurd hl (Nat.succ_ne_zero _)
 | cons y ys ih =>
  intro x vs ws h1 h2 hl
  obtain ⟨u, ws, rfl, g2⟩ := StrsAre.consI h2
  cases x with
  | nil =>
   obtain rfl : vs = [] := by cases h1; rfl
   exact absurd hl.symm (Nat.succ_ne_zero _)
  | cons x xs =>
   obtain ⟨t, vs, rfl, g1⟩ := StrsAre.consI h1
   obtain ⟨e, h3, h4⟩ := ih g1 g2 (Nat.succ.inj hl)
   refine ⟨fun j => Nat.casesOn j (decide (x = y)) e, ?_, fun A s j h5 h6 => ?_⟩
   ·rw [List.length_cons, List.range_succ_eq_map, List.all_cons, List.all_map]
    rw [show (List.range vs.length).all ((fun j => Nat.casesOn j (decide (x = y)) e) ∘ Nat.succ) = decide (xs = ys) from h3]
    show (decide (x = y) && decide (xs = ys)) = decide (x :: xs = y :: ys)
    rw [← Bool.decide_and]
    exact decide_eq_decide.2 List.cons_eq_cons.symm
   ·cases j with
    | zero =>
     have := (SeqRoads2.EqGives.str (⟨x.toArray⟩ : Str) (⟨y.toArray⟩ : Str) t u).at A s
     have e2 : ((⟨x.toArray⟩ : Str).cps.toList == (⟨y.toArray⟩ : Str).cps.toList) = decide (x = y) := by rw [Bool.eq_iff_iff]; simp
     rw [e2] at this
     exact this
    | succ j => exact h4 A s j (Nat.lt_of_succ_lt_succ h5) (Nat.lt_of_succ_lt_succ h6)
theorem qi {l m : List V} {a b : Addr} {vs ws : List Value} {c : Bool} (hu : A.units < cLine) (ha : s.heap.IsList a vs.toArray) (hb : s.heap.IsList b ws.toArray) (h1 : VRs cx.sp F μ l vs) (h2 : VRs cx.sp F μ m ws)
  (h : gO l m = some c) : SeqAt.RcAt A s (.ref a) (.ref b) c ∧ SeqAt.RcNeAt A s (.ref a) (.ref b) (!c) := by
 have e1 := h1.length
 have e2 := h2.length
 unfold gO at h
 split at h
 ·rename_i hn
  obtain rfl := Option.some.inj h
  have hz : (vs.toArray.size != ws.toArray.size) = true := by simp; exact o10 e1 hn e2
  exact ⟨SeqAt.RcAt.lists_lengths ha hb hz hu, SeqAt.RcNeAt.lists_lengths ha hb hz hu⟩
 ·rename_i hn
  have hz : vs.toArray.size = ws.toArray.size := by simp; exact o9 e1 e2 hn
  split at h
  ·rename_i h0
   obtain rfl := Option.some.inj h
   have hv : vs = [] := List.length_eq_zero_iff.mp (o8 h0 e1 hn)
   subst hv
   have a1 := SeqAt.RcAt.lists (e := fun _ => true) ha hb hz hu (fun j h1 => by simp at h1)
   have a2 := SeqAt.RcNeAt.lists (e := fun _ => true) ha hb hz hu (fun j h1 => by simp at h1)
   exact ⟨by simpa using a1, by simpa using a2⟩
  ·split at h
   ·rename_i x y hx hy
    obtain rfl := Option.some.inj h
    obtain ⟨t1, _⟩ := h1.txts hx
    obtain ⟨t2, _⟩ := h2.txts hy
    obtain ⟨e, h3, h4⟩ := jS t1 t2 (by omega)
    have a1 := SeqAt.RcAt.lists (e := e) ha hb hz hu (fun j h5 h6 => by simpa using h4 A.in1 s j (by simpa using h5) (by simpa using h6))
    have a2 := SeqAt.RcNeAt.lists (e := e) ha hb hz hu (fun j h5 h6 => by simpa using h4 A.in1 s j (by simpa using h5) (by simpa using h6))
    simp only [List.size_toArray] at a1 a2
    rw [h3] at a1 a2
    exact ⟨a1, a2⟩
   ·cases h
theorem gL (i : Int) (l : List Int) : l.any (· == i) = l.contains i := by
 induction l with
 | nil => rfl
 | cons a r ih =>
  rw [List.any_cons, List.contains_cons, ih]
  have : (a == i) = (i == a) := by
   by_cases q : a = i
   ·subst q; rfl
   ·rw [beq_eq_false_iff_ne.mpr q, beq_eq_false_iff_ne.mpr (Ne.symm q)]
  rw [this]
theorem gM (x : List Nat) (l : List (List Nat)) : (l.map fun x => (⟨x.toArray⟩ : Str)).any (· == (⟨x.toArray⟩ : Str)) = l.contains x := by
 induction l with
 | nil => rfl
 | cons a r ih =>
  rw [List.map_cons, List.any_cons, List.contains_cons, ih]
  have : ((⟨a.toArray⟩ : Str) == (⟨x.toArray⟩ : Str)) = (x == a) := by
   by_cases q : x = a
   ·subst q; rw [beq_self_eq_true, beq_self_eq_true]
   ·rw [beq_eq_false_iff_ne.mpr q, beq_eq_false_iff_ne]
    intro h; exact q (by have h2 := congrArg (fun z : Str => z.cps.toList) h; simpa using h2.symm)
  rw [this]
theorem qj {a : Addr} {vs : List Value} (h : SeqAt s.heap.get? a "tuple" vs) : IsTup s.heap a vs.toArray := by
 obtain ⟨o, n, h1, h2, h3⟩ := h; exact ⟨o, h1, h2, n, h3⟩
theorem AP {x : List Nat} {c : Nat} (h : sq x = some c) : x = [c] := by
 cases x with
 | nil => exact ab h
 | cons a r => cases r with
  | nil => obtain rfl := Option.some.inj h; rfl
  | cons => exact ab h
theorem uB (k : Ok cx Γ sc env h₀ F μ st s.heap) {a b : V} {ra rb : Value} {c : Bool} (ha : VR cx.sp F μ a ra) (hb : VR cx.sp F μ b rb) (hw : inV st.cells a b = some c) :
  jR cx A s Q E .In .NotIn ra rb c := by
 cases a with
 | str x =>
  cases b with
  | str y =>
   obtain ⟨d, h1, rfl⟩ := Option.map_eq_some_iff.mp hw
   obtain rfl := AP h1
   obtain ⟨_, t, rfl⟩ := ha; obtain ⟨_, u, rfl⟩ := hb
   have e : (!(Builtin.Str.occurrences ⟨y.toArray⟩ ⟨[d].toArray⟩ 0 (⟨y.toArray⟩ : Str).length 1).isEmpty) = y.contains d := by
    rw [show (⟨[d].toArray⟩ : Str) = ⟨#[d]⟩ from rfl, StrLaws.found_one]; simp
   exact ⟨fun h => PyProof.Rows.in_str (by rw [e]; exact h), fun h => PyProof.Rows.notIn_str (by rw [e]; exact h)⟩
  | tup l =>
   obtain ⟨_, t, rfl⟩ := ha
   obtain ⟨m, h1, rfl⟩ := Option.map_eq_some_iff.mp hw
   obtain ⟨_, b', vs, rfl, h3, h4⟩ := hb
   obtain ⟨h5, _⟩ := h4.txts h1
   have h6 := qj (s := s) (h3.mono fun a o e => k.fz a o e)
   exact ⟨fun h => in_tuple_strs h6 h5 (by rw [gM]; exact h), fun h => notin_tuple_strs h6 h5 (by rw [gM]; exact h)⟩
  | _ => exact ab hw
 | int i =>
  obtain ⟨t, rfl⟩ := ha
  obtain ⟨l, h1, hw⟩ := Option.bind_eq_some_iff.mp hw
  obtain ⟨m, h2, rfl⟩ := Option.map_eq_some_iff.mp hw
  obtain ⟨_, a', vs, rfl, h3, h4⟩ := k.asL hb h1
  exact ⟨fun h => in_list_ints h3.list (h4.ints h2) (by rw [gL]; exact h), fun h => notin_list_ints h3.list (h4.ints h2) (by rw [gL]; exact h)⟩
 | _ => exact ab hw
theorem uC {v : V} {a : Addr} (h : li v = some a) : v = .con (.ref a) := by
 cases v with
 | con v => cases v with
  | ref b => obtain rfl := Option.some.inj h; rfl
  | _ => exact ab h
 | _ => exact ab h
theorem uD {a b : V} {ra rb : Value} {c : Bool} (ha : VR cx.sp F μ a ra) (hb : VR cx.sp F μ b rb) (hw : isV a b = some c) :
  jR cx A s Q E .Is .IsNot ra rb c := by
 by_cases hn : b = .none
 ·subst hn
  subst hb
  cases a with
  | none => cases hw; cases ha; exact ⟨wpAny_is_self rfl, wpAny_isNot_self rfl⟩
  | str => obtain rfl := Option.some.inj hw; obtain ⟨_, t, rfl⟩ := ha; exact ⟨wpAny_is_other rfl (fun x => nomatch x), wpAny_isNot_other rfl (fun x => nomatch x)⟩
  | lst => obtain rfl := Option.some.inj hw; obtain ⟨_, t, _, rfl, _⟩ := ha; exact ⟨wpAny_is_other rfl (fun x => nomatch x), wpAny_isNot_other rfl (fun x => nomatch x)⟩
  | cell => obtain rfl := Option.some.inj hw; obtain ⟨_, _, rfl⟩ := ha; exact ⟨wpAny_is_other rfl (fun x => nomatch x), wpAny_isNot_other rfl (fun x => nomatch x)⟩
  | _ => cases hw
 ·have hw' : isW a b = some c := by
   cases b with
   | none => exact absurd rfl hn
   | _ => exact hw
  unfold isW at hw'
  cases e : li a with
  | some x =>
   rw [e] at hw'
   obtain rfl := uC e
   subst ha
   cases b with
   | str => cases hw'; obtain ⟨_, t, rfl⟩ := hb; exact ⟨wpAny_is_other rfl (fun x => nomatch x), wpAny_isNot_other rfl (fun x => nomatch x)⟩
   | con v => cases v with
    | ref y =>
     have hw2 : (if x = y then some true else Option.none) = some c := hw'
     split at hw2
     ·rename_i e; cases hw2; subst e; cases hb; exact ⟨wpAny_is_ref_self, wpAny_isNot_ref_self⟩
     ·exact ab hw2
    | _ => cases hw'
   | _ => cases hw'
  | none =>
   rw [e] at hw'
   obtain ⟨y, e2, hw'⟩ := Option.bind_eq_some_iff.mp hw'
   obtain rfl := uC e2
   cases a with
   | str => cases hw'; subst hb; obtain ⟨_, t, rfl⟩ := ha; exact ⟨wpAny_is_other rfl (fun x => nomatch x), wpAny_isNot_other rfl (fun x => nomatch x)⟩
   | _ => cases hw'
theorem qk (hu : A.units < cLine) (k : Ok cx Γ sc env h₀ F μ st s.heap) {a b : V} {ra rb : Value} {c : Bool} (ha : VR cx.sp F μ a ra) (hb : VR cx.sp F μ b rb) (hw : eqL st.cells a b = some c) :
  jR cx A s Q E .Eq .NotEq ra rb c := by
 obtain ⟨l, e1, hw⟩ := Option.bind_eq_some_iff.mp hw
 obtain ⟨m, e2, hw⟩ := Option.bind_eq_some_iff.mp hw
 obtain ⟨_, a', vs, rfl, h1, h2⟩ := k.asL ha e1
 obtain ⟨_, b', ws, rfl, h3, h4⟩ := k.asL hb e2
 obtain ⟨r1, r2⟩ := qi (A := A) (s := s) hu h1.list h3.list h2 h4 hw
 exact ⟨fun h => r1 _ _ _ _ h, fun h => r2 _ _ _ _ h⟩
theorem uE (hu : A.units < cLine) (k : Ok cx Γ sc env h₀ F μ st s.heap) {a b : V} {ra rb : Value} {c : Bool} (ha : VR cx.sp F μ a ra) (hb : VR cx.sp F μ b rb) (hw : eqV st.cells a b = some c) :
  jR cx A s Q E .Eq .NotEq ra rb c := by
 cases a with
 | int i => cases b with
  | int j =>
   obtain rfl := Option.some.inj hw
   obtain ⟨t, rfl⟩ := ha; obtain ⟨u, rfl⟩ := hb
   have e : (i == j) = decide (i = j) := rfl
   exact ⟨fun h => P.eq_int (by rw [e]; exact h), fun h => P.ne_int (by rw [bne, e]; exact h)⟩
  | _ => cases hw
 | str x => cases b with
  | str y =>
   obtain rfl := Option.some.inj hw
   obtain ⟨_, t, rfl⟩ := ha; obtain ⟨_, u, rfl⟩ := hb
   have e : ((⟨x.toArray⟩ : Str).cps.toList == (⟨y.toArray⟩ : Str).cps.toList) = decide (x = y) := by rw [Bool.eq_iff_iff]; simp
   exact ⟨fun h => P.eq_str (by rw [e]; exact h), fun h => P.ne_str (by rw [bne, e]; exact h)⟩
  | _ => exact ab hw
 | bool x => cases b with
  | bool y =>
   obtain rfl := Option.some.inj hw
   subst ha; subst hb
   exact ⟨fun h => PyProof.Rows.eq_bool h, fun h => PyProof.Rows.ne_bool h⟩
  | _ => exact ab hw
 | lst => exact qk hu k ha hb hw
 | cell => exact qk hu k ha hb hw
 | _ => exact ab hw
theorem kS {a b : V} {ra rb : Value} {c : Bool} (ha : VR cx.sp F μ a ra) (hb : VR cx.sp F μ b rb) (hw : ltV a b = some c) :
  jR cx A s Q E .Lt .GtE ra rb c ∧ jR cx A s Q E .Gt .LtE rb ra c := by
 cases a with
 | int i => cases b with
  | int j =>
   obtain rfl := Option.some.inj hw
   obtain ⟨t, rfl⟩ := ha; obtain ⟨u, rfl⟩ := hb
   have e : decide (i ≥ j) = !decide (i < j) := by rw [← decide_not]; exact decide_eq_decide.mpr (o7)
   have e' : decide (j ≤ i) = !decide (i < j) := by rw [← decide_not]; exact decide_eq_decide.mpr (o6)
   exact ⟨⟨fun h => P.lt_int h, fun h => P.ge_int (by rw [e]; exact h)⟩, fun h => P.gt_int h, fun h => P.le_int (by rw [e']; exact h)⟩
  | _ => cases hw
 | str x => cases b with
  | str y =>
   obtain rfl := Option.some.inj hw
   obtain ⟨_, t, rfl⟩ := ha; obtain ⟨_, u, rfl⟩ := hb
   exact ⟨⟨fun h => P.lt_str h, fun h => compareOp_gives (op := .GtE) (typeIs_str s _ t) (typeIs_str s _ u) PyProof.Rows.slot_str_ge PyProof.Rows.entry_str_ge (PyProof.Rows.args_str_ge _ _) (gives_str_ge _ _ t u) (fun x => nomatch x) h⟩,
    fun h => P.gt_str h, fun h => P.le_str h⟩
  | _ => exact ab hw
 | _ => exact ab hw
theorem fW (hu : A.units < cLine) (k : Ok cx Γ sc env h₀ F μ st s.heap) {op : CmpOp} {a b : V} {ra rb : Value} {c : Bool} (ha : VR cx.sp F μ a ra) (hb : VR cx.sp F μ b rb) (hw : aR st.cells op a b = some c) (h : Q (.bool c) s) :
  wpAny (model cx.prog cx.w) A (compareOp op ra rb) Q E s := by
 cases op with
 | Eq => exact (uE hu k ha hb hw).1 h
 | NotEq => obtain ⟨d, g, rfl⟩ := Option.map_eq_some_iff.1 hw; exact (uE hu k ha hb g).2 h
 | Lt => exact (kS ha hb hw).1.1 h
 | LtE => obtain ⟨d, g, rfl⟩ := Option.map_eq_some_iff.1 hw; exact (kS hb ha g).2.2 h
 | Gt => exact (kS hb ha hw).2.1 h
 | GtE => obtain ⟨d, g, rfl⟩ := Option.map_eq_some_iff.1 hw; exact (kS ha hb g).1.2 h
 | Is => exact (uD ha hb hw).1 h
 | IsNot => obtain ⟨d, g, rfl⟩ := Option.map_eq_some_iff.1 hw; exact (uD ha hb g).2 h
 | In => exact (uB k ha hb hw).1 h
 | NotIn => obtain ⟨d, g, rfl⟩ := Option.map_eq_some_iff.1 hw; exact (uB k ha hb g).2 h
end
end Mine
namespace Mine
open PySem PySem.W PySem.Calls PyProof.Rows
section
variable {cx : Cx} {A : Around} {Γ : List Str} {sc : List (Str × NameKind)} {env : Env} {h₀ : Heap}
abbrev uF (cx : Cx) (Γ : List Str) (sc : List (Str × NameKind)) (env : Env) (h₀ : Heap) (F : PH) (μ : List Addr) (s : Shared) (K : V → St → Prop) (Q : Value → Shared → Prop) : Prop :=
 ∀ v st' F' μ' s' r, K v st' → Ok cx Γ sc env h₀ F' μ' st' s'.heap → Tr cx.P F μ s F' μ' s' → VR cx.sp F' μ' v r → Q r s'
abbrev uG (cx : Cx) (Γ : List Str) (sc : List (Str × NameKind)) (env : Env) (h₀ : Heap) (F : PH) (μ : List Addr) (s : Shared) (K : Bool → St → Prop) (Q : Bool → Shared → Prop) : Prop :=
 ∀ v st' F' μ' s', K v st' → Ok cx Γ sc env h₀ F' μ' st' s'.heap → Tr cx.P F μ s F' μ' s' → Q v s'
noncomputable def SE (cx : Cx) (A : Around) (Γ : List Str) (sc : List (Str × NameKind)) (env : Env) (h₀ : Heap) (t : Sem Value) (x : X) : Prop :=
 ∀ (F : PH) (μ : List Addr) (st : St) (s : Shared) (K : V → St → Prop) (Q : Value → Shared → Prop) (E : Value → Shared → Prop),
  Ok cx Γ sc env h₀ F μ st s.heap → WE cx.fns x K st → uF cx Γ sc env h₀ F μ s K Q → wpAny (model cx.prog cx.w) A t Q E s
noncomputable def SB (cx : Cx) (A : Around) (Γ : List Str) (sc : List (Str × NameKind)) (env : Env) (h₀ : Heap) (t : Sem Bool) (x : X) : Prop :=
 ∀ (F : PH) (μ : List Addr) (st : St) (s : Shared) (K : Bool → St → Prop) (Q : Bool → Shared → Prop) (E : Value → Shared → Prop),
  Ok cx Γ sc env h₀ F μ st s.heap → WT cx.fns x K st → uG cx Γ sc env h₀ F μ s K Q → wpAny (model cx.prog cx.w) A t Q E s
theorem yB {l r : Expr} {op : Operator} {pos : Pos} {a b : X} (ha : SE cx A Γ sc env h₀ (eval l env) a) (hb : SE cx A Γ sc env h₀ (eval r env) b) :
  SE cx A Γ sc env h₀ (eval (.BinOp l op r pos) env) (.bin op a b) := by
 intro F μ st s K Q E k hw q
 refine wpAny_BinOp (ha F μ st s _ _ E k hw fun a st1 F1 μ1 s1 ra hw1 k1 t1 va => ?_)
 refine hb F1 μ1 st1 s1 _ _ E k1 hw1 fun b st2 F2 μ2 s2 rb hw2 k2 t2 vb => ?_
 exact yA k2 (va.mono t2.le t2.mu) vb hw2 fun v F3 s3 r hv k3 t3 vr => q v st2 F3 μ2 s3 r hv k3 ((t1.trans t2).trans t3) vr
theorem ql (he : EnvOk Γ sc env) {x : Str} {pos : Pos} {i : Nat} (hx : sc.lookup x = some .local ∨ sc.lookup x = some .cell ∨ sc.lookup x = some .free) (hi : ah Γ x = some i) (hd : (x == ("__debug__" : Str)) = false) :
  SE cx A Γ sc env h₀ (eval (.Name x pos) env) (.loc i) := by
 intro F μ st s K Q E k hw q
 refine ex2 (fS hw) fun v hv hw => ?_
 refine wpAny_Name ?_ hd
 rcases hx with hx | hx
 ·obtain ⟨m, hm, hmv⟩ := k.ns
  obtain ⟨r, e, vr⟩ := hmv x i v hx hi hv
  exact wpAny_loadName_local he.kind (he.loc x hx) hm e (q v st F μ s r hw k Tr.refl vr)
 ·obtain ⟨c, ov, e1, e2, e3⟩ := k.cl x i hx hi
  obtain ⟨r, e, vr⟩ := e3 v hv
  subst e
  exact wpAny_loadName_cell he.kind (he.cel x hx (by rw [hi]; rfl)) e1 e2 (q v st F μ s r hw k Tr.refl vr)
theorem qn {a b : Expr} {pos : Pos} {w : Sem Value} {x y : X} (ha : SB cx A Γ sc env h₀ (isTrue a env (eval a env)) x) (hb : SB cx A Γ sc env h₀ (allTrue .And [b] env) y) :
  SB cx A Γ sc env h₀ (allTrue .And [a, b] env) (.and x y) := by
 intro F μ st s K Q E k hw q
 rw [arm_allTrue_cons]
 refine wpAny_bind (ha F μ st s _ _ E k hw fun c st1 F1 μ1 s1 hw1 k1 t1 => ?_)
 cases c with
 | false =>
  simp only [Bool.false_eq_true, if_false] at hw1
  exact wpAny_pure (q _ _ _ _ _ hw1 k1 t1)
 | true =>
  simp only [if_true] at hw1
  exact hb F1 μ1 st1 s1 _ _ E k1 hw1 fun c st2 F2 μ2 s2 hw2 k2 t2 => q _ _ _ _ _ hw2 k2 (t1.trans t2)
theorem compW_loop {cx : Cx} {turn : V → (Option V → List (List V) → Prop) → List (List V) → Prop} : True := trivial
end
end Mine
namespace Mine
open PySem PySem.W PySem.Calls PyProof.Rows
theorem sz (n : Nat) (i : Int) : max 0 (min (if i < 0 then i + n else i) (n : Int)) = (ce n i : Nat) ∨ (n : Int) < ce n i := by
 unfold ce; split <;> omega
theorem kg (n : Nat) (i : Int) : ce n i ≤ n := by unfold ce; split <;> omega
theorem kh (n : Nat) (i : Int) : max 0 (min (if i < 0 then i + n else i) (n : Int)) = (ce n i : Nat) := by
 have := kg n i
 rcases sz n i with e | e
 ·exact e
 ·exact o29 e this
noncomputable def loN (n : Nat) (lo : Option Int) : Nat := lo.elim 0 (ce n)
noncomputable def hiN (n : Nat) (hi : Option Int) : Nat := hi.elim n (ce n)
theorem lx {α : Type} (x : List α) (a b : Nat) (hb : b ≤ x.length) : (sliceRange a b 1).filterMap (x.toArray[·]?) = (x.take b).drop a := by
 rw [sliceRange_one, pick_run, List.drop_take]
theorem oz (n : Nat) (lo hi : Option Int) : sliceBounds lo hi Option.none n = (((loN n lo : Nat) : Int), ((hiN n hi : Nat) : Int), (1 : Int)) := by
 unfold sliceBounds loN hiN
 cases lo <;> cases hi <;> simp [kh]
theorem ly (n : Nat) (hi : Option Int) : hiN n hi ≤ n := by
 cases hi with
 | none => exact Nat.le_refl _
 | some i => exact kg n i
theorem iT {α : Type} (x : List α) (lo hi : Option Int) : cut x lo hi = (x.take (hiN x.length hi)).drop (loN x.length lo) := rfl
theorem kA (l : List Value) (lo hi : Option Int) : slicePick l.toArray lo hi Option.none = (cut l lo hi).toArray := by
 unfold slicePick
 rw [List.size_toArray, oz]
 simp only
 rw [lx _ _ _ (ly _ _), iT]
theorem oA (n : Nat) (lo hi : Option Int) : Builtin.Str.strSliceIndices lo hi 1 n = sliceRange (loN n lo : Nat) (hiN n hi : Nat) 1 := by
 unfold Builtin.Str.strSliceIndices loN hiN
 cases lo <;> cases hi <;> simp [kh]
theorem eE {α : Type} (x : List α) (lo hi : Option Int) : (cut x lo hi).length ≤ x.length := by
 unfold cut; simp; exact o28
theorem vh (x : List Nat) (lo hi : Option Int) : Txt.slice ⟨x.toArray⟩ lo hi = ⟨(cut x lo hi).toArray⟩ := by
 unfold Txt.slice
 rw [oA, aM]
 have e : (sliceRange (loN x.length lo : Nat) (hiN x.length hi : Nat) 1).filterMap ((⟨x.toArray⟩ : Str).cps[·]?) = cut x lo hi := lx x _ _ (ly _ _)
 split
 ·rename_i h
  simp only [BEq.rfl, Bool.true_and, beq_iff_eq] at h
  rw [sliceRange_one, List.length_map, List.length_range] at h
  have h2 := ly x.length hi
  have : cut x lo hi = x := by
   rw [iT]
   have h3 : hiN x.length hi = x.length := o27 h h2
   rw [h3, List.take_length]
   by_cases h5 : x.length = 0
   ·have : x = [] := List.length_eq_zero_iff.mp h5
    subst this; simp
   ·have h4 : loN x.length lo = 0 := o26 h h3 h5
    rw [h4]; rfl
  rw [this]
 ·rw [e]
theorem VRs.cut {sp : Addr} {F : PH} {μ : List Addr} {l : List V} {rs : List Value} (h : VRs sp F μ l rs) (lo hi : Option Int) : VRs sp F μ (Mine.cut l lo hi) (Mine.cut rs lo hi) := by
 rw [iT, iT, h.length]
 exact (h.take _).drop _
theorem gQ {n j : Nat} {i : Int} (h : cY n i = some j) : seqIndex? i n = some j ∧ j < n ∧ (0 ≤ i → i = j) ∧ (i < 0 → i + n = j) ∧ -(n : Int) ≤ i ∧ i < n := by
 unfold cY at h
 unfold seqIndex?
 split at h
 ·split at h
  ·rename_i h1 h2
   obtain ⟨m, rfl⟩ := Int.eq_ofNat_of_zero_le h1
   simp only [Option.some.injEq] at h
   subst h
   refine ⟨?_, o25 h2 h1, o24 h1, o23 h1, o22 h1, h2⟩
   have h3 : ¬ ((m : Int) < 0) := o21 h1
   have : (decide (0 ≤ (m : Int)) && decide ((m : Int) < n)) = true := by simp; exact o20 h2
   simp only [h3, if_false, this, if_true]
  ·exact ab h
 ·split at h
  ·rename_i h1 h2
   simp only [Option.some.injEq] at h
   refine ⟨?_, o19 h2 h h1, o18 h1, o17 h2 h, h2, o16 h2 h1⟩
   have h3 : i < 0 := o11 h1
   have : (decide (0 ≤ i + (n : Int)) && decide (i + (n : Int) < n)) = true := by simp; exact o15 h2 h1
   simp only [h3, if_true, this, h]
  ·exact ab h
theorem eh : typeLookup (.type "list") "__getitem__" = pure (some (.builtin "list.__getitem__")) := list_getitem_lookup
theorem lz : typeLookup (.type "tuple") "__getitem__" = pure (some (.builtin "tuple.__getitem__")) := slot_tuple_getitem.lookup
theorem iU : typeLookup (.type "str") "__getitem__" = pure (some (.builtin "str.__getitem__")) := PySem.F.slot_str_getitem.lookup
noncomputable def PartR (sp : Addr) (F : PH) (μ : List Addr) : Option V → Value → Prop
 | some v, r => VR sp F μ v r
 | Option.none, r => r = .none
theorem PartR.mono {sp : Addr} {F F' : PH} {μ μ' : List Addr} (hF : PLe F F') (hμ : μ <+: μ') : ∀ {v : Option V} {r : Value}, PartR sp F μ v r → PartR sp F' μ' v r
 | some _, _, h => VR.mono hF hμ h
 | Option.none, _, h => h
section
variable {cx : Cx} {A : Around} {E : Value → Shared → Prop} {Γ : List Str} {sc : List (Str × NameKind)} {env : Env} {h₀ : Heap} {F F' : PH} {μ : List Addr} {st : St} {s : Shared} {K : V → Prop} {Q : Value → Shared → Prop}
theorem sF (k : Ok cx Γ sc env h₀ F μ st s.heap) {v : V} {r : Value} {c : Bool} {Q : Bool → Shared → Prop} (hv : VR cx.sp F μ v r) (hw : bE st.cells v = some c)
  (q : ∀ t, Q c { s with toks := t }) : wpAny (model cx.prog cx.w) A (truthy r) Q E s := by
 unfold bE at hw
 split at hw
 ·cases hw; cases hv; exact wpAny_truthy_bool (q s.toks)
 ·obtain rfl := Option.some.inj hw
  rename_i x
  obtain ⟨h1, t, rfl⟩ := hv
  refine P.truthy_str ?_ ?_
  ·rw [aM]; unfold lim at h1; omega
  ·rw [aM]
   have e : ((x.length : Int) != 0) = !x.isEmpty := by
    cases x with
    | nil => rfl
    | cons a r => simp; exact o14
   rw [e]; exact q _
 ·simp only [Option.map_eq_some_iff] at hw
  obtain ⟨l, h1, rfl⟩ := hw
  obtain ⟨h2, a, vs, rfl, h3, h4⟩ := k.asL hv h1
  refine wpAny_truthy_list h3.list ?_ ?_
  ·have := h4.length; simp; unfold lim at h2; exact o13 this h2
  ·have e : (!vs.toArray.isEmpty) = !l.isEmpty := by
    have := h4.length
    cases l <;> cases vs <;> simp at this ⊢
   rw [e]; exact q _
theorem Ok.asS (k : Ok cx Γ sc env h₀ F μ st s.heap) {v : V} {r : Value} {l : List V} (hv : VR cx.sp F μ v r) (h : iQ st.cells v = some l) :
  l.length ≤ lim ∧ ∃ a vs, r = .ref a ∧ (SeqAt s.heap.get? a "list" vs ∨ SeqAt s.heap.get? a "tuple" vs) ∧ VRs cx.sp F μ l vs := by
 unfold iQ at h
 split at h
 ·obtain rfl := Option.some.inj h
  obtain ⟨h1, a, vs, h2, h3, h4⟩ := hv
  exact ⟨h1, a, vs, h2, .inr (h3.mono fun a o e => k.fz a o e), h4⟩
 ·obtain ⟨h1, a, vs, h2, h3, h4⟩ := k.asL hv h
  exact ⟨h1, a, vs, h2, .inl h3, h4⟩
theorem jT (k : Ok cx Γ sc env h₀ F μ st s.heap) {a : V} {i : Int} {u : Tok} {ra : Value} (ha : VR cx.sp F μ a ra) (hw : jJ st.cells a i K)
  (q : Post cx Γ sc env h₀ F μ st s K Q) : ItemOn (model cx.prog cx.w) A E ra (.int i u) Q s := by
 refine ex2 (bP hw) fun l hl hw => ?_
 refine ex2 (bP hw) fun j hj hw => ?_
 refine ex2 (bP hw) fun v hv hw => ?_
 obtain ⟨h1, a', vs, rfl, h3, h4⟩ := k.asS ha hl
 obtain ⟨e1, e2, e3, e4, e5, e6⟩ := gQ hj
 obtain ⟨r, e7, e8⟩ := h4.get hv
 have e9 := h4.length
 unfold lim at h1
 rcases h3 with h3 | h3
 ·refine ⟨"list", _, eh, h3.list.typeIs, ?_⟩
  by_cases h0 : 0 ≤ i
  ·refine wpAny_getItem_list h3.list h0 (by omega) (x := r) ?_ (q.here k hw e8)
   have := e3 h0; subst this; simpa using e7
  ·refine wpAny_getItem_list_neg h3.list (o11 h0) (by simp; exact o12 e5 e9) (by omega) (x := r) ?_ (q.here k hw e8)
   have := e4 (o11 h0)
   simp only [List.size_toArray, e9, this]
   simpa using e7
 ·have h5 := qj h3
  exact ⟨"tuple", _, lz, h5.typeIs, PyProof.Rows.getItem_tuple h5 (by omega) (by omega) (j := j) (by simpa [e9] using e1) (x := r) (by simpa using e7) (q.here k hw e8)⟩
theorem yC (k : Ok cx Γ sc env h₀ F μ st s.heap) {a b : V} {ra rb : Value} (ha : VR cx.sp F μ a ra) (hb : VR cx.sp F μ b rb) (hw : eX st.cells a b K)
  (q : Post cx Γ sc env h₀ F μ st s K Q) : ItemOn (model cx.prog cx.w) A E ra rb Q s := by
 refine ex2 (bn hw) fun i eq0 hw => ?_; subst eq0
 obtain ⟨u, rfl⟩ := hb
 cases a with
 | str x =>
  obtain ⟨h1, t, rfl⟩ := ha
  refine ex2 (bP hw) fun j hj hw => ?_
  refine ex2 (bP hw) fun c hc hw => ?_
  obtain ⟨e1, e2, _, _, e5, e6⟩ := gQ hj
  refine ⟨"str", _, iU, typeIs_str _ _ _, PyProof.Rows.getItem_str (c := c) ?_ ?_ (q.tok k hw ⟨by simp [lim], s.toks, rfl⟩)⟩
  ·unfold lim at h1
   rw [decide_eq_false (by omega), decide_eq_false (by omega)]; rfl
  ·rw [aM, e1]; simpa using hc
 | lst l => exact jT k ha hw q
 | tup l => exact jT k ha hw q
 | cell l => exact jT k ha hw q
 | _ => exact hw.elim
theorem IsPart.of {v : Option V} {r : Value} {a : Option Int} (hv : PartR cx.sp F μ v r) (h : dy v = some a) : IsPart r a ∧ ∃ o : Option (Int × Tok), r = partValue o ∧ o.map (·.1) = a := by
 unfold dy at h
 split at h
 ·obtain rfl := Option.some.inj h; obtain rfl : r = .none := hv; exact ⟨.none, Option.none, rfl, rfl⟩
 ·obtain rfl := Option.some.inj h; obtain ⟨t, rfl⟩ := hv; exact ⟨.int _ _, some (_, t), rfl, rfl⟩
 ·exact ab h
theorem nk (k : Ok cx Γ sc env h₀ F μ st s.heap) {o : V} {ro : Value} {a b : Option Int} {pa pb : Option (Int × Tok)} {sl : Addr} (ho : VR cx.sp F μ o ro) (ea : IsPart (partValue pa) a)
  (eb : IsPart (partValue pb) b) (hs : s.heap.IsSliceOf sl (partValue pa) (partValue pb) .none) (hw : sr st.cells o a b K)
  (q : Post cx Γ sc env h₀ F μ st s K Q) : ItemOn (model cx.prog cx.w) A E ro (.ref sl) Q s := by
 refine ex2 (bP hw) fun l el hw => ?_
 obtain ⟨h1, a', vs, rfl, h3, h4⟩ := k.asL ho el
 refine ⟨"list", _, eh, h3.list.typeIs, wpAny_getItem_list_slice h3.list hs ea eb .none (by simp) ?_ ?_⟩
 ·rw [kA]
  exact q.list k (Nat.le_trans (eE _ _ _) h1) hw.2.2 (h4.cut a b)
 ·have := h4.length; simp only [List.size_toArray]; rw [this]; exact bo h1
theorem yD (k : Ok cx Γ sc env h₀ F μ st s.heap) {o : V} {ro rl rh : Value} {lo hi : Option V} {sl : Addr} (ho : VR cx.sp F μ o ro) (hl : PartR cx.sp F μ lo rl)
  (hh : PartR cx.sp F μ hi rh) (hs : s.heap.IsSliceOf sl rl rh .none) (hw : gP st.cells o lo hi K)
  (q : Post cx Γ sc env h₀ F μ st s K Q) : ItemOn (model cx.prog cx.w) A E ro (.ref sl) Q s := by
 refine ex2 (bP hw) fun a ea hw => ?_
 refine ex2 (bP hw) fun b eb hw => ?_
 obtain ⟨p1, pa, rfl, e1⟩ := IsPart.of hl ea
 obtain ⟨p2, pb, rfl, e2⟩ := IsPart.of hh eb
 cases o with
 | str x =>
  obtain ⟨h1, t, rfl⟩ := ho
  refine ⟨"str", _, iU, typeIs_str _ _ _, wpAny_getItem_str_slice (l := pa) (u := pb) (st := Option.none) hs rfl ?_⟩
  have e3 : (if (((1 : Int) == 1) && (slicePicked ⟨x.toArray⟩ pa pb Option.none).length == (⟨x.toArray⟩ : Str).length) = true then (⟨x.toArray⟩ : Str) else ⟨((slicePicked ⟨x.toArray⟩ pa pb Option.none).filterMap ((⟨x.toArray⟩ : Str).cps[·]?)).toArray⟩) = ⟨(cut x a b).toArray⟩ := by
   rw [← vh, ← e1, ← e2]; rfl
  refine post_val_or_str ?_
  refine ⟨?_, fun t' tk => ?_⟩
  ·refine Nat.le_trans (Nat.le_of_eq (congrArg Str.length e3)) ?_
   rw [aM]; exact bo (Nat.le_trans (eE _ _ _) h1)
  ·refine q.tok k hw.2.2 ⟨Nat.le_trans (eE _ _ _) h1, t', ?_⟩
   exact congrArg (fun z => Value.str z t') e3
 | lst l => exact nk k ho p1 p2 hs hw q
 | cell l => exact nk k ho p1 p2 hs hw q
 | _ => exact hw.elim
end
end Mine
namespace Mine
open PySem PySem.W PySem.Calls PyProof.Rows
theorem gR (l : List Value) (a : Nat) (ha : a < l.length) : ∀ m : Nat, m ≤ a + 1 → ((List.range m).map fun (k : Nat) => a - k).filterMap (l.toArray[·]?) = ((l.take (a + 1)).drop (a + 1 - m)).reverse
 | 0, _ => by simp
 | m + 1, h => by
  rw [List.range_succ, List.map_append, List.filterMap_append, gR l a ha m (o54 h)]
  have h1 : a + 1 - (m + 1) < (l.take (a + 1)).length := by simp; exact o53 h ha
  rw [List.drop_eq_getElem_cons h1, List.reverse_cons]
  have h2 : a + 1 - (m + 1) + 1 = a + 1 - m := o52 h
  rw [h2]
  congr 1
  have h3 : a - m < l.length := o51 h ha
  have h4 : l.toArray[a - m]? = some l[a - m] := by simp [h3]
  simp [h3]
theorem kB (l : List Value) : slicePick l.toArray Option.none Option.none (some (-1)) = l.reverse.toArray := by
 unfold slicePick
 have e : sliceBounds Option.none Option.none (some (-1)) l.toArray.size = ((l.length : Int) - 1, -1, -1) := by simp [sliceBounds]
 rw [e]
 congr 1
 simp only
 cases l with
 | nil => rfl
 | cons a r =>
  have := gR (a :: r) r.length (by simp) (r.length + 1) (o50)
  rw [show r.length + 1 - (r.length + 1) = 0 from o49, List.drop_zero, List.take_of_length_le (by simp)] at this
  rw [← this]
  congr 1
  unfold sliceRange
  have h1 : ¬ ((-1 : Int) > 0) := o46
  have h2 : ((a :: r).length : Int) - 1 > -1 := by simp; exact o48
  simp only [h1, if_false, h2, if_true]
  have h3 : (((a :: r).length : Int) - 1 - -1 - -1 - 1) / - -1 = ((r.length + 1 : Nat) : Int) := by
   rw [show - -1 = (1 : Int) from rfl, Int.ediv_one]; simp
  rw [h3, Int.toNat_natCast]
  apply List.map_congr_left
  intro k hk
  simp at hk ⊢
  exact o47 hk
theorem kC (l : List Value) : slicePick l.toArray (some (-2)) (some 0) (some (-1)) = ((l.take (l.length - 1)).drop 1).reverse.toArray := by
 unfold slicePick
 congr 1
 have h1 : ¬ ((-1 : Int) > 0) := o46
 by_cases h : 2 ≤ l.length
 ·have e : sliceBounds (some (-2)) (some 0) (some (-1)) l.toArray.size = ((l.length : Int) - 2, 0, -1) := by
   simp [sliceBounds]; exact o45 h
  rw [e]
  have := gR l (l.length - 2) (o44 h) (l.length - 2) (o43)
  rw [show l.length - 2 + 1 = l.length - 1 from o42 h, show l.length - 1 - (l.length - 2) = 1 from by exact o41 h] at this
  rw [← this]
  congr 1
  unfold sliceRange
  simp only [h1, if_false]
  by_cases h2 : (l.length : Int) - 2 > 0
  ·simp only [h2, if_true]
   have h3 : ((l.length : Int) - 2 - 0 - -1 - 1) / - -1 = ((l.length - 2 : Nat) : Int) := by
    rw [show - -1 = (1 : Int) from rfl, Int.ediv_one]; exact o40 h2
   rw [h3, Int.toNat_natCast]
   apply List.map_congr_left
   intro k hk
   simp at hk ⊢
   exact o39
  ·simp only [h2, if_false]
   have : l.length - 2 = 0 := o38 h h2
   rw [this]; rfl
 ·have hr : ((l.take (l.length - 1)).drop 1).reverse = [] := by
   rw [List.reverse_eq_nil_iff]
   exact List.drop_eq_nil_of_le (by simp; exact o37 h)
  rw [hr]
  have e : sliceRange (sliceBounds (some (-2)) (some 0) (some (-1)) l.toArray.size).1 (sliceBounds (some (-2)) (some 0) (some (-1)) l.toArray.size).2.1 (sliceBounds (some (-2)) (some 0) (some (-1)) l.toArray.size).2.2 = [] := by
   match l, h with
   | [], _ => rfl
   | [a], _ => rfl
   | _ :: _ :: _, h => simp at h
  rw [e]; rfl
theorem iV (l : Addr) (items : Array Value) (n : Nat) (dd : Option Addr) (sl : Array (Option Value)) (b : Addr) (items2 : Array Value) (n2 : Nat) (dd2 : Option Addr) (sl2 : Array (Option Value)) (hc0 : ¬(!items.isEmpty && Builtin.List.listTooLong (items.size + items2.size)) = true) (hc1 : items.size ≤ sizeLine) (hs2 : items.size + items2.size ≤ sizeLine + 1) :
  Meets (Builtin.«list.extend» ⟨[.ref l, .ref b], []⟩) (fun _ R s => s.heap.get? l = some { cls := .type "list", dict := dd, data := .seq items n, slots := sl } ∧ s.heap.get? b = some { cls := .type "list", dict := dd2, data := .seq items2 n2, slots := sl2 } ∧ R (.ok (.ret Value.none)) { s with heap := s.heap.update l (Obj.mapSeq fun x => x ++ items2), toks := s.toks }) :=
 .of_wp fun prog w A R s h => by
  obtain ⟨hp, g, d, tk, os⟩ := s; obtain ⟨hl, hb, h⟩ := h; have f1 := AutoSeq1.idx_int; have f2 := AutoSeq1.sub_tuple_tuple; have f3 := AutoSeq1.sub_list_list; have f4 := AutoSeq1.sub_tuple_list; have f5 := AutoSeq1.sub_list_tuple;
  have hz' : (items ++ items2).size ≤ sizeLine + 1 := by rw [Array.size_append]; exact hs2
  wp_walk using (wpAny_updateSeq hl rfl (hz := hc1) (_hz' := hz')), AutoSeq1.wpAny_loadPart' hl, AutoSeq1.wpAny_loadPart' hb; exact ⟨_, rfl, h⟩
theorem kD {prog : Program} {w : World} {A : Around} {E : Value → Shared → Prop} {s : Shared} {l : Addr} {items : Array Value} {k : Int} {t : Tok} {v : Value} {Q : Unit → Shared → Prop} (hl : s.heap.PlainList l items)
  (h0 : 0 ≤ k) (hfit : k < 2 ^ 63) (hn : k < items.size)
  (hQ : ∀ h', h'.PlainList l (items.setIfInBounds k.toNat v) → Heap.SameBut l s.heap h' → Q () { s with heap := h' }) :
  wpAny (model prog w) A (setItem (.ref l) (.int k t) v) Q E s := by
 obtain ⟨n, ho⟩ := hl
 have hT : s.TypeIs (.ref l) "list" := ⟨_, ho, rfl⟩
 unfold setItem
 try with_reducible refine wpAny_holding ?_
 first | refine wpAny_bind (wpAny_pure ?_) | skip
 refine wpAny_bind (wpAny_sequenceKey hT (by decide) ?_)
 refine wpAny_bind (wpAny_callSpecial?_slot (name := Str.ofString "__setitem__") hT slot_list_setitem
  (wpAny_call_entry slot_list_setitem hT entry_list_setitem ?_ (args_list_setitem _ _ _)))
 show wpAny _ _ (Builtin.List.listSubscript? (.int k t) >>= _) _ _ s
 refine wpAny_bind (wpAny_listSubscript_int (fitsIndex_of h0 hfit) ?_)
 clear hfit
 obtain ⟨j, rfl⟩ := Int.eq_ofNat_of_zero_le h0
 have hj : j < items.size := o20 hn
 have hx' : items[j]? = some items[j] := Array.getElem?_eq_getElem hj
 show wpAny _ _ ((seqItemAt l j >>= fun r => pure (r.map (j, ·))) >>= _) _ _ s
 refine wpAny_bind (wpAny_bind (wpAny_seqItemAt ho rfl (wpAny_pure ?_)))
 rw [hx']
 show wpAny _ _ (setSeqItemAt l j v >>= _) _ _ s
 have hfin : (s.heap.update l (Obj.mapSeq (·.setIfInBounds j v))).PlainList l (items.setIfInBounds j v) := ⟨_, IsL.update (n := n) ho _⟩
 refine wpAny_bind (wpAny_setSeqItemAt ho rfl ?_)
 first
  | exact wpAny_bind (wpAny_pure (wpAny_pure ⟨.none, rfl, wpAny_pure (hQ _ hfin (Heap.SameBut.update ..))⟩))
  | exact wpAny_pure ⟨.none, rfl, wpAny_pure (hQ _ hfin (Heap.SameBut.update ..))⟩
theorem Tr.cell {P : Addr} {F : PH} {μ : List Addr} {s : Shared} {h' : Heap} {d : Addr} {t : Nat} (hd : d ∈ μ) (ha : h'.get? d ≠ Option.none) (hs : Heap.SameBut d s.heap h') : Tr P F μ s F μ { s with heap := h', toks := t } :=
 ⟨fun _ _ h => h, List.prefix_refl _, fun a o h1 h2 _ => (hs.2 a fun q => h2 (q ▸ hd)).trans h1, fun a h => by
  by_cases q : a = d
  ·subst q; exact ha
  ·rw [show ({ s with heap := h', toks := t } : Shared).heap.get? a = s.heap.get? a from hs.2 a q]; exact h, fun _ h => .inl h, fun _ h => .inl h, rfl, fun h => h⟩
theorem IsList.alive {h : Heap} {a : Addr} {vs : Array Value} (x : h.IsList a vs) : h.get? a ≠ Option.none := by
 obtain ⟨o, h1, _⟩ := x; rw [h1]; simp
section
variable {cx : Cx} {A : Around} {E : Value → Shared → Prop} {Γ : List Str} {sc : List (Str × NameKind)} {env : Env} {h₀ : Heap} {F F' : PH} {μ : List Addr} {st : St} {s : Shared} {K : V → Prop} {Q : Value → Shared → Prop}
theorem Ok.turn (k : Ok cx Γ sc env h₀ F μ st s.heap) {i : Nat} {d : Addr} {l : List V} {vs : Array Value} {h' : Heap} (hd : μ[i]? = some d) (hl : l.length ≤ lim) (hv : VRs cx.sp F μ l vs.toList)
  (hn : h'.PlainList d vs) (hs : Heap.SameBut d s.heap h') : Ok cx Γ sc env h₀ F μ ⟨st.loc, st.cells.set i l⟩ h' ∧ ∀ t, Tr cx.P F μ s F μ { s with heap := h', toks := t } :=
 ⟨k.setM hd hl hv (OwnAt.of hn) hs, fun t => Tr.cell (List.mem_of_getElem? hd) (IsList.alive hn.isList) hs⟩
theorem yE (k : Ok cx Γ sc env h₀ F μ st s.heap) {o : V} {ro : Value} {sl : Addr} {t : Tok} {l : List V} (ho : VR cx.sp F μ o ro) (hs : s.heap.IsSliceOf sl .none .none (.int (-1) t)) (hw : aE st.cells o = some l) (hK : K (.lst l.reverse))
  (q : Post cx Γ sc env h₀ F μ st s K Q) : ItemOn (model cx.prog cx.w) A E ro (.ref sl) Q s := by
 obtain ⟨h1, a', vs, rfl, h3, h4⟩ := k.asL ho hw
 refine ⟨"list", _, eh, h3.list.typeIs, wpAny_getItem_list_slice h3.list hs .none .none (.int _ _) (by simp) ?_ ?_⟩
 ·rw [kB]
  exact q.list k (by simpa using h1) hK h4.reverse
 ·have := h4.length; simp only [List.size_toArray]; rw [this]; exact bo h1
theorem yF (k : Ok cx Γ sc env h₀ F μ st s.heap) {o : V} {ro : Value} {sl : Addr} {t u v : Tok} {l : List V} (ho : VR cx.sp F μ o ro) (hs : s.heap.IsSliceOf sl (.int (-2) u) (.int 0 v) (.int (-1) t)) (hw : aE st.cells o = some l)
  (hK : K (.lst ((l.take (l.length - 1)).drop 1).reverse)) (q : Post cx Γ sc env h₀ F μ st s K Q) : ItemOn (model cx.prog cx.w) A E ro (.ref sl) Q s := by
 obtain ⟨h1, a', vs, rfl, h3, h4⟩ := k.asL ho hw
 refine ⟨"list", _, eh, h3.list.typeIs, wpAny_getItem_list_slice h3.list hs (.int _ _) (.int _ _) (.int _ _) (by simp) ?_ ?_⟩
 ·rw [kC, h4.length]
  refine q.list k ?_ hK ((h4.take _).drop _).reverse
  simp; exact o36 h1
 ·have := h4.length; simp only [List.size_toArray]; rw [this]; exact bo h1
abbrev kT (cx : Cx) (Γ : List Str) (sc : List (Str × NameKind)) (env : Env) (h₀ : Heap) (F : PH) (μ : List Addr) (s : Shared) (K : St → Prop) (Q : Shared → Prop) : Prop :=
 ∀ st' F' μ' s', K st' → Ok cx Γ sc env h₀ F' μ' st' s'.heap → Tr cx.P F μ s F' μ' s' → Q s'
theorem yG (k : Ok cx Γ sc env h₀ F μ st s.heap) {i : Nat} {j : Int} {v : V} {l : List V} {rc rj rv : Value} {Q : Unit → Shared → Prop} {K : St → Prop} (hc : VR cx.sp F μ (.cell i) rc) (hj : VR cx.sp F μ (.int j) rj) (hv : VR cx.sp F μ v rv)
  (hl : st.cells[i]? = some l) (h0 : 0 ≤ j) (h1 : j < l.length) (hK : K ⟨st.loc, st.cells.set i (l.set j.toNat v)⟩) (q : kT cx Γ sc env h₀ F μ s K (Q ())) :
  wpAny (model cx.prog cx.w) A (setItem rc rj rv) Q E s := by
 obtain ⟨a, ha, rfl⟩ := hc
 obtain ⟨t, rfl⟩ := hj
 obtain ⟨h2, vs, h3, h4⟩ := k.ct i a l ha hl
 have h5 := h4.length
 unfold lim at h2
 refine kD h3.plain h0 (by omega) (by simp; exact o34 h5 h1) fun h' h6 h7 => ?_
 have h8 : vs.toArray.setIfInBounds j.toNat rv = (vs.set j.toNat rv).toArray := by simp
 rw [h8] at h6
 obtain ⟨k', tr⟩ := k.turn (l := l.set j.toNat v) ha (by simp; unfold lim; exact o35 h2) (h4.set hv j.toNat) h6 h7
 exact q _ _ _ _ hK k' (tr s.toks)
theorem yH (k : Ok cx Γ sc env h₀ F μ st s.heap) {i : Nat} {j : Int} {l : List V} {rc rj : Value} {Q : Unit → Shared → Prop} {K : St → Prop} (hc : VR cx.sp F μ (.cell i) rc) (hj : VR cx.sp F μ (.int j) rj)
  (hl : st.cells[i]? = some l) (h0 : 0 ≤ j) (h1 : j < l.length) (hK : K ⟨st.loc, st.cells.set i (l.eraseIdx j.toNat)⟩) (q : kT cx Γ sc env h₀ F μ s K (Q ())) :
  wpAny (model cx.prog cx.w) A (delItem rc rj) Q E s := by
 obtain ⟨a, ha, rfl⟩ := hc
 obtain ⟨t, rfl⟩ := hj
 obtain ⟨h2, vs, h3, h4⟩ := k.ct i a l ha hl
 have h5 := h4.length
 have hi : seqIndex? j vs.toArray.size = some j.toNat := by
  have : cY vs.length j = some j.toNat := by
   unfold cY; rw [if_pos h0, if_pos (o34 h5 h1)]
  simpa using (gQ this).1
 refine wpAny_delItem_plain h3.plain (fitsIndex_of h0 (by unfold lim at h2; omega)) hi (fun h' h6 h7 => ?_) (by simp only [List.size_toArray]; rw [h5]; exact bo h2)
 have h8 : vs.toArray.eraseIdxIfInBounds j.toNat = (vs.eraseIdx j.toNat).toArray := by simp
 rw [h8] at h6
 obtain ⟨k', tr⟩ := k.turn (l := l.eraseIdx j.toNat) ha (by have := List.length_eraseIdx_le l j.toNat; exact o33 h5 h2 this) (h4.eraseIdx j.toNat) h6 h7
 exact q _ _ _ _ hK k' (tr s.toks)
theorem qo (k : Ok cx Γ sc env h₀ F μ st s.heap) {i : Nat} {v : V} {l : List V} {a : Addr} {rv : Value} {K : St → Prop} (ha : μ[i]? = some a) (hv : VR cx.sp F μ v rv)
  (hl : st.cells[i]? = some l) (h1 : l.length < lim) (hK : K ⟨st.loc, st.cells.set i (l ++ [v])⟩) (q : kT cx Γ sc env h₀ F μ s K (Q .none)) :
  wpAny (model cx.prog cx.w) A (call (.builtin "list.append") [.ref a, rv]) Q E s := by
 obtain ⟨h2, vs, h3, h4⟩ := k.ct i a l ha hl
 have h5 := h4.length
 refine wpAny_list_append_plain h3.plain (fun h' h6 h7 => ?_) (by simp only [List.size_toArray]; rw [h5]; exact bo h2)
 have h8 : vs.toArray.push rv = (vs ++ [rv]).toArray := by simp
 rw [h8] at h6
 obtain ⟨k', tr⟩ := k.turn (l := l ++ [v]) ha (by simp; exact o32 h1 h5) (h4.append (show VRs cx.sp F μ [v] [rv] from ⟨hv, trivial⟩)) h6 h7
 exact q _ _ _ _ hK k' (tr s.toks)
theorem qp (k : Ok cx Γ sc env h₀ F μ st s.heap) {i : Nat} {l m : List V} {a : Addr} {rv : Value} {K : St → Prop} (ha : μ[i]? = some a) (hv : VR cx.sp F μ (.lst m) rv)
  (hl : st.cells[i]? = some l) (h1 : l.length + m.length ≤ lim) (hK : K ⟨st.loc, st.cells.set i (l ++ m)⟩) (q : kT cx Γ sc env h₀ F μ s K (Q .none)) :
  wpAny (model cx.prog cx.w) A (call (.builtin "list.extend") [.ref a, rv]) Q E s := by
 obtain ⟨h2, vs, h3, h4⟩ := k.ct i a l ha hl
 obtain ⟨h2', b, ws, rfl, h3', h4'⟩ := k.asL (v := .lst m) hv rfl
 have h5 := h4.length
 have h5' := h4'.length
 obtain ⟨n, ho⟩ := h3.plain
 obtain ⟨⟨cls, dd', data, sl'⟩, n', ho', hc, hd⟩ := h3'
 simp only at hc hd
 subst hc hd
 have hz := bo h1
 refine call_meets PySem.F.slot_list_extend ⟨_, ho, rfl⟩ PySem.F.entry_list_extend (PySem.F.args_list_extend_2 _ _)
  (iV a vs.toArray n Option.none #[] b ws.toArray n' dd' sl' ?_ ?_ ?_) ⟨ho, ho', ?_⟩
 ·simp only [List.size_toArray, h5, h5']
  unfold Builtin.List.listTooLong
  simp; omega
 ·simp only [List.size_toArray, h5]; exact o31 hz h5 h5'
 ·simp only [List.size_toArray, h5, h5']; exact o30 hz h5 h5'
 have h6 : (s.heap.update a (Obj.mapSeq fun xs => xs ++ ws.toArray)).PlainList a (vs.toArray ++ ws.toArray) := ⟨_, IsL.update (n := n) ho _⟩
 have h8 : vs.toArray ++ ws.toArray = (vs ++ ws).toArray := by simp
 rw [h8] at h6
 obtain ⟨k', tr⟩ := k.turn (l := l ++ m) ha (by simpa using h1) (h4.append h4') h6 (Heap.SameBut.update ..)
 exact q _ _ _ _ hK k' (tr s.toks)
end
end Mine
namespace Mine
open PySem PySem.W PySem.Calls PyProof.Rows
noncomputable def hexL : List Nat := [48, 49, 50, 51, 52, 53, 54, 55, 56, 57, 65, 66, 67, 68, 69, 70]
noncomputable def yI : List (Nat × Nat) := hexL.flatMap fun c => hexL.map fun d => (c, d)
theorem yJ {c a : Nat} (h : cF c = some a) : c < 71 := by
 unfold cF at h
 split at h
 ·rename_i q; exact Nat.lt_of_le_of_lt q.2 (by decide)
 ·split at h
  ·rename_i q; exact Nat.lt_of_le_of_lt q.2 (by decide)
  ·cases h
theorem vi : ∀ c, c < 71 → (cF c).isSome = true → c ∈ hexL := by decide
theorem np : ∀ c ∈ hexL, decide (c < 128) = true := by decide
theorem nq {c a : Nat} (h : cF c = some a) : c ∈ hexL := vi c (yJ h) (by rw [h]; rfl)
theorem sG {M : Model} {A : Around} {E : Value → Shared → Prop} {Q : Value → Shared → Prop} {s : Shared} (m : Sem Value) (v : Int) (e : m = mkInt v) (h : wpAny M A (mkInt v) Q E s) : wpAny M A m Q E s := e ▸ h
theorem qq {c d a b : Nat} (t u : Tok) (hc : cF c = some a) (hd : cF d = some b) : Meets (Builtin.«int.__new__» ⟨[.type "int", .str ⟨#[c, d]⟩ t, .int 16 u], []⟩) (Made.int (16 * a + b : Nat)).spec :=
 .of_wp fun prog w A R s h => by
  obtain ⟨hp, g, dd, tk, os⟩ := s
  have f1 := F.conv_sub_int
  have f2 := F.madeHere_int
  wp_walk
  have h' : R (.ok (.ret (.int (16 * a + b : Nat) tk))) { heap := hp, gens := g, drawn := dd, toks := tk + 1, os := os } := h
  have hm1 := nq hc
  have hm2 := nq hd
  have hm : (c, d) ∈ yI := List.mem_flatMap.2 ⟨c, hm1, List.mem_map.2 ⟨d, hm2, rfl⟩⟩
  have hv : 16 * a + b = 16 * (cF c).getD 0 + (cF d).getD 0 := by rw [hc, hd]; rfl
  refine wpAny_ite_split (fun hn => ?_) (fun hn => ?_)
  ·refine wpAny_bind (wpAny_pure ?_)
   refine sG _ ((16 * a + b : Nat) : Int) ?_ (wpAny_mkInt (show wpAny (model prog w) A.in1 (ret _) _ _ _ from wpAny_pure ⟨_, rfl, h'⟩))
   rw [hv]
   clear h' h f1 f2 hn hv hc hd hm1 hm2
   obtain ⟨p, rfl, rfl⟩ : ∃ p : Nat × Nat, p.1 = c ∧ p.2 = d := ⟨(c, d), rfl, rfl⟩
   have hm' : p ∈ yI := hm
   clear hm
   revert p
   refine List.map_inj_left.1 ?_
   kernel_rfl
  ·exfalso
   apply hn
   have e : (({ cps := #[c, d] } : Str).cps.all fun x => decide (x < 128)) = true := by
    rw [← Array.all_toList]
    show (decide (c < 128) && (decide (d < 128) && true)) = true
    rw [np c hm1, np d hm2]; rfl
   rw [if_pos e]
   refine Nat.le_trans (List.IsPrefix.length_le (List.takeWhile_prefix _)) ?_
   exact Nat.le_of_ble_eq_true rfl
theorem jU (a b : Value) : checkTypeCall "int" ⟨[a, b], []⟩ = pure () := by kernel_rfl
theorem kE (a b : Value) : checkBuiltinCall "int.__new__" ⟨[.type "int", a, b], []⟩ = pure () := by kernel_rfl
theorem oB (o a b : Value) : argsOk "object.__init__" ⟨[o, a, b], []⟩ := by unfold argsOk; kernel_rfl
theorem nr : mroOf (.type "object") = pure [.type "object"] := by kernel_rfl
theorem jV : typeLookup (.type "object") "__new__" = pure (some (.builtin "object.__new__")) := by rw [typeLookup_type, builtinLookup_eq_fast]; kernel_rfl
theorem nt : isSubtype (.type "object") (.type "object") = pure true := by rw [isSubtype_type]; kernel_rfl
theorem kG : Slot "object" "__init__" "object.__init__" :=
 .of (owner := "object") (n := "__init__") (by rw [typeLookup_type, builtinLookup_eq_fast]; kernel_rfl) (by decide +kernel) (by decide +kernel) (by decide +kernel)
  (by first | exact .inl (by decide +kernel) | exact .inr (by decide +kernel)) (by rw [isSubtype_type]; kernel_rfl)
theorem oE : TypeCalled "object" "object.__new__" "object.__init__" :=
 ⟨by decide +kernel, by decide +kernel, ⟨_, _, nr⟩, madeBy_type nr jV (by decide +kernel), by decide +kernel, nt, kG⟩
theorem lE : checkTypeCall "object" ⟨[], []⟩ = pure () := by kernel_rfl
theorem mO : checkBuiltinCall "object.__new__" ⟨[.type "object"], []⟩ = pure () := by kernel_rfl
theorem sH (o : Value) : argsOk "object.__init__" ⟨[o], []⟩ := by unfold argsOk; kernel_rfl
theorem kH : entryFor table "object.__new__" = some Builtin.«object.__new__» := entryFor_of_tree (by kernel_rfl)
theorem lF : Bind.madeHere "object.__new__" (.type "object") = pure () := by kernel_rfl
theorem kJ : Meets (Builtin.«object.__new__» ⟨[.type "object"], []⟩) (fun _ R s => R (.ok (.ret (.ref s.heap.objs.size))) { s with heap := s.heap.push { cls := .type "object", data := .plain } }) :=
 .of_wp fun prog w A R s h => by
  obtain ⟨hp, g, dd, tk, os⟩ := s
  have f1 := nt
  have f2 := lF
  wp_walk
  exact ⟨_, rfl, h⟩
theorem jW (o : Value) : Meets (Builtin.«object.__init__» ⟨[o], []⟩) (fun _ R s => R (.ok (.ret .none)) s) :=
 .of_wp fun prog w A R s h => wpAny_pure ⟨_, rfl, h⟩
section
variable {prog : Program} {w : World} {A : Around} {E : Value → Shared → Prop} {s : Shared} {Q : Value → Shared → Prop}
theorem mQ (h : Q (.ref s.heap.objs.size) { s with heap := s.heap.push { cls := .type "object", data := .plain } }) : wpAny (model prog w) A (call (.type "object") []) Q E s :=
 callType_meets (Q₁ := fun o s' => o = .ref s.heap.objs.size ∧ s' = { s with heap := s.heap.push { cls := .type "object", data := .plain } }) oE lE mO kH F.entry_object_init kJ ⟨rfl, rfl⟩
  fun o s' ⟨e1, e2⟩ => by
   subst e1 e2
   exact ⟨⟨_, Heap.get?_push_size _ rfl, rfl⟩, sH _, _, jW _, rfl, h⟩
theorem oG {c d a b : Nat} {t u : Tok} (hc : cF c = some a) (hd : cF d = some b) (h : Q (.int (16 * a + b : Nat) s.toks) { s with toks := s.toks + 1 }) : wpAny (model prog w) A (call (.type "int") [.str ⟨#[c, d]⟩ t, .int 16 u]) Q E s :=
 callType_new F.called_int F.newNe_int (jU _ _) (kE _ _) (fun obj => oB obj _ _) F.entry_int_new (qq t u hc hd) ⟨rfl, h⟩
end
end Mine
namespace Mine
open PySem PySem.W PySem.Calls PyProof.Rows
theorem ip : ∀ (r : List Int) (m : Int), m ≤ aW m r ∧ (∀ x ∈ r, x ≤ aW m r) ∧ (aW m r = m ∨ aW m r ∈ r)
 | [], m => ⟨Int.le_refl _, by simp, .inl rfl⟩
 | x :: r, m => by
  unfold aW
  obtain ⟨h1, h2, h3⟩ := ip r (if m < x then x else m)
  split at h1 <;> rename_i hx <;> simp only [hx, if_true, if_false] at h2 h3 ⊢
  ·refine ⟨o61 hx h1, fun y hy => ?_, ?_⟩
   ·rcases List.mem_cons.mp hy with rfl | hy
    ·exact h1
    ·exact h2 y hy
   ·rcases h3 with h3 | h3
    ·right; rw [h3]; exact List.mem_cons_self ..
    ·right; exact List.mem_cons_of_mem _ h3
  ·refine ⟨h1, fun y hy => ?_, ?_⟩
   ·rcases List.mem_cons.mp hy with rfl | hy
    ·exact o60 h1 hx
    ·exact h2 y hy
   ·rcases h3 with h3 | h3
    ·exact .inl h3
    ·right; exact List.mem_cons_of_mem _ h3
theorem iW : ∀ (r : List Int) (m : Int), bJ m r ≤ m ∧ (∀ x ∈ r, bJ m r ≤ x) ∧ (bJ m r = m ∨ bJ m r ∈ r)
 | [], m => ⟨Int.le_refl _, by simp, .inl rfl⟩
 | x :: r, m => by
  unfold bJ
  obtain ⟨h1, h2, h3⟩ := iW r (if x < m then x else m)
  split at h1 <;> rename_i hx <;> simp only [hx, if_true, if_false] at h2 h3 ⊢
  ·refine ⟨o59 hx h1, fun y hy => ?_, ?_⟩
   ·rcases List.mem_cons.mp hy with rfl | hy
    ·exact h1
    ·exact h2 y hy
   ·rcases h3 with h3 | h3
    ·right; rw [h3]; exact List.mem_cons_self ..
    ·right; exact List.mem_cons_of_mem _ h3
  ·refine ⟨h1, fun y hy => ?_, ?_⟩
   ·rcases List.mem_cons.mp hy with rfl | hy
    ·exact o58 h1 hx
    ·exact h2 y hy
   ·rcases h3 with h3 | h3
    ·exact .inl h3
    ·right; exact List.mem_cons_of_mem _ h3
theorem oH {x M : Int} {r : List Int} (hm : M ∈ x :: r) (hb : ∀ a ∈ x :: r, a ≤ M) : M = aW x r := by
 obtain ⟨h1, h2, h3⟩ := ip r x
 have a1 : M ≤ aW x r := by
  rcases List.mem_cons.mp hm with rfl | h
  ·exact h1
  ·exact h2 _ h
 have a2 : aW x r ≤ M := by
  rcases h3 with h | h
  ·rw [h]; exact hb _ (List.mem_cons_self ..)
  ·exact hb _ (List.mem_cons_of_mem _ h)
 exact o57 a1 a2
theorem oJ {x M : Int} {r : List Int} (hm : M ∈ x :: r) (hb : ∀ a ∈ x :: r, M ≤ a) : M = bJ x r := by
 obtain ⟨h1, h2, h3⟩ := iW r x
 have a1 : bJ x r ≤ M := by
  rcases List.mem_cons.mp hm with rfl | h
  ·exact h1
  ·exact h2 _ h
 have a2 : M ≤ bJ x r := by
  rcases h3 with h | h
  ·rw [h]; exact hb _ (List.mem_cons_self ..)
  ·exact hb _ (List.mem_cons_of_mem _ h)
 exact o57 a2 a1
section
variable {cx : Cx} {A : Around} {E : Value → Shared → Prop} {Γ : List Str} {sc : List (Str × NameKind)} {env : Env} {h₀ : Heap} {F F' : PH} {μ : List Addr} {st : St} {s : Shared} {K : V → Prop} {Q : Value → Shared → Prop}
theorem Ok.kept (k : Ok cx Γ sc env h₀ F μ st s.heap) {h' : Heap} {t : Nat} (hk : ∀ a o, s.heap.get? a = some o → h'.get? a = some o) : Ok cx Γ sc env h₀ F μ st h' ∧ Tr cx.P F μ s F μ { s with heap := h', toks := t } :=
 ⟨k.ext (fun _ _ e => e) hk (fun a o e => hk a o (k.fz a o e)) fun a h => .inl h, Tr.ext (fun _ _ e => e) hk fun a h => .inl h⟩
theorem nu (k : Ok cx Γ sc env h₀ F μ st s.heap) {v : V} {r : Value} (hv : VR cx.sp F μ v r) (hw : su st.cells v K)
  (q : Post cx Γ sc env h₀ F μ st s K Q) : wpAny (model cx.prog cx.w) A (call (.builtin "len") [r]) Q E s := by
 refine ex2 (bP hw) fun l hl hw => ?_
 obtain ⟨h1, a, vs, rfl, h3, h4⟩ := k.asL hv hl
 have h5 := h4.length
 refine PyProof.Rows.len_list h3.list ?_ (q.tok k hw ⟨s.toks + 1, by rw [List.size_toArray, h5]⟩)
 rw [List.size_toArray, h5]; unfold lim at h1; omega
theorem yK (k : Ok cx Γ sc env h₀ F μ st s.heap) {v : V} {r : Value} (hv : VR cx.sp F μ v r) (hw : yo st.cells v K)
  (q : Post cx Γ sc env h₀ F μ st s K Q) : wpAny (model cx.prog cx.w) A (call (.builtin "len") [r]) Q E s := by
 cases v with
 | str x =>
  obtain ⟨h1, t, rfl⟩ := hv
  refine PyProof.Rows.len_str ?_ (q.tok k (show K (.int x.length) from hw) ⟨_, by rw [aM]⟩)
  rw [aM]; unfold lim at h1; omega
 | lst l => exact nu k hv hw q
 | cell i => exact nu k hv hw q
 | _ => exact hw.elim
theorem ki (hh : A.handled = Option.none) (k : Ok cx Γ sc env h₀ F μ st s.heap) {v : V} {r : Value} {x : Int} {l : List Int} (hv : VR cx.sp F μ v r) (hw : (aE st.cells v).bind bX = some (x :: l)) :
  ((K (.int (aW x l)) → Post cx Γ sc env h₀ F μ st s K Q → wpAny (model cx.prog cx.w) A (call (.builtin "max") [r]) Q E s) ∧ (K (.int (bJ x l)) → Post cx Γ sc env h₀ F μ st s K Q → wpAny (model cx.prog cx.w) A (call (.builtin "min") [r]) Q E s)) := by
 simp only [Option.bind_eq_some_iff] at hw
 obtain ⟨m, h1, h2⟩ := hw
 obtain ⟨_, a, vs, rfl, h3, h4⟩ := k.asL hv h1
 have hi := h4.ints h2
 have hl := h3.list
 obtain ⟨xs, e⟩ := hi.allInts.items
 have hns : (x :: l) = xs.toList.map (·.1) := by
  rw [← hi.numsOf, ← nums_intItems, ← e]
 have hsz : 0 < xs.size := by
  have h3 : 0 < (x :: l).length := by simp
  rw [hns, List.length_map, Array.length_toList] at h3; exact h3
 rw [e] at hl
 refine ⟨fun hK q => max_intList hh hl hsz fun v h' tk hv hk => ?_, fun hK q => min_intList hh hl hsz fun v h' tk hv hk => ?_⟩
 ·obtain ⟨t, rfl⟩ := intItems_at hv
  obtain ⟨h1, h2⟩ := argBest_gt (numAt xs) (xs.size - 1)
  obtain ⟨k', tr⟩ := k.kept (t := tk) hk
  refine q (.int _) _ _ _ ?_ k' tr ⟨t, rfl⟩
  have e3 := oH (x := x) (r := l) (M := numAt xs (argBest (fun i j => decide (numAt xs i > numAt xs j)) (xs.size - 1))) ?_ fun a ha => ?_
  ·rw [e3]; exact hK
  ·rw [hns, numAt_eq]; exact getD_mem (by rw [List.length_map, Array.length_toList]; exact o56 hsz h1)
  ·rw [hns] at ha
   obtain ⟨j, hj, rfl⟩ := mem_getD ha
   rw [List.length_map, Array.length_toList] at hj
   rw [← numAt_eq]; exact h2 j (o55 hsz hj)
 ·obtain ⟨t, rfl⟩ := intItems_at hv
  obtain ⟨h1, h2⟩ := argBest_lt (numAt xs) (xs.size - 1)
  obtain ⟨k', tr⟩ := k.kept (t := tk) hk
  refine q (.int _) _ _ _ ?_ k' tr ⟨t, rfl⟩
  have e3 := oJ (x := x) (r := l) (M := numAt xs (argBest (fun i j => decide (numAt xs i < numAt xs j)) (xs.size - 1))) ?_ fun a ha => ?_
  ·rw [e3]; exact hK
  ·rw [hns, numAt_eq]; exact getD_mem (by rw [List.length_map, Array.length_toList]; exact o56 hsz h1)
  ·rw [hns] at ha
   obtain ⟨j, hj, rfl⟩ := mem_getD ha
   rw [List.length_map, Array.length_toList] at hj
   rw [← numAt_eq]; exact h2 j (o55 hsz hj)
end
end Mine
namespace Mine
open PySem PySem.W PySem.Calls PyProof.Rows
open PySem.Builtin PySem.Builtin.Str
theorem kj (s sub : Str) (hi : Nat) : ∀ (l : List Nat) (st : Array Nat × Nat), 1 ≤ st.fst.size → (forIn l st (StrLaws.occBody s sub hi 1)).run.fst = st.fst
 | [], st, h => rfl
 | a :: l, st, h => by
  rw [List.forIn_cons]
  unfold StrLaws.occBody
  rw [if_neg (by intro h2; have := h2.1.1.1; omega)]
  exact kj s sub hi l st h
theorem kl (x : List Nat) (c hi : Nat) (hh : hi ≤ x.length) : ∀ (n a f : Nat), f ≤ a → a + n = hi + 1 → (forIn (List.range' a n) ((#[] : Array Nat), f) (StrLaws.occBody ⟨x.toArray⟩ ⟨#[c]⟩ hi 1)).run.fst.toList = (match ((x.take hi).drop a).findIdx? (· == c) with | some j => [a + j] | Option.none => [])
 | 0, a, f, hf, he => by
  have : (x.take hi).drop a = [] := List.drop_eq_nil_of_le (by simp; exact o76 he hh)
  rw [this]; rfl
 | n + 1, a, f, hf, he => by
  have hs := StrLaws.subAt_one ⟨x.toArray⟩ c a
  have hl1 : (⟨#[c]⟩ : Str).length = 1 := rfl
  rw [hl1, aM] at hs
  rw [List.range'_succ, List.forIn_cons]
  unfold StrLaws.occBody
  by_cases hc : a + 1 ≤ hi ∧ subAt ⟨x.toArray⟩ ⟨#[c]⟩ a = true
  ·rw [if_pos ⟨⟨⟨by simp, hf⟩, hc.1⟩, hc.2⟩]
   have h1 := hs.mp ⟨by omega, hc.2⟩
   have e := kj ⟨x.toArray⟩ ⟨#[c]⟩ hi (List.range' (a + 1) n) ((#[] : Array Nat).push a, a + 1) (by simp)
   have h2 : (x.take hi).drop a = c :: (x.take hi).drop (a + 1) := by
    have h3 : a < (x.take hi).length := by simp; omega
    rw [List.drop_eq_getElem_cons h3]
    congr 1
    have h4 : a < x.length := by omega
    simp [h4] at h1
    simpa using h1
   rw [h2, List.findIdx?_cons]
   simp only [beq_self_eq_true, if_true]
   refine (congrArg Array.toList e).trans ?_
   simp
  ·have h0 : ¬ (((((#[] : Array Nat), f).fst.size < 1 ∧ ((#[] : Array Nat), f).snd ≤ a) ∧ a + (⟨#[c]⟩ : Str).length ≤ hi) ∧ subAt ⟨x.toArray⟩ ⟨#[c]⟩ a = true) := fun h => hc ⟨h.1.2, h.2⟩
   rw [if_neg h0]
   refine (kl x c hi hh n (a + 1) f (o75 hf) (o74 he)).trans ?_
   by_cases h5 : a < hi
   ·have h3 : a < (x.take hi).length := by simp; exact o73 he h5 hh
    rw [List.drop_eq_getElem_cons h3, List.findIdx?_cons]
    have h6 : ((x.take hi)[a] == c) = false := by
     rw [beq_eq_false_iff_ne]
     intro q
     apply hc
     refine ⟨o72 he h5 h3, (hs.mpr ?_).2⟩
     have h4 : a < x.length := o71 he h5 h3 hh
     simp [h4] at q ⊢
     exact q
    rw [h6]
    simp only [Bool.false_eq_true, if_false]
    cases ((x.take hi).drop (a + 1)).findIdx? (· == c) with
    | none => rfl
    | some j => simp; exact o70
   ·have e1 : (x.take hi).drop a = [] := List.drop_eq_nil_of_le (by simp; exact o69 he hh h5)
    have e2 : (x.take hi).drop (a + 1) = [] := List.drop_eq_nil_of_le (by simp; exact o68 he hh h5)
    rw [e1, e2]; rfl
theorem gS (x : List Nat) (c lo hi : Nat) (hh : hi ≤ x.length) : (match occurrences ⟨x.toArray⟩ ⟨#[c]⟩ lo hi 1 with | i :: _ => (i : Int) | [] => -1) = bl c x lo hi := by
 rw [StrLaws.occ_eq]
 unfold bl
 by_cases h : lo ≤ hi + 1
 ·rw [kl x c hi hh (hi + 1 - lo) lo lo (Nat.le_refl _) (o67 h)]
  cases ((x.take hi).drop lo).findIdx? (· == c) <;> rfl
 ·have e1 : (x.take hi).drop lo = [] := List.drop_eq_nil_of_le (by simp; exact o66 hh h)
  have e2 : hi + 1 - lo = 0 := o65 h
  rw [e1, e2]; rfl
theorem ff (n : Nat) {i : Int} (h : 0 ≤ i) : fromIndex n i = i.toNat := by
 unfold fromIndex
 rw [if_neg (o64 h), Int.max_eq_right h]
theorem iX (x y : Str) (i j : Int) (t u v w : Tok) : Gives («str.find» ⟨[.str x t, .str y u, .int i v, .int j w], []⟩) (.int (match occurrences x y (fromIndex x.length i) (min (fromIndex x.length j) x.length) 1 with | k :: _ => (k : Int) | [] => -1)) := by
 show Gives (match occurrences x y (fromIndex x.length i) (min (fromIndex x.length j) x.length) 1 with | k :: _ => retInt k | [] => (do rule "str.find.not-found"; retInt (-1))) _
 cases occurrences x y (fromIndex x.length i) (min (fromIndex x.length j) x.length) 1 with
 | nil => exact .rule (.of_eq rfl)
 | cons k _ => exact .of_eq rfl
theorem mR (a b c d : Value) : argsOk "str.find" ⟨[a, b, c, d], []⟩ := by unfold argsOk; kernel_rfl
section
variable {cx : Cx} {A : Around} {E : Value → Shared → Prop} {Γ : List Str} {sc : List (Str × NameKind)} {env : Env} {h₀ : Heap} {F F' : PH} {μ : List Addr} {st : St} {s : Shared} {K : V → Prop} {Q : Value → Shared → Prop}
theorem sI (k : Ok cx Γ sc env h₀ F μ st s.heap) {x : List Nat} {c : Nat} {a : Int} {t u v : Tok} (h0 : 0 ≤ a) (hK : K (.int (bl c x a.toNat x.length))) (q : Post cx Γ sc env h₀ F μ st s K Q) :
  wpAny (model cx.prog cx.w) A (call (.builtin "str.find") [.str ⟨x.toArray⟩ t, .str ⟨[c].toArray⟩ u, .int a v]) Q E s := by
 refine SC.find3 ?_
 have e : Txt.find3 ⟨x.toArray⟩ ⟨[c].toArray⟩ a = bl c x a.toNat x.length := by
  unfold Txt.find3
  rw [ff _ h0, aM]
  exact gS x c a.toNat x.length (Nat.le_refl _)
 rw [e]
 exact q.tok k hK ⟨_, rfl⟩
theorem sJ (k : Ok cx Γ sc env h₀ F μ st s.heap) {x : List Nat} {c : Nat} {a b : Int} {t u v w : Tok} (h0 : 0 ≤ a) (h1 : 0 ≤ b) (h2 : b ≤ x.length) (hK : K (.int (bl c x a.toNat b.toNat))) (q : Post cx Γ sc env h₀ F μ st s K Q) :
  wpAny (model cx.prog cx.w) A (call (.builtin "str.find") [.str ⟨x.toArray⟩ t, .str ⟨[c].toArray⟩ u, .int a v, .int b w]) Q E s := by
 refine call_gives PySem.F.slot_str_find (typeIs_str _ _ _) PySem.F.entry_str_find (mR _ _ _ _) (iX _ _ a b t u v w) ?_
 have e : (match occurrences ⟨x.toArray⟩ ⟨[c].toArray⟩ (fromIndex (⟨x.toArray⟩ : Str).length a) (min (fromIndex (⟨x.toArray⟩ : Str).length b) (⟨x.toArray⟩ : Str).length) 1 with | k :: _ => (k : Int) | [] => -1) = bl c x a.toNat b.toNat := by
  rw [ff _ h0, ff _ h1, aM, Nat.min_eq_left (o63 h1 h2)]
  exact gS x c a.toNat b.toNat (o63 h1 h2)
 rw [e]
 exact q.tok k hK ⟨_, rfl⟩
theorem oK (k : Ok cx Γ sc env h₀ F μ st s.heap) {x y : List Nat} {c : Nat} {t u v : Tok} (hx : x.length ≤ lim) (h0 : x.contains c = false) (hK : K (.str x)) (q : Post cx Γ sc env h₀ F μ st s K Q) :
  wpAny (model cx.prog cx.w) A (call (.builtin "str.replace") [.str ⟨x.toArray⟩ t, .str ⟨[c].toArray⟩ u, .str ⟨y.toArray⟩ v]) Q E s := by
 have e : (occurrences ⟨x.toArray⟩ ⟨[c].toArray⟩ 0 (⟨x.toArray⟩ : Str).length ((⟨x.toArray⟩ : Str).length + 1)) = [] := by
  refine occ_nil_of_no _ _ _ fun i hi => ?_
  cases h : subAt ⟨x.toArray⟩ ⟨[c].toArray⟩ i with
  | false => rfl
  | true =>
   have := (StrLaws.subAt_one ⟨x.toArray⟩ c i).mp ⟨hi, h⟩
   have h2 : c ∈ x := List.mem_of_getElem? (by simpa using this)
   rw [List.contains_eq_mem, decide_eq_false_iff_not] at h0
   exact absurd h2 h0
 have hc : ((occurrences ⟨x.toArray⟩ ⟨[c].toArray⟩ 0 (⟨x.toArray⟩ : Str).length ((⟨x.toArray⟩ : Str).length + 1)).isEmpty || ((⟨[c].toArray⟩ : Str).length == 0 && (⟨y.toArray⟩ : Str).length == 0)) = true := by rw [e]; rfl
 refine call_gives PySem.F.slot_str_replace (typeIs_str _ _ _) PySem.F.entry_str_replace (PySem.F.args_str_replace_3 _ _ _)
  (gives_str_replace _ _ _ t u v fun h => by rw [hc] at h; exact gh h) ?_
 rw [if_pos hc]
 exact q.here k hK ⟨hx, t, rfl⟩
theorem vk (x y : List Nat) : Txt.endswith ⟨x.toArray⟩ ⟨y.toArray⟩ = y.isSuffixOf x := by
 unfold Txt.endswith subAt
 rw [aM, aM, Bool.eq_iff_iff]
 simp only [Bool.and_eq_true, decide_eq_true_eq, beq_iff_eq, List.isSuffixOf_iff_suffix]
 constructor
 ·rintro ⟨h1, h2⟩
  have h3 := congrArg Array.toList h2
  simp at h3
  rw [List.take_of_length_le (by simp; exact o62 h1)] at h3
  rw [← h3]; exact List.drop_suffix _ _
 ·rintro ⟨z, rfl⟩
  refine ⟨by simp, ?_⟩
  apply Array.ext'
  simp
theorem mS (k : Ok cx Γ sc env h₀ F μ st s.heap) {x y : List Nat} {t u : Tok} (hK : K (.bool (y.isSuffixOf x))) (q : Post cx Γ sc env h₀ F μ st s K Q) :
  wpAny (model cx.prog cx.w) A (call (.builtin "str.endswith") [.str ⟨x.toArray⟩ t, .str ⟨y.toArray⟩ u]) Q E s :=
 SC.endswith (by rw [vk]; exact q.here k hK rfl)
end
end Mine
namespace Mine
open PySem PySem.W PySem.Calls PyProof.Rows
open PySem.Builtin PySem.Builtin.Str
theorem jX : isSubtype (.type "KeyError") (.type "LookupError") = pure true := by rw [isSubtype_type]; kernel_rfl
theorem vl {prog : Program} {w : World} {A : Around} {E : Value → Shared → Prop} {s : Shared} {sp : Addr} {c : Nat} {f : Int → Option Value} {Q : Mapped → Shared → Prop} (hh : A.handled = Option.none) (hm : s.heap.MapOf (intKind prog w) sp f) (hf : f c = Option.none) (hd : (sp == sysModules) = false)
  (h : ∀ h' t, (∀ a o, s.heap.get? a = some o → h'.get? a = some o) → Q .keep { s with heap := h', toks := t }) : wpAny (model prog w) A (tableLookup (.ref sp) c) Q E s := by
 unfold tableLookup
 refine wpAny_bind (wpAny_attempt (wpAny_bind (wpAny_mkInt ?_)))
 refine wpAny_getItem_missing_of (knd := intKind prog w) (k := (c : Int)) (by simp [intKind, Value.isInt]) hd hh (s := { s with toks := s.toks + 1 }) hm hf fun h' e hn => ?_
 simp only
 refine wpAny_bind (wpAny_isInstance (T := "KeyError") (b := true) ?_ jX ?_)
 ·obtain ⟨ob, t, h1, h2, _⟩ := hn.there; exact ⟨ob, h1, h2⟩
 ·simp only [if_true]
  exact wpAny_bind (wpAny_rule (wpAny_pure (h _ _ hn.keeps)))
theorem vm {prog : Program} {w : World} {A : Around} {s : Shared} {sp : Addr} {c : Nat} {t : Tok} {f : Int → Option Value} {Q : Value → Shared → Prop} {R : Value → Shared → Prop} (hh : A.handled = Option.none) (hm : s.heap.MapOf (intKind prog w) sp f) (hf : f c = Option.none) (hd : (sp == sysModules) = false) (hc : c < 128)
  (h : ∀ h' t', (∀ a o, s.heap.get? a = some o → h'.get? a = some o) → Q (.str ⟨#[c]⟩ t') { s with heap := h', toks := t' + 1 }) :
  wpAny (model prog w) A (Builtin.«str.translate» ⟨[.str ⟨#[c]⟩ t, .ref sp], []⟩) (fun fin s' => ∃ v, fin = .done (.ret v) ∧ Q v s') R s := by
 have H : ∀ (Q : Mapped → Shared → Prop) (E : Value → Shared → Prop), (∀ h' t, (∀ a o, s.heap.get? a = some o → h'.get? a = some o) → Q .keep { s with heap := h', toks := t }) → wpAny (model prog w) A (tableLookup (.ref sp) c) Q E s :=
  fun Q E h => vl hh hm hf hd h
 obtain ⟨hp, g, dd, tk, os⟩ := s
 have e : (({ cps := #[c] } : Str).cps.all fun x => decide (x < 128)) = true := by simp [hc]
 unfold Builtin.«str.translate»
 revert H
 generalize tableLookup = tl
 intro H
 wp_walk
 rw [e]
 wp_walk
 refine H _ _ fun h' tk' hk => ?_
 wp_walk
 exact ⟨_, rfl, h h' tk' hk⟩
theorem nw : Slot "str" "translate" "str.translate" :=
 .of (owner := "str") (n := "translate") (by rw [typeLookup_type, builtinLookup_eq_fast]; kernel_rfl) (by decide +kernel) (by decide +kernel) (by decide +kernel)
  (by first | exact .inl (by decide +kernel) | exact .inr (by decide +kernel)) (by rw [isSubtype_type]; kernel_rfl)
theorem sK : entryFor table "str.translate" = some Builtin.«str.translate» := entryFor_of_tree (by kernel_rfl)
theorem vn (a b : Value) : argsOk "str.translate" ⟨[a, b], []⟩ := by unfold argsOk; kernel_rfl
noncomputable def gm (cx : Cx) : Prop := ∃ f, cx.g.MapOf (intKind cx.prog cx.w) cx.sp f ∧ (∀ c : Nat, ag c = true → f c = Option.none) ∧ (cx.sp == sysModules) = false
theorem nx : ∀ c, cG c = true → Unicode.isSpace c = false ∧ Unicode.isLineBreak c = false := by
 have h : ∀ k, k < 94 → Unicode.isSpace (33 + k) = false ∧ Unicode.isLineBreak (33 + k) = false := by decide +kernel
 intro c hc
 unfold cG at hc
 rw [Bool.and_eq_true, decide_eq_true_eq, decide_eq_true_eq] at hc
 have := h (c - 33) (o84 hc)
 rwa [show 33 + (c - 33) = c from by exact o83 hc] at this
theorem qr (x : List Nat) (h : x.all cG = true) : Txt.rstrip ⟨x.toArray⟩ = ⟨x.toArray⟩ := by
 have e : stripSame Unicode.isSpace false true ⟨x.toArray⟩ = true := by
  unfold stripSame stripHi stripLo
  have e1 : (x.reverse.takeWhile Unicode.isSpace) = [] := by
   cases hx : x.reverse with
   | nil => rfl
   | cons a r =>
    have ha : a ∈ x := by rw [← List.mem_reverse, hx]; exact List.mem_cons_self ..
    rw [List.takeWhile_cons, (nx a (List.all_eq_true.mp h a ha)).1]; rfl
  simp [e1, aM]
 unfold Txt.rstrip Txt.stripBy
 rw [if_pos e]
theorem sL (x : List Nat) (hx : x ≠ []) (h : x.all cG = true) : lineCuts ⟨x.toArray⟩ = [(0, (⟨x.toArray⟩ : Str).length)] := by
 have hl : 0 < x.length := by cases x with | nil => exact absurd rfl hx | cons a r => simp
 have stay : ∀ (n a : Nat), a + n ≤ x.length → (forIn (m := Id) (List.range' a n) ((#[], 0) : StrLaws.LsSt) (StrLaws.lsBody ⟨x.toArray⟩)) = ((#[], 0) : StrLaws.LsSt) := by
  intro n
  induction n with
  | zero => intro a _; rfl
  | succ n ih =>
   intro a ha
   rw [List.range'_succ, List.forIn_cons]
   have : Unicode.isLineBreak ((⟨x.toArray⟩ : Str).cps.getD a 0) = false := by
    have h1 : a < x.length := o82 ha
    have h2 : (⟨x.toArray⟩ : Str).cps.getD a 0 = x[a] := by simp [Array.getD, h1]
    rw [h2]
    exact (nx _ (List.all_eq_true.mp h _ (List.getElem_mem h1))).2
   unfold StrLaws.lsBody
   rw [this]
   simp only [Bool.and_false, Bool.false_eq_true, if_false]
   exact ih (a + 1) (o81 ha)
 unfold lineCuts
 rw [StrLaws.ls_eq, aM]
 have e := stay x.length 0 (o80)
 unfold StrLaws.lsEnd
 rw [show (Id.run (forIn (m := Id) (List.range' 0 x.length) ((#[], 0) : StrLaws.LsSt) (StrLaws.lsBody ⟨x.toArray⟩))) = ((#[], 0) : StrLaws.LsSt) from e]
 simp [aM, hl]
theorem fg (sep : List Nat) : ∀ l : List (List Nat), l ≠ [] → (bf sep l).length + sep.length = (l.map (·.length)).sum + l.length * sep.length
 | [], h => absurd rfl h
 | [x], _ => by simp [bf]
 | x :: y :: r, _ => by
  have := fg sep (y :: r) (by simp)
  rw [bf]
  ·simp only [List.length_append, List.map_cons, List.sum_cons, List.length_cons] at this ⊢
   have e2 : (r.length + 1 + 1) * sep.length = (r.length + 1) * sep.length + sep.length := Nat.succ_mul _ _
   rw [e2]
   exact o79 this
  ·simp
theorem iY (sep : List Nat) : ∀ (r : List (List Nat)) (acc : List Nat), (r.map fun x => (⟨x.toArray⟩ : Str)).foldl (fun acc p => acc ++ (⟨sep.toArray⟩ : Str).cps ++ p.cps) acc.toArray = (acc ++ (r.map fun x => sep ++ x).flatten).toArray
 | [], acc => by simp
 | x :: r, acc => by
  rw [List.map_cons, List.foldl_cons]
  have e : acc.toArray ++ (⟨sep.toArray⟩ : Str).cps ++ (⟨x.toArray⟩ : Str).cps = (acc ++ (sep ++ x)).toArray := by simp
  rw [e, iY sep r]
  simp
theorem iZ (sep : List Nat) : ∀ (x : List Nat) (r : List (List Nat)), bf sep (x :: r) = x ++ (r.map fun x => sep ++ x).flatten
 | x, [] => by simp [bf]
 | x, y :: r => by
  rw [bf]
  ·rw [iZ sep y r]; simp
  ·simp
theorem jY (sep : List Nat) (l : List (List Nat)) : Txt.join ⟨sep.toArray⟩ (l.map fun x => (⟨x.toArray⟩ : Str)) = ⟨(bf sep l).toArray⟩ := by
 unfold Txt.join Builtin.Str.glued
 cases l with
 | nil => rfl
 | cons x r =>
  rw [List.map_cons, List.drop_succ_cons, List.drop_zero]
  have := iY sep r x
  rw [iZ]
  congr 1
section
variable {cx : Cx} {A : Around} {E : Value → Shared → Prop} {Γ : List Str} {sc : List (Str × NameKind)} {env : Env} {h₀ : Heap} {F F' : PH} {μ : List Addr} {st : St} {s : Shared} {K : V → Prop} {Q : Value → Shared → Prop}
theorem lG (hh : A.handled = Option.none) (sp : gm cx) (k : Ok cx Γ sc env h₀ F μ st s.heap) {c : Nat} {t : Tok} (hc : ag c = true) (hK : K (.str [c])) (q : Post cx Γ sc env h₀ F μ st s K Q) :
  wpAny (model cx.prog cx.w) A (call (.builtin "str.translate") [.str ⟨[c].toArray⟩ t, .ref cx.sp]) Q E s := by
 obtain ⟨f, ⟨o, es, ep, h1, h2⟩, hf, hd⟩ := sp
 have hm : s.heap.MapOf (intKind cx.prog cx.w) cx.sp f := ⟨o, es, ep, k.fz _ _ (k.gF _ _ h1), h2⟩
 have hlt : c < 128 := by unfold ag at hc; simp at hc; exact o78 hc
 refine wpAny_call_entry nw (typeIs_str _ _ _) sK (vm (A := A.in1) hh hm (hf c hc) hd hlt fun h' t' hk => ?_) (vn _ _)
 obtain ⟨k', tr⟩ := k.kept (t := t' + 1) hk
 exact q _ _ _ _ hK k' tr ⟨by simp [lim], t', rfl⟩
theorem vo (k : Ok cx Γ sc env h₀ F μ st s.heap) {sep : List Nat} {v : V} {r : Value} {l : List (List Nat)} {t : Tok} (hs : sep.length ≤ lim) (hv : VR cx.sp F μ v r) (hl : (aE st.cells v).bind txts = some l) (hz : (bf sep l).length ≤ lim) (hK : K (.str (bf sep l))) (q : Post cx Γ sc env h₀ F μ st s K Q) :
  wpAny (model cx.prog cx.w) A (call (.builtin "str.join") [.str ⟨sep.toArray⟩ t, r]) Q E s := by
 simp only [Option.bind_eq_some_iff] at hl
 obtain ⟨m, h1, h2⟩ := hl
 obtain ⟨_, a, vs, rfl, h3, h4⟩ := k.asL hv h1
 obtain ⟨h5, _⟩ := h4.txts h2
 refine join_list h3.list h5 ?_ fun t' tk => ?_
 ·rw [List.length_map, List.map_map, aM]
  have e : (l.map ((fun x => x.length) ∘ fun x => (⟨x.toArray⟩ : Str))).sum = (l.map (·.length)).sum := by
   congr 1
  rw [e]
  cases l with
  | nil => simp
  | cons x r =>
   have := fg sep (x :: r) (by simp)
   unfold lim at *
   exact o77 this hz hs
 ·rw [jY]
  exact q.tok k hK ⟨hz, t', rfl⟩
theorem kK (k : Ok cx Γ sc env h₀ F μ st s.heap) {x : List Nat} {t : Tok} (hl : x.length ≤ lim) (hx : x ≠ []) (h : x.all cG = true) (hK : K (.lst [.str x])) (q : Post cx Γ sc env h₀ F μ st s K Q) :
  wpAny (model cx.prog cx.w) A (call (.builtin "str.splitlines") [.str ⟨x.toArray⟩ t]) Q E s := by
 have e := sL x hx h
 refine call_meets PySem.F.slot_str_splitlines (typeIs_str _ _ _) PySem.F.entry_str_splitlines (PySem.F.args_str_splitlines_1 _) (meets_str_splitlines _ t (by rw [aM]; exact bo hl) (by rw [e]; show 1 ≤ sizeLine; decide)) ?_
 rw [e, if_pos (by simp)]
 exact q.list k (by simp [lim]) hK (show VRs cx.sp F μ [V.str x] [Value.str ⟨x.toArray⟩ t] from ⟨⟨hl, t, rfl⟩, trivial⟩)
theorem qs (k : Ok cx Γ sc env h₀ F μ st s.heap) {x : List Nat} {t : Tok} (hl : x.length ≤ lim) (h : x.all cG = true) (hK : K (.str x)) (q : Post cx Γ sc env h₀ F μ st s K Q) :
  wpAny (model cx.prog cx.w) A (call (.builtin "str.rstrip") [.str ⟨x.toArray⟩ t]) Q E s :=
 SC.rstrip (fun t' tk => by rw [qr x h]; exact q.tok k hK ⟨hl, t', rfl⟩) (by rw [aM]; exact bo hl)
end
end Mine
namespace Mine
open PySem PySem.W PySem.Calls PyProof.Rows
structure Itr (cx : Cx) (A : Around) (F : PH) (μ : List Addr) (I : Addr) (items : List V) (St : Nat → Heap → Prop) : Prop where
 frame : ∀ i h h', St i h → (∀ b, b = I ∨ F b ≠ Option.none → ∀ o, h.get? b = some o → h'.get? b = some o) → St i h'
 item : ∀ i (s : Shared) (Q : Option Value → Shared → Prop) (E : Value → Shared → Prop) (v : V), items[i]? = some v → St i s.heap →
  (∀ r h' tk, VR cx.sp F μ v r → St (i + 1) h' → (∀ b o, b ≠ I → s.heap.get? b = some o → h'.get? b = some o) → h'.get? I ≠ Option.none → Q (some r) { s with heap := h', toks := tk }) → wpAny (model cx.prog cx.w) A (pyNext (.ref I)) Q E s
 done : ∀ (s : Shared) (Q : Option Value → Shared → Prop) (E : Value → Shared → Prop), St items.length s.heap →
  (∀ h' tk, (∀ b o, b ≠ I → s.heap.get? b = some o → h'.get? b = some o) → Q Option.none { s with heap := h', toks := tk }) → wpAny (model cx.prog cx.w) A (pyNext (.ref I)) Q E s
 self : ∀ i (s : Shared) (Q : Value → Shared → Prop) (E : Value → Shared → Prop), St i s.heap → Q (.ref I) s → wpAny (model cx.prog cx.w) A (pyIter (.ref I)) Q E s
 go : ∀ i (s : Shared) (Q : Unit → Shared → Prop) (E : Value → Shared → Prop) elts x1 pos T, St i s.heap → Q () s → wpAny (model cx.prog cx.w) A (letOwnedTupleGo (.Tuple elts x1 pos) (.ref I) (.ref T)) Q E s
theorem sM {prog : Program} {w : World} {A : Around} {E : Value → Shared → Prop} {s : Shared} {elts : List Expr} {x1} {pos : Pos} {I T : Addr} {x left step : Int} {Q : Unit → Shared → Prop} (hit : IsRangeIter s.heap I x left step) (hQ : Q () s) :
  wpAny (model prog w) A (letOwnedTupleGo (.Tuple elts x1 pos) (.ref I) (.ref T)) Q E s := by
 unfold letOwnedTupleGo
 refine wpAny_bind (wpAny_load hit ?_)
 show wpAny _ A (if (["enumerate", "zip", "dict_itemiterator", "dict_reverseitemiterator", "odict_iterator", "itertools.zip_longest", "itertools.pairwise"].contains "range_iterator" && _) = true then _ else _) Q E s
 rw [if_neg (by
  intro h
  rw [show (["enumerate", "zip", "dict_itemiterator", "dict_reverseitemiterator", "odict_iterator", "itertools.zip_longest", "itertools.pairwise"].contains "range_iterator") = false from by decide, Bool.false_and] at h
  exact aH h)]
 exact wpAny_pure hQ
theorem yL {prog : Program} {w : World} {A : Around} {E : Value → Shared → Prop} {s : Shared} {elts : List Expr} {x1} {pos : Pos} {I T : Addr} {x : Str} {t : Tok} {i : Nat} {ty : String} (hty : ty = "str_ascii_iterator" ∨ ty = "str_iterator") {Q : Unit → Shared → Prop} (hit : s.heap.IsStrIter I ty x t i) (hQ : Q () s) :
  wpAny (model prog w) A (letOwnedTupleGo (.Tuple elts x1 pos) (.ref I) (.ref T)) Q E s := by
 obtain ⟨o, ho, hc, hd⟩ := hit
 unfold letOwnedTupleGo
 refine wpAny_bind (wpAny_load ho ?_)
 have hc' : o.cls = .type ty := hc
 rw [hc', hd]
 show wpAny _ A (if (["enumerate", "zip", "dict_itemiterator", "dict_reverseitemiterator", "odict_iterator", "itertools.zip_longest", "itertools.pairwise"].contains ty && _) = true then _ else _) Q E s
 rw [if_neg (by
  intro h
  rcases hty with rfl | rfl
  ·rw [show (["enumerate", "zip", "dict_itemiterator", "dict_reverseitemiterator", "odict_iterator", "itertools.zip_longest", "itertools.pairwise"].contains "str_ascii_iterator") = false from by decide, Bool.false_and] at h
   exact aH h
  ·rw [show (["enumerate", "zip", "dict_itemiterator", "dict_reverseitemiterator", "odict_iterator", "itertools.zip_longest", "itertools.pairwise"].contains "str_iterator") = false from by decide, Bool.false_and] at h
   exact aH h)]
 exact wpAny_pure hQ
theorem ny {a b : Int} : cW a b 1 = (List.range (b - a).toNat).map fun (k : Nat) => a + k := by unfold cW; rw [if_pos rfl]
theorem gT {a b : Int} : cW a b (-1) = (List.range (a - b).toNat).map fun (k : Nat) => a - k := by unfold cW; rw [if_neg (by decide)]
theorem lH (a b : Int) : Builtin.Range.rangeSize a b 1 = ((cW a b 1).length : Nat) := by
 rw [ny, List.length_map, List.length_range]
 have := rangeSize_one a b
 rw [this]; split <;> omega
theorem fX (a b : Int) : Builtin.Range.rangeSize a b (-1) = ((cW a b (-1)).length : Nat) := by
 rw [gT, List.length_map, List.length_range]
 unfold Builtin.Range.rangeSize
 simp
 split <;> omega
theorem qt {a b c : Int} (ha : small a) (hb : small b) (hc : c = 1 ∨ c = -1) : Builtin.Range.small a b c = true := by
 obtain ⟨h1, h2⟩ := ha
 obtain ⟨h3, h4⟩ := hb
 have hs : 0 ≤ Builtin.Range.rangeSize a b c ∧ Builtin.Range.rangeSize a b c ≤ 9223372036854775806 := by
  rcases hc with rfl | rfl
  ·rw [rangeSize_one]; split <;> omega
  ·rw [fX, gT, List.length_map, List.length_range]; exact o96 h1 h3 h2 h4
 have fit : ∀ i : Int, -9223372036854775808 ≤ i → i < 9223372036854775808 → Builtin.Range.rangeFitsLong i = true := fun i h1 h2 => by
  unfold Builtin.Range.rangeFitsLong
  rw [decide_eq_true (by omega), decide_eq_true (by omega)]; rfl
 unfold Builtin.Range.small
 rw [fit a (o95 h1 h2) (o94 h1 h2), fit b (o95 h3 h4) (o94 h3 h4), fit c (o93 hc) (o92 hc), fit _ (o91 hs) (o90 hs)]
 rcases hc with rfl | rfl
 ·rw [if_pos (by decide), fit _ (o89 h3 h4) (o88 h3 h4)]; simp
 ·rw [if_neg (by decide), fit _ (o87 h3 h4) (o86 h3 h4)]; simp
section
variable {cx : Cx} {A : Around} {E : Value → Shared → Prop} {Γ : List Str} {sc : List (Str × NameKind)} {env : Env} {h₀ : Heap} {F F' : PH} {μ : List Addr} {st : St} {s : Shared} {K : V → Prop} {Q : Value → Shared → Prop}
theorem nz (hh : A.handled = Option.none) (k : Ok cx Γ sc env h₀ F μ st s.heap) {v : V} {r : Value} {items : List V} (hv : VR cx.sp F μ v r) (hi : cw v = some items)
  (q : ∀ (I : Addr) (St : Nat → Heap → Prop) (o : Obj), I = s.heap.objs.size → Itr cx A F μ I items St → o.isFreed = false → St 0 (s.heap.push o) → Q (.ref I) { s with heap := s.heap.push o }) :
  wpAny (model cx.prog cx.w) A (pyIter r) Q E s := by
 unfold cw at hi
 split at hi
 ·cases hi
  obtain ⟨h1, a, vs, rfl, h2, h3⟩ := hv
  have hl := (h2.mono fun a o e => k.fz a o e).list
  have e := h3.length
  obtain ⟨o0, n0, ho0, hc0, hd0⟩ := h2
  have hF : F a ≠ Option.none := by rw [ho0]; simp
  have hne : a ≠ s.heap.objs.size := Nat.ne_of_lt (Heap.lt_size (k.fz _ _ ho0))
  have W := Walks.list (prog := cx.prog) (w := cx.w) (A := A) hh s.heap.objs.size a hne vs.toArray
  refine wpAny_pyIter_list hl (q s.heap.objs.size (fun i h => h.IsListIter s.heap.objs.size a i ∧ h.IsList a vs.toArray) _ rfl ⟨fun i h h' st hk => ?_, fun i s1 Q1 E1 v hv st hQ => ?_, fun s1 Q1 E1 st hQ => ?_, W.self, fun i s1 Q1 E1 el x1 p T st hQ => wpAny_letOwnedTupleGo_listiter st.1 hQ⟩ rfl ⟨?_, hl.push _⟩)
  ·refine W.frame i h h' st fun b hb o e => hk b ?_ o e
   simp at hb
   rcases hb with rfl | rfl
   ·exact .inl rfl
   ·exact .inr hF
  ·obtain ⟨r, h4, h5⟩ := h3.get hv
   have hlt : i < vs.toArray.size := by
    have := (List.getElem?_eq_some_iff.mp h4).1; simpa using this
   refine W.item i s1 Q1 E1 hlt st fun v' h' tk hP st' hk => hQ v' h' tk ?_ st' (fun b o hb e => hk b o (by simpa using hb) e) ?_
   ·have : some v' = some r := by rw [← hP, ← h4]; simp
    cases this; exact h5
   ·obtain ⟨⟨o, e, _⟩, _⟩ := st'; rw [e]; simp
  ·have e2 : items.length = vs.toArray.size := by simp [e]
   rw [e2] at st
   exact W.done s1 Q1 E1 st fun h' tk hk => hQ h' tk fun b o hb e => hk b o (by simpa using hb) e
  ·exact ⟨_, Heap.get?_push_size _ rfl, rfl, rfl⟩
 ·rename_i a b c
  obtain rfl := Option.some.inj hi
  obtain ⟨ha, hb, hc, x, t, u, w', rfl, hx⟩ := hv
  have hR : IsRange s.heap x a b c t u w' := k.fz _ _ hx
  have hs : Builtin.Range.rangeSize a b c = ((cW a b c).length : Nat) := by
   rcases hc with rfl | rfl
   ·exact lH a b
   ·exact fX a b
  have W := Walks.range (prog := cx.prog) (w := cx.w) (A := A) hh s.heap.objs.size a c (cW a b c).length
  refine wpAny_pyIter_range hR (qt ha hb hc) (q s.heap.objs.size (fun i h => IsRangeIter h s.heap.objs.size (a + (i : Nat) * c) (((cW a b c).length : Int) - (i : Nat)) c) _ rfl ⟨fun i h h' st hk => ?_, fun i s1 Q1 E1 v hv st hQ => ?_, fun s1 Q1 E1 st hQ => ?_, W.self, fun i s1 Q1 E1 el x1 p T st hQ => sM st hQ⟩ rfl ?_)
  ·exact W.frame i h h' st fun b hb o e => hk b (.inl (by simpa using hb)) o e
  ·have hlt : i < (cW a b c).length := by
    have := (List.getElem?_eq_some_iff.mp hv).1; simpa using this
   refine W.item i s1 Q1 E1 hlt st fun v' h' tk hP st' hk => hQ v' h' tk ?_ st' (fun b o hb e => hk b o (by simpa using hb) e) ?_
   ·obtain ⟨t, rfl⟩ := hP
    rw [List.getElem?_map, List.getElem?_eq_getElem hlt] at hv
    simp only [Option.map_some, Option.some.injEq] at hv
    subst hv
    refine ⟨t, ?_⟩
    congr 1
    rcases hc with rfl | rfl
    ·simp [ny]
    ·simp [gT]; exact o85
   ·rw [show h'.get? s.heap.objs.size = _ from st']; simp
  ·have e2 : ((cW a b c).map V.int).length = (cW a b c).length := by simp
   rw [e2] at st
   exact W.done s1 Q1 E1 st fun h' tk hk => hQ h' tk fun b o hb e => hk b o (by simpa using hb) e
  ·show IsRangeIter _ _ _ _ _
   rw [hs]
   have : a + ((0 : Nat) : Int) * c = a := by simp
   rw [this, show (((cW a b c).length : Int) - ((0 : Nat) : Int)) = ((cW a b c).length : Int) from by simp]
   exact Heap.get?_push_size _ rfl
 ·rename_i x
  obtain rfl := Option.some.inj hi
  obtain ⟨h1, t, rfl⟩ := hv
  have go : ∀ (ty : String), (ty = "str_ascii_iterator" ∨ ty = "str_iterator") → Walks cx.prog cx.w A s.heap.objs.size [s.heap.objs.size] [s.heap.objs.size] x.toArray.size (SignAt ⟨x.toArray⟩) (fun i h => h.IsStrIter s.heap.objs.size ty ⟨x.toArray⟩ t i) →
    Itr cx A F μ s.heap.objs.size (x.map fun c => V.str [c]) (fun i h => h.IsStrIter s.heap.objs.size ty ⟨x.toArray⟩ t i) := fun ty hty W => by
   refine ⟨fun i h h' st hk => ?_, fun i s1 Q1 E1 v hv st hQ => ?_, fun s1 Q1 E1 st hQ => ?_, W.self, fun i s1 Q1 E1 el x1 p T st hQ => yL hty st hQ⟩
   ·exact W.frame i h h' st fun b hb o e => hk b (.inl (by simpa using hb)) o e
   ·have hlt : i < x.toArray.size := by
     have := (List.getElem?_eq_some_iff.mp hv).1; simpa using this
    refine W.item i s1 Q1 E1 hlt st fun v' h' tk hP st' hk => hQ v' h' tk ?_ st' (fun b o hb e => hk b o (by simpa using hb) e) ?_
    ·obtain ⟨c, u, hc, rfl⟩ := hP
     rw [List.getElem?_map] at hv
     have hc' : x[i]? = some c := by simpa using hc
     rw [hc'] at hv
     obtain rfl := Option.some.inj hv
     exact ⟨by simp [lim], u, rfl⟩
    ·obtain ⟨o, e, _⟩ := st'; rw [e]; simp
   ·have e2 : (x.map fun c => V.str [c]).length = x.toArray.size := by simp
    rw [e2] at st
    exact W.done s1 Q1 E1 st fun h' tk hk => hQ h' tk fun b o hb e => hk b o (by simpa using hb) e
  cases ha : (⟨x.toArray⟩ : Str).cps.all (· < 128)
  ·exact wpAny_pyIter_wide ha (q _ _ _ rfl (go "str_iterator" (.inr rfl) (Walks.strWide hh _ _ t)) rfl ⟨_, Heap.get?_push_size _ rfl, rfl, rfl⟩)
  ·exact wpAny_pyIter_ascii ha (q _ _ _ rfl (go "str_ascii_iterator" (.inl rfl) (Walks.strAscii hh _ _ t)) rfl ⟨_, Heap.get?_push_size _ rfl, rfl, rfl⟩)
 ·cases hi
end
end Mine
namespace Mine
open PySem PySem.W PySem.Calls PyProof.Rows
structure Off (cx : Cx) (env : Env) (h₀ : Heap) (F : PH) (μ : List Addr) (C : Addr) : Prop where
 f : F C = Option.none
 m : C ∉ μ
 l : C ≠ env.locals
 p : C ≠ cx.P
 c : ∀ n c, (n, c) ∈ env.cells → c ≠ C
 o : h₀.get? C = Option.none
section
variable {cx : Cx} {A : Around} {Γ : List Str} {sc : List (Str × NameKind)} {env : Env} {h₀ : Heap} {F F' : PH} {μ μ' : List Addr} {st : St} {h h' : Heap} {s : Shared}
theorem Ok.touch (k : Ok cx Γ sc env h₀ F μ st h) {C : Addr} (x : Off cx env h₀ F μ C) (st' : ∀ a o, a ≠ C → h.get? a = some o → h'.get? a = some o) : Ok cx Γ sc env h₀ F μ st h' := by
 obtain ⟨m, hm, hmv⟩ := k.ns
 refine ⟨fun a o e => st' a o (fun q => by rw [q, x.f] at e; exact ab e) (k.fz a o e), k.fL, k.fC, k.fM, k.fP, k.gF, fun a o e => st' a o (fun q => by rw [q, x.o] at e; exact ab e) (k.keep a o e), k.nL, k.nC, k.nM, k.nP, k.nd, k.mL, k.mP, k.lP, k.cM,
  ⟨m, hm.at' fun o => st' _ o (Ne.symm x.l), hmv⟩, fun y j h1 h2 => ?_, k.len, fun n c' hc' => ?_, fun j a l' h1 h2 => ?_, ?_⟩
 ·obtain ⟨c', ov, e1, e2, e3⟩ := k.cl y j h1 h2
  exact ⟨c', ov, e1, cL e2 fun o => st' c' o (x.c y c' (mem_of_lookup e1)), e3⟩
 ·cases e : h.get? c' with
  | none => exact absurd e (k.ca n c' hc')
  | some o => rw [st' _ _ (x.c n c' hc') e]; simp
 ·obtain ⟨h3, ws, ⟨o, n, e, h4⟩, h5⟩ := k.ct j a l' h1 h2
  exact ⟨h3, ws, ⟨o, n, st' a o (fun q => x.m (q ▸ List.mem_of_getElem? h1)) e, h4⟩, h5⟩
 ·obtain ⟨ps, e, t⟩ := k.tab; exact ⟨ps, st' _ _ (Ne.symm x.p) e, t⟩
theorem Off.fresh (k : Ok cx Γ sc env h₀ F μ st h) {C : Addr} (hC : h.get? C = Option.none) : Off cx env h₀ F μ C where
 f := by cases e : F C with | none => rfl | some o => rw [k.fz _ _ e] at hC; exact cn hC
 m := fun q => k.aliveM C q hC
 l := fun q => k.aliveL (q ▸ hC)
 p := fun q => k.aliveP (q ▸ hC)
 c := fun n c hc q => k.ca n c hc (q ▸ hC)
 o := by cases e : h₀.get? C with | none => rfl | some o => rw [k.keep _ _ e] at hC; exact cn hC
theorem Off.tr (x : Off cx env h₀ F μ C) {s s' : Shared} (t : Tr cx.P F μ s F' μ' s') (ha : s.heap.get? C ≠ Option.none) : Off cx env h₀ F' μ' C where
 f := Classical.byContradiction fun q => (t.new C q).elim (fun z => z x.f) ha
 m := fun q => (t.newM C q).elim x.m ha
 l := x.l
 p := x.p
 c := x.c
 o := x.o
theorem Tr.touch {s s' : Shared} (t : Tr cx.P F μ s F' μ' s') {C : Addr} {h' : Heap} {tk : Nat} (hC : s.heap.get? C = Option.none) (hs : ∀ a o, a ≠ C → s'.heap.get? a = some o → h'.get? a = some o) : Tr cx.P F μ s F' μ' { s' with heap := h', toks := tk } :=
 ⟨t.le, t.mu, fun a o e h1 h2 => hs a o (fun q => by rw [q, hC] at e; exact ab e) (t.keep a o e h1 h2), fun a e => by
  cases e2 : s'.heap.get? a with
  | none => exact absurd e2 (t.alive a e)
  | some o => rw [show ({ s' with heap := h', toks := tk } : Shared).heap.get? a = some o from hs a o (fun q => e (q ▸ hC)) e2]; simp, t.new, t.newM, t.os, t.gens⟩
theorem Ok.freeze (k : Ok cx Γ sc env h₀ F μ st h) {D : Addr} {o : Obj} (x : Off cx env h₀ F μ D) (ho : h.get? D = some o) : Ok cx Γ sc env h₀ (PH.upd F D o) μ st h := by
 have hF : PLe F (PH.upd F D o) := fun a o' e => by
  have : a ≠ D := fun q => by rw [q, x.f] at e; exact ab e
  simp [PH.upd, this, e]
 have no : ∀ a, a ≠ D → F a = Option.none → PH.upd F D o a = Option.none := fun a h1 h2 => by simp [PH.upd, h1, h2]
 obtain ⟨m, hm, hmv⟩ := k.ns
 refine ⟨fun a o' e => ?_, no _ (Ne.symm x.l) k.fL, fun n c hc => no _ (x.c n c hc) (k.fC n c hc), fun a ha => no _ (fun q => x.m (q ▸ ha)) (k.fM a ha), no _ (Ne.symm x.p) k.fP, fun a o e => hF _ _ (k.gF a o e), k.keep, k.nL, k.nC, k.nM, k.nP, k.nd, k.mL, k.mP, k.lP, k.cM,
  ⟨m, hm, fun y i v h1 h2 h3 => ?_⟩, fun y i h1 h2 => ?_, k.len, k.ca, fun i a l h1 h2 => ?_, k.tab⟩
 ·by_cases q : a = D
  ·subst q; simp [PH.upd] at e; subst e; exact ho
  ·simp [PH.upd, q] at e; exact k.fz a o' e
 ·obtain ⟨r, e, hv⟩ := hmv y i v h1 h2 h3
  exact ⟨r, e, hv.mono hF (List.prefix_refl _)⟩
 ·obtain ⟨c, ov, e1, e2, e3⟩ := k.cl y i h1 h2
  exact ⟨c, ov, e1, e2, fun v hv => by obtain ⟨r, e, z⟩ := e3 v hv; exact ⟨r, e, z.mono hF (List.prefix_refl _)⟩⟩
 ·obtain ⟨h3, vs, h4, h5⟩ := k.ct i a l h1 h2
  exact ⟨h3, vs, h4, h5.mono hF (List.prefix_refl _)⟩
theorem Tr.freeze {s s' : Shared} (t : Tr cx.P F μ s F' μ' s') {D : Addr} {o : Obj} (hD : s.heap.get? D = Option.none) (hf : F' D = Option.none) : Tr cx.P F μ s (PH.upd F' D o) μ' s' :=
 ⟨fun a o' e => by
  have := t.le a o' e
  have h2 : a ≠ D := fun q => by rw [q, hf] at this; exact ab this
  simp [PH.upd, h2, this], t.mu, t.keep, t.alive, fun a e => by
  by_cases q : a = D
  ·exact .inr (q ▸ hD)
  ·simp [PH.upd, q] at e; exact t.new a e, t.newM, t.os, t.gens⟩
theorem PH.upd_self {F : PH} {D : Addr} {o : Obj} : PH.upd F D o D = some o := by simp [PH.upd]
theorem Ok.back {Γ' : List Str} {sc' : List (Str × NameKind)} {env' : Env} {st' : St} {s s' : Shared} (k : Ok cx Γ sc env h₀ F μ st s.heap) (t : Tr cx.P F μ s F' μ' s') (k' : Ok cx Γ' sc' env' h₀ F' μ' st' s'.heap) :
  Ok cx Γ sc env h₀ F' μ' ⟨st.loc, st'.cells⟩ s'.heap := by
 have no : ∀ a, F a = Option.none → s.heap.get? a ≠ Option.none → F' a = Option.none := fun a h1 h2 => Classical.byContradiction fun q => (t.new a q).elim (fun z => z h1) h2
 have nm : ∀ a, a ∉ μ → s.heap.get? a ≠ Option.none → a ∉ μ' := fun a h1 h2 q => (t.newM a q).elim h1 h2
 obtain ⟨m, hm, hmv⟩ := k.ns
 refine ⟨k'.fz, no _ k.fL k.aliveL, fun n c hc => no _ (k.fC n c hc) (k.ca n c hc), k'.fM, k'.fP, k'.gF, k'.keep, k.nL, k.nC, k'.nM, k'.nP, k'.nd, nm _ k.mL k.aliveL, k'.mP, k.lP, fun n c hc => ⟨nm _ (k.cM n c hc).1 (k.ca n c hc), (k.cM n c hc).2⟩,
  ⟨m, hm.at' fun o e => t.keep _ o e k.mL k.lP, fun x i v h1 h2 h3 => ?_⟩, fun x i h1 h2 => ?_, k'.len, fun n c hc => t.alive c (k.ca n c hc), k'.ct, k'.tab⟩
 ·obtain ⟨r, e, hv⟩ := hmv x i v h1 h2 h3
  exact ⟨r, e, hv.mono t.le t.mu⟩
 ·obtain ⟨c, ov, e1, e2, e3⟩ := k.cl x i h1 h2
  have hc := k.cM x c (mem_of_lookup e1)
  exact ⟨c, ov, e1, cL e2 fun o e => t.keep _ o e hc.1 hc.2.2, fun v hv => by obtain ⟨r, e, z⟩ := e3 v hv; exact ⟨r, e, z.mono t.le t.mu⟩⟩
end
noncomputable def db (cells : List (Str × Addr)) : List (Str × NameKind) → List (Str × Addr) → List (Str × Addr)
 | [], acc => acc
 | (n, k) :: r, acc => db cells r (if k == .free then (n, (cells.lookup n).getD 0) :: acc else acc)
theorem i4 {scope : Scope} {env : Env} (h : ∀ n, (n, NameKind.free) ∈ scope.names → (env.cells.lookup n).isSome = true) : closureFor scope env = pure (db env.cells scope.names []) := by
 unfold closureFor
 suffices H : ∀ (l : List (Str × NameKind)) (acc : List (Str × Addr)), (∀ n, (n, NameKind.free) ∈ l → (env.cells.lookup n).isSome = true) →
   (forIn l acc fun (x : Str × NameKind) (cs : List (Str × Addr)) => (do
    if x.2 == .free then do let a ← cellOf env x.1; pure (ForInStep.yield ((x.1, a) :: cs)) else pure (ForInStep.yield cs) : Sem (ForInStep (List (Str × Addr))))) = pure (db env.cells l acc) by
  have := H scope.names [] h
  simp only [] at this ⊢
  rw [show (forIn scope.names ([] : List (Str × Addr)) fun (x : Str × NameKind) (__s : List (Str × Addr)) => (_ : Sem (ForInStep (List (Str × Addr))))) = _ from this]
  rfl
 intro l
 induction l with
 | nil => intro acc _; rfl
 | cons x r ih =>
  intro acc hl
  obtain ⟨n, k⟩ := x
  rw [List.forIn_cons]
  cases hk : (k == NameKind.free) with
  | true =>
   have hk' : k = .free := by simpa using hk
   subst hk'
   have hs := hl n (List.mem_cons_self ..)
   obtain ⟨a, ha⟩ := Option.isSome_iff_exists.mp hs
   have e1 : cellOf env n = pure a := by unfold cellOf; rw [ha]
   rw [db]
   simp only [hk, if_true, e1, ha, Option.getD_some]
   exact ih _ fun n hn => hl n (List.mem_cons_of_mem _ hn)
  | false =>
   rw [db]
   simp only [hk, Bool.false_eq_true, if_false]
   exact ih _ fun n hn => hl n (List.mem_cons_of_mem _ hn)
end Mine
namespace Mine
open PySem PySem.W PySem.Calls PyProof.Rows
theorem gq {cells : List (Str × Addr)} : ∀ {l : List (Str × NameKind)} {acc : List (Str × Addr)} {n : Str} {c : Addr}, (n, c) ∈ db cells l acc → (n, c) ∈ acc ∨ ((n, NameKind.free) ∈ l ∧ c = (cells.lookup n).getD 0)
 | [], acc, n, c, h => .inl h
 | (m, k) :: r, acc, n, c, h => by
  rw [db] at h
  rcases gq h with h1 | ⟨h1, h2⟩
  ·by_cases hk : (k == NameKind.free) = true
   ·rw [if_pos hk] at h1
    rcases List.mem_cons.mp h1 with h3 | h3
    ·have hk' : k = .free := by simpa using hk
     obtain ⟨e1, e2⟩ := Prod.mk.inj h3
     subst e1 hk'
     exact .inr ⟨List.mem_cons_self .., e2⟩
    ·exact .inl h3
   ·rw [if_neg hk] at h1; exact .inl h1
  ·exact .inr ⟨List.mem_cons_of_mem _ h1, h2⟩
theorem lI {cells : List (Str × Addr)} : ∀ {l : List (Str × NameKind)} {acc : List (Str × Addr)} {p : Str × Addr}, p ∈ acc → p ∈ db cells l acc
 | [], acc, p, h => h
 | (m, k) :: r, acc, p, h => by
  rw [db]
  refine lI ?_
  split
  ·exact List.mem_cons_of_mem _ h
  ·exact h
theorem lJ {cells : List (Str × Addr)} : ∀ {l : List (Str × NameKind)} {acc : List (Str × Addr)} {n : Str}, (n, NameKind.free) ∈ l → (n, (cells.lookup n).getD 0) ∈ db cells l acc
 | (m, k) :: r, acc, n, h => by
  rw [db]
  rcases List.mem_cons.mp h with e | h
  ·obtain ⟨e1, e2⟩ := Prod.mk.inj e
   subst e1 e2
   refine lI ?_
   rw [if_pos (by decide)]
   exact List.mem_cons_self ..
  ·exact lJ h
theorem eF {β : Type} : ∀ {l : List (Str × β)} {n : Str} {c : β}, (n, c) ∈ l → ∃ c', l.lookup n = some c'
 | (m, d) :: r, n, c, h => by
  by_cases q : (n == m) = true
  ·exact ⟨d, by rw [List.lookup_cons, q]⟩
  ·rcases List.mem_cons.mp h with e | h
   ·obtain ⟨e1, _⟩ := Prod.mk.inj e
    subst e1; exact absurd (beq_self_eq_true n) q
   ·obtain ⟨c', h'⟩ := eF h
    refine ⟨c', ?_⟩
    rw [List.lookup_cons]
    rw [Bool.not_eq_true] at q
    rw [q]; exact h'
theorem bU : ∀ (Γ xs : List Str) (y : Str), ah (Γ ++ xs) y = match ah xs y with | some j => some (Γ.length + j) | Option.none => ah Γ y
 | [], xs, y => by
  cases h : ah xs y with
  | none => simp [h, ah]
  | some j => simp [h]
 | x :: r, xs, y => by
  rw [List.cons_append, ah, bU r xs y]
  cases h : ah xs y with
  | none => simp [ah]
  | some j => simp; exact o97
theorem gU {Γ : List Str} {y : Str} {i : Nat} (h : ah Γ y = some i) : i < Γ.length := by
 have := bY h
 exact (List.getElem?_eq_some_iff.mp this).1
theorem fJ {Γ : List Str} {y : Str} : y ∉ Γ → ah Γ y = Option.none := by
 induction Γ with
 | nil => intro _; rfl
 | cons x r ih =>
  intro h
  rw [ah, ih (fun q => h (List.mem_cons_of_mem _ q))]
  simp only
  rw [if_neg]
  intro q
  exact h (by rw [beq_iff_eq.mp q]; exact List.mem_cons_self ..)
theorem d3 {env : Env} (hf : env.scope.kind = .function) : ∀ {names : List (Str × NameKind)} {x : Str}, names.lookup x = some .free → env.kindOf x = some .cell →
  (names.map fun (n, k) => if (k == NameKind.free && env.scope.kind == .function && env.kindOf n == some .cell) then (n, NameKind.cell) else (n, k)).lookup x = some .cell
 | [], _, h, _ => by simp at h
 | (n, k) :: r, x, h, hk => by
  have ih := @d3 env hf r x
  show List.lookup x ((if (k == NameKind.free && env.scope.kind == .function && env.kindOf n == some .cell) = true then (n, NameKind.cell) else (n, k)) :: _) = _
  cases hx : x == n with
  | true =>
   simp only [List.lookup_cons, hx] at h
   obtain rfl := Option.some.inj h
   have e : x = n := by simpa using hx
   subst e
   simp [List.lookup_cons, hf, hk]
  | false =>
   simp only [List.lookup_cons, hx] at h
   by_cases hc : (k == NameKind.free && env.scope.kind == .function && env.kindOf n == some .cell) = true
   ·rw [if_pos hc]; simp only [List.lookup_cons, hx]; exact ih h hk
   ·rw [if_neg hc]; simp only [List.lookup_cons, hx]; exact ih h hk
theorem eI {env : Env} : ∀ {names : List (Str × NameKind)} {x : Str}, names.lookup x = some .globalImplicit →
  (names.map fun (n, k) => if (k == NameKind.free && env.scope.kind == .function && env.kindOf n == some .cell) then (n, NameKind.cell) else (n, k)).lookup x = some .globalImplicit
 | [], _, h => by simp at h
 | (n, k) :: r, x, h => by
  have ih := @eI env r x
  show List.lookup x ((if (k == NameKind.free && env.scope.kind == .function && env.kindOf n == some .cell) = true then (n, NameKind.cell) else (n, k)) :: _) = _
  cases hx : x == n with
  | true =>
   simp only [List.lookup_cons, hx] at h
   obtain rfl := Option.some.inj h
   simp [List.lookup_cons, hx]
  | false =>
   simp only [List.lookup_cons, hx] at h
   by_cases hc : (k == NameKind.free && env.scope.kind == .function && env.kindOf n == some .cell) = true
   ·rw [if_pos hc]; simp only [List.lookup_cons, hx]; exact ih h
   ·rw [if_neg hc]; simp only [List.lookup_cons, hx]; exact ih h
structure CompOk (sc : List (Str × NameKind)) (Γ xs : List Str) (scope : Scope) : Prop where
 kind : scope.kind = .function
 tgt : ∀ x ∈ xs, scope.names.lookup x = some .local ∧ x ≠ (".0" : Str)
 nd : xs.Nodup
 names : ∀ y k, (y, k) ∈ scope.names → scope.names.lookup y = some k ∧ ((k = .local ∧ (y ∈ xs ∨ y = (".0" : Str))) ∨ (k = .free ∧ sc.lookup y = some .cell ∧ (ah Γ y).isSome = true ∧ y ∉ xs) ∨ k = .globalImplicit)
theorem CompOk.of {sc : List (Str × NameKind)} {Γ xs : List Str} {scope : Scope} (h : ll sc Γ xs scope = true) : CompOk sc Γ xs scope := by
 unfold ll at h
 simp only [Bool.and_eq_true, List.all_eq_true, beq_iff_eq, decide_eq_true_eq, Bool.not_eq_true', bne_iff_ne] at h
 obtain ⟨⟨⟨⟨⟨h1, _⟩, _⟩, h2⟩, h3⟩, h4⟩ := h
 refine ⟨h1, fun x hx => ⟨(h2 x hx).1, by simpa using (h2 x hx).2⟩, h3, fun y k hy => ?_⟩
 have := h4 (y, k) hy
 simp only [Bool.and_eq_true, beq_iff_eq] at this
 obtain ⟨a1, a2⟩ := this
 refine ⟨a1, ?_⟩
 cases k <;> simp at a2
 ·exact .inl ⟨rfl, a2⟩
 ·exact .inr (.inl ⟨rfl, a2.1.1, a2.1.2, a2.2⟩)
 ·exact .inr (.inr rfl)
section
variable {cx : Cx} {A : Around} {Γ xs : List Str} {sc : List (Str × NameKind)} {env : Env} {h₀ : Heap} {F F' : PH} {μ μ' : List Addr} {st : St} {h h' : Heap} {s : Shared} {scope : Scope}
theorem CompOk.free (co : CompOk sc Γ xs scope) {y : Str} {k : NameKind} (hl : scope.names.lookup y = some k) (hk : k = .cell ∨ k = .free) : (y, NameKind.free) ∈ scope.names ∧ sc.lookup y = some .cell ∧ (ah Γ y).isSome = true ∧ y ∉ xs := by
 have hm := mem_of_lookup hl
 obtain ⟨_, h2⟩ := co.names y k hm
 rcases h2 with ⟨e, _⟩ | ⟨e, r⟩ | e
 ·subst e; rcases hk with hk | hk <;> cases hk
 ·subst e; exact ⟨hm, r⟩
 ·subst e; rcases hk with hk | hk <;> cases hk
theorem EnvOk.comp (he : EnvOk Γ sc env) (co : CompOk sc Γ xs scope) (hcl : ∀ y, (y, NameKind.free) ∈ scope.names → ∃ c, env.cells.lookup y = some c) (C : Addr) : EnvOk (Γ ++ xs) scope.names (compEnvC scope (db env.cells scope.names []) C env) where
 kind := co.kind
 glob := he.glob
 bi := he.bi
 loc := fun x hx => lookup_relabel_local hx
 cel := fun x hx _ => by
  have : ∃ k, scope.names.lookup x = some k ∧ (k = .cell ∨ k = .free) := by rcases hx with h | h <;> exact ⟨_, h, by simp⟩
  obtain ⟨k, hk, hk'⟩ := this
  obtain ⟨h1, h2, h3, _⟩ := co.free hk hk'
  exact d3 he.kind (co.names x _ h1).1 (he.cel x (.inl h2) h3)
 gl := fun x hx => eI hx
 apart := fun n n' c h1 h2 => by
  have f1 := (gq h1).resolve_left (by simp)
  have f2 := (gq h2).resolve_left (by simp)
  have g : ∀ m, (m, NameKind.free) ∈ scope.names ∧ c = (env.cells.lookup m).getD 0 → (m, c) ∈ env.cells := fun m ⟨g1, g2⟩ => by
   obtain ⟨d, hd⟩ := hcl m g1
   rw [hd] at g2
   simp only [Option.getD_some] at g2
   subst g2
   exact mem_of_lookup hd
  exact he.apart _ _ _ (g _ f1) (g _ f2)
 dot := by
  rw [bU, fJ (fun q => (co.tgt _ q).2 rfl)]; exact he.dot
theorem lK (hcl : ∀ y, (y, NameKind.free) ∈ scope.names → ∃ c, env.cells.lookup y = some c) {n : Str} {c : Addr} (h : (n, c) ∈ db env.cells scope.names []) : env.cells.lookup n = some c := by
 obtain ⟨g1, g2⟩ := (gq h).resolve_left (by simp)
 obtain ⟨d, hd⟩ := hcl n g1
 rw [hd] at g2
 simp only [Option.getD_some] at g2
 subst g2
 exact hd
theorem mT (hcl : ∀ y, (y, NameKind.free) ∈ scope.names → ∃ c, env.cells.lookup y = some c) {y : Str} {c : Addr} (h : (y, NameKind.free) ∈ scope.names) (hc : env.cells.lookup y = some c) : (db env.cells scope.names []).lookup y = some c := by
 obtain ⟨c', h'⟩ := eF (lJ (cells := env.cells) (acc := []) h)
 have := lK hcl (mem_of_lookup h')
 rw [hc] at this; obtain rfl := Option.some.inj this; exact h'
theorem Ok.enter (k : Ok cx Γ sc env h₀ F μ st h) (co : CompOk sc Γ xs scope) (hcl : ∀ y, (y, NameKind.free) ∈ scope.names → ∃ c, env.cells.lookup y = some c) {C : Addr} (x : Off cx env h₀ F μ C) {m0 : Str → Option Value} (hn : h.Ns C m0)
  (hdot : ah Γ ".0" = Option.none) {loc : List (Option V)} (hloc : ∀ i, i < Γ.length → loc[i]? = st.loc[i]?) (hx : ∀ (i : Nat) (v : V), Γ.length ≤ i → i < Γ.length + xs.length → loc[i]? ≠ some (some v)) :
  Ok cx (Γ ++ xs) scope.names (compEnvC scope (db env.cells scope.names []) C env) h₀ F μ ⟨loc, st.cells⟩ h := by
 have sub : ∀ n c, (n, c) ∈ db env.cells scope.names [] → (n, c) ∈ env.cells := fun n c hm => mem_of_lookup (lK hcl hm)
 refine ⟨k.fz, x.f, fun n c hc => k.fC n c (sub n c hc), k.fM, k.fP, k.gF, k.keep, x.o, fun n c hc => k.nC n c (sub n c hc), k.nM, k.nP, k.nd, x.m, k.mP, x.p, fun n c hc => ⟨(k.cM n c (sub n c hc)).1, x.c n c (sub n c hc), (k.cM n c (sub n c hc)).2.2⟩,
  ⟨_, hn, fun y i v h1 h2 h3 => ?_⟩, fun y i h1 h2 => ?_, k.len, fun n c hc => k.ca n c (sub n c hc), k.ct, k.tab⟩
 ·obtain ⟨_, h4⟩ := co.names y _ (mem_of_lookup h1)
  rw [bU] at h2
  exfalso
  have h5 := fJ (Γ := Γ) (y := y)
  rcases h4 with ⟨_, h4⟩ | ⟨e, _⟩ | e
  ·cases hs : ah xs y with
   | some j =>
    rw [hs] at h2
    obtain rfl := Option.some.inj h2
    exact hx _ v (Nat.le_add_right _ _) (Nat.add_lt_add_left (gU hs) _) h3
   | none =>
    rw [hs] at h2
    rcases h4 with h4 | h4
    ·have : ∀ {l : List Str} {y : Str}, y ∈ l → ah l y ≠ Option.none := by
      intro l
      induction l with
      | nil => intro y hy; cases hy
      | cons a r ih =>
       intro y hy
       rw [ah]
       cases hr : ah r y with
       | some j => simp
       | none =>
        rcases List.mem_cons.mp hy with e | e
        ·subst e; simp
        ·exact absurd hr (ih e)
     exact this h4 hs
    ·subst h4
     exact absurd h2 (by simp only; rw [show ah Γ (".0" : Str) = Option.none from hdot]; simp)
  ·cases e
  ·cases e
 ·obtain ⟨k1, hk1, hk2⟩ : ∃ k, scope.names.lookup y = some k ∧ (k = .cell ∨ k = .free) := by rcases h1 with h | h <;> exact ⟨_, h, by simp⟩
  obtain ⟨f1, f2, f3, f4⟩ := co.free hk1 hk2
  rw [bU, fJ f4] at h2
  obtain ⟨c, ov, e1, e2, e3⟩ := k.cl y i (.inl f2) h2
  refine ⟨c, ov, mT hcl f1 e1, e2, fun v hv => e3 v ?_⟩
  rw [← hloc i (gU h2)]; exact hv
end
end Mine
namespace Mine
open PySem PySem.W PySem.Calls PyProof.Rows
section
variable {prog : Program} {w : World} {A : Around} {E : Value → Shared → Prop} {s : Shared}
set_option backward.match.sparseCases true in
theorem qu {elt target iter : Expr} {ifs : List Expr} {scope : Scope} {pos : Pos} {it acc : Value} {env : Env} {R : Result → Shared → Prop} (I : Nat → Shared → Prop)
  (turn : ∀ n s, I n s → wpAny (model prog w) A (pyNext it) (fun r s₁ => match r with
   | none => R (.ok .next) s₁
   | some v => wpAny (model prog w) A (letOwnedTupleGo target it v) (fun _ s₁' => wpAny (model prog w) A (assign target env v) (fun _ s₂ =>
     wpAny (model prog w) A (forIn ifs true fun c r => if r = true then do let ok ← isTrue c env (eval c env); pure (ForInStep.yield ok) else pure (ForInStep.yield r)) (fun ok s₃ =>
      if ok = true then wpAny (model prog w) A (eval elt env) (fun x s₄ =>
       wpAny (model prog w) A (call (.builtin "list.append") [acc, x]) (fun _ s₅ => ∃ m, m < n ∧ I m s₅) (notedBy (model prog w) A env fun e s' => R (.error e) s') s₄) (notedBy (model prog w) A env fun e s' => R (.error e) s') s₃
      else ∃ m, m < n ∧ I m s₃) (notedBy (model prog w) A env fun e s' => R (.error e) s') s₂) (notedBy (model prog w) A env fun e s' => R (.error e) s') s₁') (notedBy (model prog w) A env fun e s' => R (.error e) s') s₁) (notedBy (model prog w) A env fun e s' => R (.error e) s') s)
  (n : Nat) (h : I n s) :
  codeAny (model prog w) A (.compLoop (.ListComp elt [⟨target, iter, ifs, 0⟩] scope pos) 0 it acc env) R s := by
 refine codeAny_loop rfl I (fun n s hI => ?_) n h
 show wpAny _ A ((compTurn (.ListComp elt [⟨target, iter, ifs, 0⟩] scope pos) 0 it acc env).onRaise (fun x => do noteFrame x env; theTreesLotGoes x)) _ _ s
 refine wpAny_noted ?_
 rw [compTurn_list]
 refine wpAny_bind (wpAny_standAt (wpAny_bind (wpAny_mono (turn n s hI) (fun r s₁ h₁ => ?_) fun _ _ h' => h')))
 cases r with
 | none => exact wpAny_pure h₁
 | some v =>
  refine wpAny_bind (wpAny_mono h₁ (fun _ s₁' h₁' => ?_) fun _ _ h' => h')
  refine wpAny_bind (wpAny_mono h₁' (fun _ s₂ h₂ => wpAny_bind (wpAny_mono h₂ (fun ok s₃ h₃ => ?_) fun _ _ h' => h')) fun _ _ h' => h')
  cases ok with
  | false => exact wpAny_pure ⟨rfl, h₃⟩
  | true =>
   exact wpAny_bind (wpAny_bind (wpAny_mono h₃ (fun x s₄ h₄ => wpAny_bind (wpAny_mono h₄ (fun _ s₅ h₅ => wpAny_pure (wpAny_pure ⟨rfl, h₅⟩)) fun _ _ h' => h')) fun _ _ h' => h'))
end
section
variable {cx : Cx} {A : Around} {E : Value → Shared → Prop} {Γ xs : List Str} {sc : List (Str × NameKind)} {env : Env} {h₀ : Heap} {F : PH} {μ : List Addr} {st : St} {s : Shared} {scope : Scope}
inductive SBs (cx : Cx) (A : Around) (Γ : List Str) (sc : List (Str × NameKind)) (env : Env) (h₀ : Heap) : List Expr → List X → Prop
 | nil : SBs cx A Γ sc env h₀ [] []
 | cons {c r x l} : SB cx A Γ sc env h₀ (isTrue c env (eval c env)) x → SBs cx A Γ sc env h₀ r l → SBs cx A Γ sc env h₀ (c :: r) (x :: l)
theorem iq {M : Model} {Q : Bool → Shared → Prop} : ∀ (ifs : List Expr), Q false s → wpAny M A (forIn ifs false fun c r => if r = true then do let ok ← isTrue c env (eval c env); pure (ForInStep.yield ok) else pure (ForInStep.yield r)) Q E s
 | [], h => wpAny_pure h
 | c :: r, h => by
  rw [List.forIn_cons, if_neg (by decide)]
  exact wpAny_bind (wpAny_pure (iq r h))
theorem sO {ifs : List Expr} {l : List X} (ht : SBs cx A Γ sc env h₀ ifs l) : ∀ {F : PH} {μ : List Addr} {st : St} {s : Shared} {K : Bool → St → Prop} {Q : Bool → Shared → Prop} {E : Value → Shared → Prop},
  Ok cx Γ sc env h₀ F μ st s.heap → WTs cx.fns l K st → uG cx Γ sc env h₀ F μ s K Q →
  wpAny (model cx.prog cx.w) A (forIn ifs true fun c r => if r = true then do let ok ← isTrue c env (eval c env); pure (ForInStep.yield ok) else pure (ForInStep.yield r)) Q E s := by
 induction ht with
 | nil =>
  intro F μ st s K Q E k hw q
  exact wpAny_pure (q _ _ _ _ _ hw k Tr.refl)
 | @cons c r x l h1 h2 ih =>
  intro F μ st s K Q E k hw q
  rw [List.forIn_cons, if_pos rfl]
  refine wpAny_bind (wpAny_bind (h1 F μ st s _ _ E k hw fun ok st1 F1 μ1 s1 hw1 k1 t1 => wpAny_pure ?_))
  cases ok with
  | true =>
   exact ih k1 hw1 fun b st2 F2 μ2 s2 hw2 k2 t2 => q b st2 F2 μ2 s2 hw2 k2 (t1.trans t2)
  | false =>
   exact iq r (q _ _ _ _ _ hw1 k1 t1)
noncomputable def fh (two : Bool) : Expr → List Str → Prop := fun t xs => match two with
 | false => ∃ x px, t = .Name x px ∧ xs = [x]
 | true => ∃ x y px py ctx tp, t = .Tuple [.Name x px, .Name y py] ctx tp ∧ xs = [x, y]
theorem eG {α : Type} (l : List (Option α)) (i : Nat) (v : α) : (l.set i Option.none)[i]? ≠ some (some v) := by
 rw [List.getElem?_set]
 simp only [if_true]
 split <;> simp
noncomputable def dc (two : Bool) (n : Nat) (loc : List (Option V)) : List (Option V) := match two with
 | false => loc.set n Option.none
 | true => (loc.set n Option.none).set (n + 1) Option.none
theorem oL (two : Bool) (n : Nat) (loc : List (Option V)) (i : Nat) (h : i < n) : (dc two n loc)[i]? = loc[i]? := by
 cases two
 ·simp only [dc]; rw [List.getElem?_set_ne (wT h)]
 ·simp only [dc]; rw [List.getElem?_set_ne (Bs h), List.getElem?_set_ne (wT h)]
theorem mU (two : Bool) (n : Nat) (loc : List (Option V)) (i : Nat) (v : V) (h1 : n ≤ i) (h2 : i < n + (if two then 2 else 1)) : (dc two n loc)[i]? ≠ some (some v) := by
 cases two
 ·simp only [dc]
  have : i = n := by simp at h2; exact Br h2 h1
  subst this; exact eG _ _ _
 ·simp only [dc]
  simp at h2
  by_cases e : i = n + 1
  ·subst e; exact eG _ _ _
  ·have : i = n := o99 h2 h1 e
   subst this
   rw [List.getElem?_set_ne (o98)]; exact eG _ _ _
end
end Mine
namespace Mine
open PySem PySem.W PySem.Calls PyProof.Rows
section
variable {cx : Cx} {A : Around} {E : Value → Shared → Prop} {Γ xs : List Str} {sc : List (Str × NameKind)} {env : Env} {h₀ : Heap} {F : PH} {μ : List Addr} {st : St} {s : Shared} {scope : Scope}
theorem dM (he : EnvOk Γ sc env) (k : Ok cx Γ sc env h₀ F μ st s.heap) {x : Str} {i : Nat} {v : V} {r : Value} {Q : Unit → Shared → Prop} (hx : sc.lookup x = some .local ∨ sc.lookup x = some .cell) (hi : ah Γ x = some i) (hv : VR cx.sp F μ v r)
  (q : ∀ a h' tk, (a = env.locals ∨ ∃ n, (n, a) ∈ env.cells) → Heap.SameBut a s.heap h' → Ok cx Γ sc env h₀ F μ ⟨st.loc.set i (some v), st.cells⟩ h' → Q () { s with heap := h', toks := tk }) :
  wpAny (model cx.prog cx.w) A (storeName env x r) Q E s := by
 rcases hx with hx | hx
 ·obtain ⟨m, hm, _⟩ := k.ns
  exact wpAny_storeName_local (he.loc x hx) hm (fun h' hn hs => q _ h' _ (.inl rfl) hs (k.setL hi hx hv hm hn hs)) (by simp [he.kind])
 ·obtain ⟨c, ov, e1, e2, e3⟩ := k.cl x i (.inl hx) hi
  exact wpAny_storeName_cell he.kind (he.cel x (.inl hx) (by rw [hi]; rfl)) e1 e2 fun h' hn hs => q c h' s.toks (.inr ⟨x, mem_of_lookup e1⟩) hs (k.setC hi (.inl hx) he.apart hv e1 hn hs)
theorem VRs.two {sp : Addr} {F : PH} {μ : List Addr} {a b : V} {vs : List Value} (h : VRs sp F μ [a, b] vs) : ∃ x y, vs = [x, y] ∧ VR sp F μ a x ∧ VR sp F μ b y := by
 cases vs with
 | nil => exact h.elim
 | cons x vs => cases vs with
  | nil => exact h.2.elim
  | cons y vs => cases vs with
   | nil => exact ⟨x, y, rfl, h.1, h.2.1⟩
   | cons => exact h.2.2.elim
theorem qv (hh : A.handled = Option.none) {two : Bool} {t : Expr} (ht : fh two t xs) (hnd : xs.Nodup) (he : EnvOk (Γ ++ xs) scope.names env) (hl : ∀ x ∈ xs, scope.names.lookup x = some .local) {loc loc' : List (Option V)} {cells : List (List V)}
  (k : Ok cx (Γ ++ xs) scope.names env h₀ F μ ⟨dc two Γ.length loc, cells⟩ s.heap) {v : V} {r : Value} {I : Addr} {Q : Unit → Shared → Prop} (hv : VR cx.sp F μ v r) (hb : bindC two Γ.length v loc = some loc')
  (go : ∀ (Q : Unit → Shared → Prop) (E : Value → Shared → Prop) elts x1 pos T, Q () s → wpAny (model cx.prog cx.w) A (letOwnedTupleGo (.Tuple elts x1 pos) (.ref I) (.ref T)) Q E s)
  (q : ∀ h' tk, (∀ a o, a ≠ env.locals → s.heap.get? a = some o → h'.get? a = some o) → h'.get? env.locals ≠ Option.none → Ok cx (Γ ++ xs) scope.names env h₀ F μ ⟨loc', cells⟩ h' → Q () { s with heap := h', toks := tk }) :
  wpAny (model cx.prog cx.w) A (letOwnedTupleGo t (.ref I) r) (fun _ s' => wpAny (model cx.prog cx.w) A (assign t env r) Q E s') E s := by
 have hp : (env.scope.kind == .class || (env.scope.kind == .module && env.locals != env.globals)) = false := by simp [he.kind]
 cases two with
 | false =>
  obtain ⟨x, px, rfl, rfl⟩ := ht
  obtain rfl := Option.some.inj hb
  have hx := hl x (by simp)
  have hi : ah (Γ ++ [x]) x = some Γ.length := by rw [bU]; simp [ah]
  obtain ⟨m, hm, _⟩ := k.ns
  refine wpAny_of_eq (show letOwnedTupleGo (.Name x px) (.ref I) r = pure () from rfl) ?_
  refine wpAny_assign_Name (wpAny_storeName_local (he.loc x hx) hm (fun h' hn hs => q h' _ (fun a o ha e => hs.extBut a o ha e) (by obtain ⟨o, _, _, e, _⟩ := hn; rw [e]; simp) ?_) hp)
  have := k.setL hi hx hv hm hn hs
  simpa [dc, List.set_set] using this
 | true =>
  obtain ⟨x, y, px, py, ctx, tp, rfl, rfl⟩ := ht
  obtain ⟨⟨a, b⟩, e, rfl⟩ := Option.map_eq_some_iff.1 (show (kN v).map _ = some loc' from hb)
  obtain rfl := yr e
  obtain ⟨h1, T, vs, rfl, h2, h3⟩ := hv
  obtain ⟨ra, rb, rfl, va, vb⟩ := h3.two
  have htup : s.heap.IsTuple T #[ra, rb] := by
   obtain ⟨o, n, g1, g2, g3⟩ := h2; exact ⟨o, k.fz _ _ g1, g2, n, g3⟩
  refine go _ _ _ _ _ _ ?_
  refine wpAny_assign_Tuple hh htup rfl rfl fun h' hex => ?_
  have hxy : x ≠ y := by simpa using hnd
  have hix : ah (Γ ++ [x, y]) x = some Γ.length := by
   rw [bU]
   have : (y == x) = false := by simpa using fun q => hxy q.symm
   simp [ah, this]
  have hiy : ah (Γ ++ [x, y]) y = some (Γ.length + 1) := by rw [bU]; simp [ah]
  have hk0 : ∀ a o, s.heap.get? a = some o → h'.get? a = some o := fun a o e => hex a o (Nat.ne_of_lt (Heap.lt_size e)) e
  obtain ⟨k1, _⟩ := k.kept (t := s.toks) hk0
  obtain ⟨m1, hm1, _⟩ := k1.ns
  show wpAny _ _ (assignInOrder [assign (.Name x px) env, assign (.Name y py) env] [ra, rb]) _ _ _
  show wpAny _ _ (holding [rb] (assign (.Name x px) env ra) >>= fun _ => assignInOrder [assign (.Name y py) env] [rb]) _ _ _
  refine wpAny_bind (wpAny_holding (wpAny_assign_Name (wpAny_storeName_local (he.loc x (hl x (by simp))) hm1 (fun h2 hn2 hs2 => ?_) hp)))
  have k2 := k1.setL hix (hl x (by simp)) va hm1 hn2 hs2
  obtain ⟨m2, hm2, _⟩ := k2.ns
  show wpAny _ _ (holding [] (assign (.Name y py) env rb) >>= fun _ => pure ()) _ _ _
  refine wpAny_bind (wpAny_holding (wpAny_assign_Name (wpAny_storeName_local (he.loc y (hl y (by simp))) hm2 (fun h3 hn3 hs3 => ?_) hp)))
  have k3 := k2.setL hiy (hl y (by simp)) vb hm2 hn3 hs3
  refine wpAny_pure (q h3 _ (fun a o ha e => hs3.extBut a o ha (hs2.extBut a o ha (hk0 a o e))) (by obtain ⟨o, _, _, e, _⟩ := hn3; rw [e]; simp) ?_)
  have e : (((dc true Γ.length loc).set Γ.length (some a)).set (Γ.length + 1) (some b)) = (loc.set Γ.length (some a)).set (Γ.length + 1) (some b) := by
   simp only [dc]
   rw [List.set_comm _ _ (by exact o98 : Γ.length + 1 ≠ Γ.length), List.set_set, List.set_set]
  simp only [e] at k3
  exact k3
end
end Mine
namespace Mine
open PySem PySem.W PySem.Calls PyProof.Rows
section
variable {cx : Cx} {A : Around} {E : Value → Shared → Prop} {Γ xs : List Str} {sc : List (Str × NameKind)} {env : Env} {h₀ : Heap} {F : PH} {μ : List Addr} {st : St} {s : Shared} {scope : Scope}
theorem Ok.cellsOf (k : Ok cx Γ sc env h₀ F μ st s.heap) (co : CompOk sc Γ xs scope) : ∀ y, (y, NameKind.free) ∈ scope.names → ∃ c, env.cells.lookup y = some c := fun y hy => by
 obtain ⟨h1, h2⟩ := co.names y _ hy
 rcases h2 with ⟨e, _⟩ | ⟨_, h3, h4, _⟩ | e
 ·cases e
 ·obtain ⟨i, hi⟩ := Option.isSome_iff_exists.mp h4
  obtain ⟨c, ov, e1, _⟩ := k.cl y i (.inl h3) hi
  exact ⟨c, e1⟩
 ·cases e
structure Gq (cx : Cx) (A : Around) (Γ : List Str) (sc : List (Str × NameKind)) (env : Env) (h₀ : Heap) (Fs : PH) (μs : List Addr) (s : Shared) (loc : List (Option V)) (I C D : Addr) (St : Nat → Heap → Prop)
  (F1 : PH) (μ1 : List Addr) (i : Nat) (acc : List V) (cs : List (List V)) (s' : Shared) (F' : PH) (μ' : List Addr) : Prop where
 ok : Ok cx Γ sc env h₀ F' μ' ⟨loc, cs⟩ s'.heap
 tr : Tr cx.P Fs μs s F' μ' s'
 le : PLe F1 F'
 mu : μ1 <+: μ'
 st : St i s'.heap
 oI : Off cx env h₀ F' μ' I
 oC : Off cx env h₀ F' μ' C
 oD : Off cx env h₀ F' μ' D
 aI : s'.heap.get? I ≠ Option.none
 ns : ∃ m, s'.heap.Ns C m
 dl : ∃ ys : List Value, s'.heap.PlainList D ys.toArray ∧ VRs cx.sp F' μ' acc ys
 ln : acc.length ≤ i
theorem VRs.one {sp : Addr} {F : PH} {μ : List Addr} {v : V} {r : Value} (h : VR sp F μ v r) : VRs sp F μ [v] [r] := ⟨h, trivial⟩
theorem PlainList.ok {h h' : Heap} {a : Addr} {vs : Array Value} (x : h.PlainList a vs) (hk : ∀ o, h.get? a = some o → h'.get? a = some o) : h'.PlainList a vs := x.at hk
theorem PlainList.alive {h : Heap} {a : Addr} {vs : Array Value} (x : h.PlainList a vs) : h.get? a ≠ Option.none := by obtain ⟨n, e⟩ := x; rw [e]; simp
noncomputable def AQ (fns : Fns) (two : Bool) (slot : Nat) (e : X) (l : List X) (loc : List (Option V)) : V → (Option V → List (List V) → Prop) → List (List V) → Prop := fun x K' cs =>
 cu (bindC two slot x loc) fun loc => WTs fns l (fun b st' => if b = true then WE fns e (fun y st'' => K' (some y) st''.cells) st' else K' Option.none st'.cells) ⟨loc, cs⟩
theorem nA {two : Bool} {t elt iter : Expr} {ifs : List Expr} {pos : Pos} {e i : X} {l : List X} {use : Option (Value → Sem Unit)} {Q : Value → Shared → Prop} {K : V → St → Prop}
  (hh : A.handled = Option.none) (ht : fh two t xs) (he : EnvOk Γ sc env) (co : CompOk sc Γ xs scope) (hs : ∀ x, foldedSetIterable iter env x = pure x)
  (hiter : SE cx A Γ sc env h₀ (eval iter env) i)
  (helt : ∀ cl C, EnvOk (Γ ++ xs) scope.names (compEnvC scope cl C env) → SE cx A (Γ ++ xs) scope.names (compEnvC scope cl C env) h₀ (eval elt (compEnvC scope cl C env)) e)
  (hifs : ∀ cl C, EnvOk (Γ ++ xs) scope.names (compEnvC scope cl C env) → SBs cx A (Γ ++ xs) scope.names (compEnvC scope cl C env) h₀ ifs l)
  (k : Ok cx Γ sc env h₀ F μ st s.heap)
  (hw : WE cx.fns (.comp two Γ.length e i l) K st)
  (fin : ∀ l F' μ' st' s' D C, K (.lst l) st' → Ok cx Γ sc env h₀ F' μ' st' s'.heap → Tr cx.P F μ s F' μ' s' → VR cx.sp F' μ' (.lst l) (.ref D) → Off cx env h₀ F' μ' C → s.heap.get? C = Option.none → (∃ m, s'.heap.Ns C m) →
   compPost (model cx.prog cx.w) A E use Q (.ref D) C (.ok .next) s') :
  wpAny (model cx.prog cx.w) A (comprehension (.ListComp elt [⟨t, iter, ifs, 0⟩] scope pos) scope env (firstIterPos [⟨t, iter, ifs, 0⟩] pos) (newList []) false (eval iter env) use) Q E s := by
 have hcl := k.cellsOf co
 refine wpAny_comprehension_free rfl hs (i4 fun n hn => by obtain ⟨c, e⟩ := hcl n hn; rw [e]; rfl) co.kind (fun x hx hl => (co.names x.1 x.2 hx).1.trans (by rw [hl])) ?_
 refine hiter F μ st s _ _ E k hw fun v st1 F1 μ1 s1 rv hw1 k1 t1 vv => ?_
 obtain ⟨items, hit, hlen, hw1⟩ := dR hw1
 refine nz hh k1 vv hit fun I St o hI itr hfr st0 => ?_
 have hI1 : s1.heap.get? I = Option.none := by rw [hI]; exact bu _
 obtain ⟨k2, t2⟩ := k1.waste o (t := s1.toks)
 refine wpAny_newObj_type (wpAny_newFunctionEnv (fun y hy q => by
  obtain ⟨_, h2⟩ := co.names y.1 y.2 hy
  rw [q] at h2
  rcases h2 with ⟨h, _⟩ | ⟨h, _⟩ | h <;> cases h) (by intro y hy; simp at hy) (fun h₁ hns₁ hsb₁ => ?_) co.kind)
 dsimp only at hns₁ hsb₁ ⊢
 generalize hS2 : s1.heap.push o = H2 at *
 generalize hS3 : H2.push { cls := .type "list", dict := Option.none, data := .seq ([] : List Value).toArray } = H3 at *
 have aI2 : H2.get? I ≠ Option.none := by rw [← hS2, hI, Heap.get?_push_size _ hfr]; simp
 have old2 : ∀ a o', s1.heap.get? a = some o' → H2.get? a = some o' := fun a o' e => hS2 ▸ Heap.get?_push_of_some _ e
 have old3 : ∀ a o', H2.get? a = some o' → H3.get? a = some o' := fun a o' e => hS3 ▸ Heap.get?_push_of_some _ e
 have hD3 : H3.PlainList H2.objs.size #[] := ⟨_, hS3 ▸ Heap.get?_push_size _ rfl⟩
 have nD2 : H2.get? H2.objs.size = Option.none := bu _
 have nC3 : H3.get? H3.objs.size = Option.none := bu _
 have old4 : ∀ a o', H3.get? a = some o' → h₁.get? a = some o' := fun a o' e => hsb₁.extBut a o' (fun q => by rw [q, nC3] at e; exact ab e) (Heap.get?_push_of_some _ e)
 have old : ∀ a o', s1.heap.get? a = some o' → h₁.get? a = some o' := fun a o' e => old4 a o' (old3 a o' (old2 a o' e))
 obtain ⟨k4, t4⟩ := k1.kept (t := s1.toks) old
 have hDC : H2.objs.size ≠ H3.objs.size := by rw [← hS3, Heap.size_push]; exact Bu
 have nC1 : s1.heap.get? H3.objs.size = Option.none := by
  cases e : s1.heap.get? H3.objs.size with
  | none => rfl
  | some o' => rw [old3 _ _ (old2 _ _ e)] at nC3; exact cn nC3
 have nD1 : s1.heap.get? H2.objs.size = Option.none := by
  cases e : s1.heap.get? H2.objs.size with
  | none => rfl
  | some o' => rw [old2 _ _ e] at nD2; cases nD2
 have dead : ∀ a, s1.heap.get? a = Option.none → s.heap.get? a = Option.none := fun a h => Classical.byContradiction fun q => t1.alive a q h
 have hIC : I ≠ H3.objs.size := fun q => by
  cases e : H2.get? I with
  | none => exact aI2 e
  | some o' => have := old3 _ _ e; rw [q, nC3] at this; cases this
 have hID : I ≠ H2.objs.size := fun q => aI2 (q ▸ nD2)
 have offI : Off cx env h₀ F1 μ1 I := Off.fresh k1 hI1
 have offC : Off cx env h₀ F1 μ1 H3.objs.size := Off.fresh k1 nC1
 have offD : Off cx env h₀ F1 μ1 H2.objs.size := Off.fresh k1 nD1
 have aI4 : h₁.get? I ≠ Option.none := by
  cases e : H2.get? I with
  | none => exact absurd e aI2
  | some o' => rw [old4 _ _ (old3 _ _ e)]; simp
 have st4 : St 0 h₁ := itr.frame _ _ _ st0 fun b hb o' e => old4 _ _ (old3 _ _ e)
 generalize hcl' : db env.cells scope.names [] = cl
 have hE : EnvOk (Γ ++ xs) scope.names (compEnvC scope cl H3.objs.size env) := hcl' ▸ he.comp co hcl _
 have loop : codeAny (model cx.prog cx.w) A (.compLoop (.ListComp elt [⟨t, iter, ifs, 0⟩] scope pos) 0 (.ref I) (.ref H2.objs.size) (compEnvC scope cl H3.objs.size env))
   (compPost (model cx.prog cx.w) A E use Q (.ref H2.objs.size) H3.objs.size) { s1 with heap := h₁, toks := s1.toks + ([] : List (Str × Value)).length } := by
  refine qu (fun n s' => ∃ i acc cs F' μ', i ≤ items.length ∧ n = items.length - i ∧ Gq cx A Γ sc env h₀ F μ s st1.loc I H3.objs.size H2.objs.size St F1 μ1 i acc cs s' F' μ' ∧
   bC (AQ cx.fns two Γ.length e l st1.loc) (items.drop i) acc (fun l cs => K (.lst l) ⟨st1.loc, cs⟩) cs) ?_ items.length
   ⟨0, [], st1.cells, F1, μ1, Nat.zero_le _, rfl, ⟨k4, t1.trans t4, fun _ _ e => e, List.prefix_refl _, st4, offI, offC, offD, aI4, ⟨_, hns₁⟩, ⟨[], PlainList.ok hD3 fun o' e => old4 _ _ e, trivial⟩, Nat.le_refl _⟩, hw1⟩
  rintro n s' ⟨i, acc, cs, F', μ', hi, rfl, inv, hcw⟩
  obtain ⟨ok, tr, le, mu, sti, oI, oC, oD, aI, ⟨mC, hmC⟩, ⟨ys, hys, vys⟩, hln⟩ := inv
  by_cases hlt : i < items.length
  ·rw [List.drop_eq_getElem_cons hlt, bC] at hcw
   obtain ⟨loc', hbind, hcw⟩ := dR hcw
   refine itr.item i s' _ _ items[i] (by simp [hlt]) sti fun r h' tk vr st' hk aI' => ?_
   have hk' : ∀ a o, a ≠ I → s'.heap.get? a = some o → h'.get? a = some o := hk
   have ok1 := ok.touch oI hk'
   have hnC : h'.Ns H3.objs.size mC := hmC.at' fun o e => hk _ o (Ne.symm hIC) e
   have kin := ok1.enter co hcl oC hnC he.dot (loc := dc two Γ.length st1.loc) (fun j hj => oL _ _ _ _ hj) (fun j v h1 h2 => mU _ _ _ _ _ h1 (by
    cases two
    ·obtain ⟨x, px, _, rfl⟩ := ht; simpa using h2
    ·obtain ⟨x, y, px, py, c1, tp, _, rfl⟩ := ht; simpa using h2))
   rw [hcl'] at kin
   refine qv (env := compEnvC scope cl H3.objs.size env) hh ht co.nd hE (fun x hx => (co.tgt x hx).1) (s := { s' with heap := h', toks := tk }) kin (vr.mono le mu) hbind (fun Q E el x1 p T hq => itr.go (i + 1) _ Q E el x1 p T st' hq) fun h2 tk2 hk2 aC2 kin2 => ?_
   have hk2' : ∀ a o, a ≠ H3.objs.size → h'.get? a = some o → h2.get? a = some o := hk2
   have ok2 := ok1.touch oC hk2'
   have tr2 : Tr cx.P F μ s F' μ' { s' with heap := h2, toks := tk2 } := Tr.touch (Tr.touch (tk := tk) tr (dead _ hI1) hk') (dead _ nC1) hk2'
   have hkk : ∀ a o, a ≠ I → a ≠ H3.objs.size → s'.heap.get? a = some o → h2.get? a = some o := fun a o h1 h3 e => hk2' a o h3 (hk' a o h1 e)
   have hys2 : h2.PlainList H2.objs.size ys.toArray := PlainList.ok hys fun o e => hkk _ o (Ne.symm hID) hDC e
   have aI2' : h2.get? I ≠ Option.none := by
    cases e : h'.get? I with
    | none => exact absurd e aI'
    | some o' => rw [hk2' _ _ hIC e]; simp
   have st2 : St (i + 1) h2 := itr.frame _ _ _ st' fun b hb o' e => hk2' b o' (fun q => by
    rcases hb with hb | hb
    ·exact hIC (hb.symm.trans q)
    ·have : F' b ≠ Option.none := by
      cases e3 : F1 b with
      | none => exact absurd e3 hb
      | some o3 => rw [le _ _ e3]; simp
     rw [q, oC.f] at this; exact this rfl) e
   refine sO (hifs cl H3.objs.size hE) (s := { s' with heap := h2, toks := tk2 }) kin2 hcw fun b st3 F3 μ3 s3 hw3 k3 t3 => ?_
   have frI : ∀ {Fa : PH} {μa : List Addr} {sa : Shared}, PLe F1 Fa → Tr cx.P F' μ' { s' with heap := h2, toks := tk2 } Fa μa sa → St (i + 1) sa.heap ∧ sa.heap.get? I ≠ Option.none ∧ sa.heap.PlainList H2.objs.size ys.toArray ∧ Off cx env h₀ Fa μa I ∧ Off cx env h₀ Fa μa H3.objs.size ∧ Off cx env h₀ Fa μa H2.objs.size ∧ (sa.heap.get? H3.objs.size ≠ Option.none) := fun {Fa μa sa} hle ta =>
    ⟨itr.frame _ _ _ st2 fun b hb o' e => ta.keep b o' e (fun q => by
      rcases hb with hb | hb
      ·exact oI.m (hb ▸ q)
      ·have := ok.fM b q
       cases e3 : F1 b with
       | none => exact hb e3
       | some o3 => rw [le _ _ e3] at this; exact cn this) (fun q => by
      rcases hb with hb | hb
      ·exact oI.p (hb.symm.trans q)
      ·have := ok.fP
       rw [← q] at this
       cases e3 : F1 b with
       | none => exact hb e3
       | some o3 => rw [le _ _ e3] at this; exact cn this),
     ta.alive I aI2', PlainList.ok hys2 fun o e => ta.keep _ o e oD.m oD.p, oI.tr ta aI2', oC.tr ta aC2, oD.tr ta (PlainList.alive hys2), ta.alive _ aC2⟩
   have nsOf : ∀ {Fa : PH} {μa : List Addr} {sa : Shared} {sta : Mine.St}, Ok cx (Γ ++ xs) scope.names (compEnvC scope cl H3.objs.size env) h₀ Fa μa sta sa.heap → ∃ m, sa.heap.Ns H3.objs.size m := fun ka => by
    obtain ⟨m, hm, _⟩ := ka.ns; exact ⟨m, hm⟩
   have F1le : ∀ {Fa : PH} {μa : List Addr} {sa : Shared}, Tr cx.P F' μ' { s' with heap := h2, toks := tk2 } Fa μa sa → PLe F1 Fa := fun ta a o e => ta.le a o (le a o e)
   cases b with
   | false =>
    obtain ⟨g1, g2, g3, g4, g5, g6, g7⟩ := frI (F1le t3) t3
    refine ⟨items.length - (i + 1), rS hlt, i + 1, acc, st3.cells, F3, μ3, hlt, rfl, ⟨Ok.back (st := ⟨st1.loc, cs⟩) ok2 t3 k3, tr2.trans t3, F1le t3, mu.trans t3.mu, g1, g4, g5, g6, g2, nsOf k3, ⟨ys, g3, vys.mono t3.le t3.mu⟩, o75 hln⟩, ?_⟩
    simpa using hw3
   | true =>
    refine helt cl H3.objs.size hE F3 μ3 st3 s3 _ _ _ k3 hw3 fun y st5 F5 μ5 s5 ry hw5 k5 t5 vy => ?_
    have t35 := t3.trans t5
    obtain ⟨g1, g2, g3, g4, g5, g6, g7⟩ := frI (F1le t35) t35
    have ok5 := Ok.back (st := ⟨st1.loc, cs⟩) ok2 t35 k5
    have hyl := vys.length
    refine wpAny_list_append_plain g3 (fun h6 hp6 hs6 => ?_) (by simp only [List.size_toArray]; rw [hyl]; exact bo (Bt hlt hlen hyl hln))
    have hk6 : ∀ a o, a ≠ H2.objs.size → s5.heap.get? a = some o → h6.get? a = some o := fun a o ha e => hs6.extBut a o ha e
    have nsC := nsOf k5
    refine ⟨items.length - (i + 1), rS hlt, i + 1, acc ++ [y], st5.cells, F5, μ5, hlt, rfl, ⟨ok5.touch g6 hk6, Tr.touch (tr2.trans t35) (dead _ nD1) hk6, F1le t35, mu.trans t35.mu, ?_, g4, g5, g6, ?_, ?_, ⟨ys ++ [ry], ?_, (vys.mono t35.le t35.mu).append (VRs.one vy)⟩, by simp; exact k8 hln⟩, hw5⟩
    ·exact itr.frame _ _ _ g1 fun b hb o' e => hk6 b o' (fun q => by
      rcases hb with hb | hb
      ·exact hID (hb.symm.trans q)
      ·have := g6.f
       rw [← q] at this
       cases e3 : F1 b with
       | none => exact hb e3
       | some o3 => rw [F1le t35 _ _ e3] at this; exact cn this) e
    ·cases e : s5.heap.get? I with
     | none => exact absurd e g2
     | some o' => rw [hk6 _ _ hID e]; simp
    ·obtain ⟨m, hm⟩ := nsC
     exact ⟨m, hm.at' fun o e => hk6 _ o (Ne.symm hDC) e⟩
    ·have : ys.toArray.push ry = (ys ++ [ry]).toArray := by simp
     rw [this] at hp6; exact hp6
  ·have hin : i = items.length := wU hi hlt
   subst hin
   rw [List.drop_length, bC] at hcw
   refine itr.done s' _ _ sti fun h' tk hk => ?_
   have hk' : ∀ a o, a ≠ I → s'.heap.get? a = some o → h'.get? a = some o := hk
   have ok1 := ok.touch oI hk'
   have hp1 : h'.PlainList H2.objs.size ys.toArray := PlainList.ok hys fun o e => hk' _ o (Ne.symm hID) e
   obtain ⟨nD, hD⟩ := hp1
   have ok2 := ok1.freeze oD hD
   have tr2 := Tr.freeze (o := { cls := .type "list", data := .seq ys.toArray nD }) (Tr.touch (tk := tk) tr (dead _ hI1) hk') (dead _ nD1) oD.f
   have leF : PLe F' (PH.upd F' H2.objs.size { cls := .type "list", data := .seq ys.toArray nD }) := fun a o' e => by
    have : a ≠ H2.objs.size := fun q => by rw [q, oD.f] at e; exact ab e
    simp [PH.upd, this, e]
   refine fin acc _ μ' ⟨st1.loc, cs⟩ { s' with heap := h', toks := tk } H2.objs.size H3.objs.size hcw ok2 tr2 ⟨Nat.le_trans hln hlen, _, ys, rfl, ⟨_, _, PH.upd_self, rfl, rfl⟩, vys.mono leF (List.prefix_refl _)⟩
    ⟨by simp [PH.upd, Ne.symm hDC, oC.f], oC.m, oC.l, oC.p, oC.c, oC.o⟩ (dead _ nC1) ⟨mC, hmC.at' fun o e => hk' _ o (Ne.symm hIC) e⟩
 exact codeAny_compStart_list loop (itr.self 0 { s1 with heap := h₁, toks := s1.toks + ([] : List (Str × Value)).length } _ _ st4 loop)
end
end Mine
namespace Mine
open PySem PySem.W PySem.Calls PyProof.Rows
structure d4 (e : Expr) : Prop where
 star : ∀ rest env, starEach (e :: rest) env = (false, eval e env) :: starEach rest env
 mark : ∀ op, behindInMarks op e = false
 fold : ∀ env x, foldedSetIterable e env x = pure x
theorem cH {sp : Bool} {n : Nat} {Γ : List Str} {sc : List (Str × NameKind)} {e : Expr} {x : X} (h : cE sp n Γ sc e = some x) : d4 e := by
 cases n with
 | zero => exact ab h
 | succ n =>
  cases e with
  | Starred a b => exact ab h
  | Set a b c => exact ab h
  | _ => exact ⟨fun _ _ => rfl, fun _ => rfl, fun _ _ => rfl⟩
noncomputable def aZ (cx : Cx) (x : Str) (v : Value) : Prop := ∀ (env : Env) (A : Around) (s : Shared) (pos : Pos) (Q E : Value → Shared → Prop), env.scope.kind = .function → env.globals = mainGlobals → env.builtins = builtinsNs →
 env.kindOf x = some .globalImplicit → (∀ a o, cx.g.get? a = some o → s.heap.get? a = some o) → Q v s → wpAny (model cx.prog cx.w) A (eval (.Name x pos) env) Q E s
section
variable {M : Model} {A : Around} {E : Value → Shared → Prop} {s : Shared}
theorem eu {f : Value} : ∀ {l : List (Bool × Sem Value)} {Q : Args → Shared → Prop}, l.any (·.1) = false → wpAny M A (spliced l) (fun vs s' => Q ⟨vs, []⟩ s') E s → wpAny M A (evalArgs f true l []) Q E s
 | [], Q, _, h => by
  unfold evalArgs
  show wpAny M A (spliced [] >>= _) Q E s
  refine wpAny_bind (wpAny_mono h (fun vs s' h' => ?_) fun _ _ x => x)
  refine wpAny_bind (wpAny_pure ?_)
  refine wpAny_holding ?_
  exact wpAny_bind (wpAny_pure (wpAny_bind (wpAny_pure (wpAny_pure h'))))
 | (false, x) :: rest, Q, _, h => evalArgs_plain h
 | (true, x) :: rest, Q, hp, _ => by simp at hp
theorem dE {pos : Pos} {id : String} {first : List Value} {l : List (Bool × Sem Value)} {Q : Value → Shared → Prop} (hp : l.any (·.1) = false) (h : wpAny M A (spliced l) (fun vs s' => wpAny M A (call (.builtin id) (first ++ vs)) Q E s') E s) :
  wpAny M A (callWith pos (.builtin id) first l []) Q E s := callWith_builtin hp (eu hp h)
theorem mV {pos : Pos} {T : String} {l : List (Bool × Sem Value)} {Q : Value → Shared → Prop} (hp : l.any (·.1) = false) (h : wpAny M A (spliced l) (fun vs s' => wpAny M A (call (.type T) vs) Q E s') E s) :
  wpAny M A (callWith pos (.type T) [] l []) Q E s := PyProof.Rows.callWith_type hp (eu hp h)
theorem mW {pos : Pos} {a : Addr} {l : List (Bool × Sem Value)} {Q : Value → Shared → Prop} (hp : l.any (·.1) = false)
  (h : wpAny M A (spliced l) (fun vs s' => (∃ o fd, s'.heap.get? a = some o ∧ o.data = .func fd) ∧ wpAny M A (call (.ref a) vs) Q E s') E s) :
  wpAny M A (callWith pos (.ref a) [] l []) Q E s :=
 callWith_of (P := fun h => ∃ o fd, h.get? a = some o ∧ o.data = .func fd) (by simp [hp]) (fun h ⟨o, fd, e1, e2⟩ => ⟨.frame, .inl rfl, (Looks.ld (part := Option.none) e1).andThen (by rw [e2]; exact .now)⟩) (eu hp h)
end
section
variable {cx : Cx} {A : Around} {Γ : List Str} {sc : List (Str × NameKind)} {env : Env} {h₀ : Heap}
noncomputable def SA (cx : Cx) (A : Around) (Γ : List Str) (sc : List (Str × NameKind)) (env : Env) (h₀ : Heap) (es : List Expr) (xs : List X) (ex : List Value → Prop) : Prop :=
 (∀ pos, (backTo pos (starEach es env)).any (·.1) = false) ∧
 ∀ (pos : Pos) (F : PH) (μ : List Addr) (st : St) (s : Shared) (K : List V → St → Prop) (Q : List Value → Shared → Prop) (E : Value → Shared → Prop),
  Ok cx Γ sc env h₀ F μ st s.heap → WEs cx.fns xs K st →
  (∀ vs st' F' μ' s' rs tl, K vs st' → Ok cx Γ sc env h₀ F' μ' st' s'.heap → Tr cx.P F μ s F' μ' s' → VRs cx.sp F' μ' vs rs → ex tl → vs.length = xs.length → Q (rs ++ tl) s') →
  wpAny (model cx.prog cx.w) A (spliced (backTo pos (starEach es env))) Q E s
theorem SA.nil : SA cx A Γ sc env h₀ [] [] (· = []) :=
 ⟨fun _ => rfl, fun pos F μ st s K Q E k hw q => spliced_nil (q [] st F μ s [] [] hw k Tr.refl trivial rfl rfl)⟩
theorem SA.cons {e : Expr} {x : X} {es : List Expr} {xs : List X} {ex : List Value → Prop} (fe : d4 e) (he : SE cx A Γ sc env h₀ (eval e env) x) (hr : SA cx A Γ sc env h₀ es xs ex) : SA cx A Γ sc env h₀ (e :: es) (x :: xs) ex := by
 refine ⟨fun pos => ?_, fun pos F μ st s K Q E k hw q => ?_⟩
 ·rw [fe.star]
  show (false || (backTo pos (starEach es env)).any (·.1)) = false
  rw [hr.1 pos]; rfl
 ·rw [fe.star]
  refine spliced_cons (he F μ st s _ _ E k hw fun v st1 F1 μ1 s1 r hw1 k1 t1 vr => ?_)
  refine hr.2 pos F1 μ1 st1 s1 _ _ E k1 hw1 fun vs st2 F2 μ2 s2 rs tl hw2 k2 t2 vrs htl hlen => ?_
  exact q (v :: vs) st2 F2 μ2 s2 (r :: rs) tl hw2 k2 (t1.trans t2) (show VRs cx.sp F2 μ2 (v :: vs) (r :: rs) from ⟨vr.mono t2.le t2.mu, vrs⟩) htl (by rw [List.length_cons, List.length_cons, hlen])
theorem SA.int {i : Int} {k' : Nat} {p : Pos} : SA cx A Γ sc env h₀ [.Constant (.int i) k' p] [] (fun tl => ∃ t, tl = [.int i t]) :=
 ⟨fun _ => rfl, fun pos F μ st s K Q E k hw q => spliced_cons (wpAny_Constant_int (k := k') (pos := p) (spliced_nil (q [] st F μ _ [] _ hw k Tr.tok trivial ⟨_, rfl⟩ rfl)))⟩
theorem SA.name {x : Str} {v : Value} {p : Pos} (he : EnvOk Γ sc env) (hn : aZ cx x v) (hx : sc.lookup x = some .globalImplicit) : SA cx A Γ sc env h₀ [.Name x p] [] (· = [v]) :=
 ⟨fun _ => rfl, fun pos F μ st s K Q E k hw q => spliced_cons (hn env A s p _ E he.kind he.glob he.bi (he.gl x hx) (fun a o e => k.fz _ _ (k.gF a o e)) (spliced_nil (q [] st F μ s [] _ hw k Tr.refl trivial rfl rfl)))⟩
noncomputable def cz (cx : Cx) (A : Around) (g : G) (f : Value) (ex : List Value → Prop) : Prop :=
 ∀ (Γ : List Str) (sc : List (Str × NameKind)) (env : Env) (h₀ : Heap) (F : PH) (μ : List Addr) (st : St) (s : Shared) (K : V → Prop) (Q E : Value → Shared → Prop) (vs : List V) (rs tl : List Value),
  Ok cx Γ sc env h₀ F μ st s.heap → VRs cx.sp F μ vs rs → ex tl → bB cx.fns st.cells g vs K → Post cx Γ sc env h₀ F μ st s K Q → wpAny (model cx.prog cx.w) A (call f (rs ++ tl)) Q E s
noncomputable def i5 (cx : Cx) (f : Value) : Prop := (∃ id, f = .builtin id) ∨ (∃ T, f = .type T) ∨ (∃ a o fd, f = .ref a ∧ cx.g.get? a = some o ∧ o.data = .func fd)
theorem hX {x : Str} {f : Value} {g : G} {es : List Expr} {xs : List X} {ex : List Value → Prop} {p pos : Pos} (he : EnvOk Γ sc env) (hx : sc.lookup x = some .globalImplicit) (hn : aZ cx x f) (hf : i5 cx f)
  (ha : SA cx A Γ sc env h₀ es xs ex) (hc : cz cx A g f ex) : SE cx A Γ sc env h₀ (eval (.Call (.Name x p) es [] pos) env) (.call g xs) := by
 intro F μ st s K Q E k hw q
 refine Call_Name rfl (hn env A s p _ E he.kind he.glob he.bi (he.gl x hx) (fun a o e => k.fz _ _ (k.gF a o e)) ?_)
 have main : wpAny (model cx.prog cx.w) A (spliced (backTo pos (starEach es env))) (fun vs s' => (∀ a o, cx.g.get? a = some o → s'.heap.get? a = some o) ∧ wpAny (model cx.prog cx.w) A (call f vs) Q E s') E s :=
  ha.2 pos F μ st s _ _ E k hw fun vs st1 F1 μ1 s1 rs tl hw1 k1 t1 vrs htl _ => ⟨fun a o e => k1.fz _ _ (k1.gF a o e),
   hc Γ sc env h₀ F1 μ1 st1 s1 _ Q E vs rs tl k1 vrs htl hw1 fun v F2 s2 r hv k2 t2 vr => q v st1 F2 μ1 s2 r hv k2 (t1.trans t2) vr⟩
 rcases hf with ⟨id, rfl⟩ | ⟨T, rfl⟩ | ⟨a, o, fd, rfl, h1, h2⟩
 ·exact dE (ha.1 pos) (wpAny_mono main (fun vs s' h => h.2) fun _ _ x => x)
 ·exact mV (ha.1 pos) (wpAny_mono main (fun vs s' h => h.2) fun _ _ x => x)
 ·exact mW (ha.1 pos) (wpAny_mono main (fun vs s' h => ⟨⟨o, fd, h.1 _ _ h1, h2⟩, h.2⟩) fun _ _ x => x)
end
end Mine
namespace Mine
open PySem PySem.W PySem.Calls PyProof.Rows
noncomputable def uH : Mt → Str
 | .find => "find" | .replace => "replace" | .join => "join" | .splitlines => "splitlines" | .rstrip => "rstrip" | .endswith => "endswith" | .translate => "translate" | .append => "append" | .extend => "extend"
noncomputable def mId : Mt → String
 | .find => "str.find" | .replace => "str.replace" | .join => "str.join" | .splitlines => "str.splitlines" | .rstrip => "str.rstrip" | .endswith => "str.endswith" | .translate => "str.translate" | .append => "list.append" | .extend => "list.extend"
noncomputable def mTy : Mt → String
 | .append | .extend => "list"
 | _ => "str"
theorem qw {x : Str} {m : Mt} (h : jM x = some m) : x = uH m := by
 unfold jM at h
 repeat' split at h
 all_goals (first | cases h; (rename_i e; exact beq_iff_eq.mp e) | cases h)
theorem vp : typeOf (.builtin "str.translate") = pure (.type "method_descriptor") := by show builtinType _ = _; rw [builtinType_eq_fast]; kernel_rfl
theorem sP : typeOf (.builtin "list.extend") = pure (.type "method_descriptor") := by show builtinType _ = _; rw [builtinType_eq_fast]; kernel_rfl
theorem vt : ∀ m : Mt, PlainAttrs (mTy m) ∧ Slot (mTy m) (uH m) (mId m) ∧ typeOf (.builtin (mId m)) = pure (.type "method_descriptor")
 | .find => ⟨PySem.F.plainAttrs_str, PySem.F.slot_str_find, PySem.F.type_str_find⟩
 | .replace => ⟨PySem.F.plainAttrs_str, PySem.F.slot_str_replace, PySem.F.type_str_replace⟩
 | .join => ⟨PySem.F.plainAttrs_str, PySem.F.slot_str_join, PySem.F.type_str_join⟩
 | .splitlines => ⟨PySem.F.plainAttrs_str, PySem.F.slot_str_splitlines, PySem.F.type_str_splitlines⟩
 | .rstrip => ⟨PySem.F.plainAttrs_str, PySem.F.slot_str_rstrip, PySem.F.type_str_rstrip⟩
 | .endswith => ⟨PySem.F.plainAttrs_str, PySem.F.slot_str_endswith, PySem.F.type_str_endswith⟩
 | .translate => ⟨PySem.F.plainAttrs_str, nw, vp⟩
 | .append => ⟨PySem.F.plainAttrs_list, PySem.F.slot_list_append, PySem.F.type_list_append⟩
 | .extend => ⟨PySem.F.plainAttrs_list, PySem.F.slot_list_extend, sP⟩
section
variable {cx : Cx} {A : Around} {E : Value → Shared → Prop} {Γ : List Str} {sc : List (Str × NameKind)} {env : Env} {h₀ : Heap} {F F' : PH} {μ : List Addr} {st : St} {s : Shared} {Q : Value → Shared → Prop}
abbrev AR (cx : Cx) (Γ : List Str) (sc : List (Str × NameKind)) (env : Env) (h₀ : Heap) (F : PH) (μ : List Addr) (st : St) (s : Shared) (K : V → List (List V) → Prop) (Q : Value → Shared → Prop) : Prop :=
 ∀ v cs F' μ' s' r, K v cs → Ok cx Γ sc env h₀ F' μ' ⟨st.loc, cs⟩ s'.heap → Tr cx.P F μ s F' μ' s' → VR cx.sp F' μ' v r → Q r s'
theorem VRs.nilI {sp : Addr} {rs : List Value} (h : VRs sp F μ [] rs) : rs = [] := by cases rs with | nil => rfl | cons a r => exact h.elim
theorem VRs.consI {sp : Addr} {v : V} {vs : List V} {rs : List Value} (h : VRs sp F μ (v :: vs) rs) : ∃ r rs', rs = r :: rs' ∧ VR sp F μ v r ∧ VRs sp F μ vs rs' := by
 cases rs with | nil => exact h.elim | cons a r => exact ⟨a, r, rfl, h.1, h.2⟩
theorem vx (hh : A.handled = Option.none) (sp : gm cx) {m : Mt} (k : Ok cx Γ sc env h₀ F μ st s.heap) {v : V} {vs : List V} {rv : Value} {rs : List Value} {K : V → List (List V) → Prop} (hv : VR cx.sp F μ v rv) (hvs : VRs cx.sp F μ vs rs)
  (hw : bL st.cells m v vs K) (q : AR cx Γ sc env h₀ F μ st s K Q) : wpAny (model cx.prog cx.w) A (call (.builtin (mId m)) (rv :: rs)) Q E s := by
 have q' : Post cx Γ sc env h₀ F μ st s (fun v => K v st.cells) Q := fun v F' s' r hv k' t vr => q v st.cells F' μ s' r hv k' t vr
 cases m with
 | find =>
  refine ex2 (bQ hw) fun x eq0 hw => ?_; subst eq0
  obtain ⟨h1, t, rfl⟩ := hv
  cases vs with
  | nil => exact hw.elim
  | cons c vs =>
   refine ex2 (iP hw) fun c eq0 hw => ?_; subst eq0
   obtain ⟨r1, rs1, rfl, ⟨h2, u, rfl⟩, hvs1⟩ := hvs.consI
   cases vs with
   | nil => exact hw.elim
   | cons a vs =>
    refine ex2 (bn hw) fun a eq0 hw => ?_; subst eq0
    obtain ⟨r2, rs2, rfl, ⟨w, rfl⟩, hvs2⟩ := hvs1.consI
    cases vs with
    | nil =>
     obtain rfl := hvs2.nilI
     exact sI (K := fun v => K v st.cells) k hw.1 hw.2.2 q'
    | cons b vs =>
     obtain ⟨rfl, hw⟩ := hV hw
     refine ex2 (bn hw) fun b eq0 hw => ?_; subst eq0
     obtain ⟨r3, rs3, rfl, ⟨w3, rfl⟩, hvs3⟩ := hvs2.consI
     obtain rfl := hvs3.nilI
     obtain ⟨g1, g2, g3, g4, g5, g6⟩ := hw
     exact sJ (K := fun v => K v st.cells) k g1 g3 g5 g6 q'
 | replace =>
  refine ex2 (bQ hw) fun x eq0 hw => ?_; subst eq0
  obtain ⟨c, y, rfl, hw⟩ := um hw
  refine ex2 (iP hw) fun c eq0 hw => ?_; subst eq0
  refine ex2 (bQ hw) fun y eq0 hw => ?_; subst eq0
  obtain ⟨h1, t, rfl⟩ := hv
  obtain ⟨r1, rs1, rfl, ⟨h2, u, rfl⟩, hvs1⟩ := hvs.consI
  obtain ⟨r2, rs2, rfl, ⟨h3, w, rfl⟩, hvs2⟩ := hvs1.consI
  obtain rfl := hvs2.nilI
  exact oK (K := fun v => K v st.cells) k h1 hw.1 hw.2 q'
 | join =>
  refine ex2 (bQ hw) fun x eq0 hw => ?_; subst eq0
  refine ex2 (c4 hw) fun v eq0 hw => ?_; subst eq0
  refine ex2 (bP hw) fun l hl hw => ?_
  obtain ⟨h1, t, rfl⟩ := hv
  obtain ⟨r1, rs1, rfl, h2, hvs1⟩ := hvs.consI
  obtain rfl := hvs1.nilI
  exact vo (K := fun v => K v st.cells) k h1 h2 hl hw.1 hw.2 q'
 | splitlines =>
  refine ex2 (bQ hw) fun x eq0 hw => ?_; subst eq0
  obtain ⟨rfl, hw⟩ := hV hw
  obtain ⟨h1, t, rfl⟩ := hv
  obtain rfl := hvs.nilI
  exact kK (K := fun v => K v st.cells) k h1 hw.1 hw.2.1 hw.2.2 q'
 | rstrip =>
  refine ex2 (bQ hw) fun x eq0 hw => ?_; subst eq0
  obtain ⟨rfl, hw⟩ := hV hw
  obtain ⟨h1, t, rfl⟩ := hv
  obtain rfl := hvs.nilI
  exact qs (K := fun v => K v st.cells) k h1 hw.1 hw.2 q'
 | endswith =>
  refine ex2 (bQ hw) fun x eq0 hw => ?_; subst eq0
  refine ex2 (c4 hw) fun v eq0 hw => ?_; subst eq0
  refine ex2 (bQ hw) fun y eq0 hw => ?_; subst eq0
  obtain ⟨h1, t, rfl⟩ := hv
  obtain ⟨r1, rs1, rfl, ⟨h2, u, rfl⟩, hvs1⟩ := hvs.consI
  obtain rfl := hvs1.nilI
  exact mS (K := fun v => K v st.cells) k hw q'
 | translate =>
  refine ex2 (iP hw) fun x eq0 hw => ?_; subst eq0
  refine ex2 (c4 hw) fun v eq0 hw => ?_; subst eq0
  obtain ⟨rfl, hw⟩ := yq hw
  obtain ⟨h1, t, rfl⟩ := hv
  obtain ⟨r1, rs1, rfl, h2, hvs1⟩ := hvs.consI
  obtain rfl := hvs1.nilI
  cases h2
  exact lG (K := fun v => K v st.cells) hh sp k hw.1 hw.2 q'
 | append =>
  refine ex2 (iD hw) fun x eq0 hw => ?_; subst eq0
  refine ex2 (c4 hw) fun v eq0 hw => ?_; subst eq0
  refine ex2 (bP hw) fun l hl hw => ?_
  obtain ⟨a, ha, rfl⟩ := hv
  obtain ⟨r1, rs1, rfl, h2, hvs1⟩ := hvs.consI
  obtain rfl := hvs1.nilI
  refine qo (K := fun st' => K .none st'.cells ∧ st'.loc = st.loc) k ha h2 hl hw.1 ⟨hw.2, rfl⟩ fun st' F' μ' s' hK k' t => ?_
  obtain ⟨l', cs⟩ := st'
  obtain ⟨h3, rfl⟩ := hK
  exact q .none cs F' μ' s' .none h3 k' t rfl
 | extend =>
  refine ex2 (iD hw) fun x eq0 hw => ?_; subst eq0
  refine ex2 (c4 hw) fun v eq0 hw => ?_; subst eq0
  refine ex2 (bP hw) fun l hl hw => ?_
  refine ex2 (u3 hw) fun m eq0 hw => ?_; subst eq0
  obtain ⟨a, ha, rfl⟩ := hv
  obtain ⟨r1, rs1, rfl, h2, hvs1⟩ := hvs.consI
  obtain rfl := hvs1.nilI
  refine qp (K := fun st' => K .none st'.cells ∧ st'.loc = st.loc) k ha h2 hl hw.1 ⟨hw.2, rfl⟩ fun st' F' μ' s' hK k' t => ?_
  obtain ⟨l', cs⟩ := st'
  obtain ⟨h3, rfl⟩ := hK
  exact q .none cs F' μ' s' .none h3 k' t rfl
end
end Mine
namespace Mine
open PySem PySem.W PySem.Calls PyProof.Rows
section
variable {cx : Cx} {A : Around} {Γ : List Str} {sc : List (Str × NameKind)} {env : Env} {h₀ : Heap}
theorem vz {k : Nat} {pos : Pos} : SE cx A Γ sc env h₀ (eval (.Constant .none k pos) env) (.cst .none) := fun F μ st s K Q E k hw q => wpAny_Constant_none (q _ _ _ _ _ _ hw k Tr.refl rfl)
theorem vA {b : Bool} {k : Nat} {pos : Pos} : SE cx A Γ sc env h₀ (eval (.Constant (.bool b) k pos) env) (.cst (.bool b)) := fun F μ st s K Q E k hw q => wpAny_Constant_bool (q _ _ _ _ _ _ hw k Tr.refl rfl)
theorem yM {i : Int} {k : Nat} {pos : Pos} : SE cx A Γ sc env h₀ (eval (.Constant (.int i) k pos) env) (.cst (.int i)) := fun F μ st s K Q E k hw q => wpAny_Constant_int (q (.int i) _ _ _ _ _ hw k Tr.tok ⟨_, rfl⟩)
theorem yN {x : Str} {k : Nat} {pos : Pos} (hx : x.cps.size ≤ 100) : SE cx A Γ sc env h₀ (eval (.Constant (.str x) k pos) env) (.cst (.str x.cps.toList)) := fun F μ st s K Q E k hw q =>
 wpAny_Constant_str (q (.str x.cps.toList) _ _ _ _ _ hw k Tr.tok ⟨by simp [lim]; exact rT hx, s.toks, by rw [eO]⟩)
theorem yO {k k' : Nat} {p p' pos : Pos} : SE cx A Γ sc env h₀ (eval (.BinOp (.Constant (.int 10) k p) .Pow (.Constant (.int 8) k' p') pos) env) (.cst (.int 100000000)) := fun F μ st s K Q E k hw q => by
 refine wpAny_BinOp (wpAny_Constant_int (wpAny_Constant_int ?_))
 exact PyProof.Rows.pow_int (by decide) (by decide +kernel) (q (.int 100000000) _ _ _ _ _ hw k Tr.tok ⟨_, rfl⟩)
theorem lL {x : Str} {g : Gv} {v : Value} {pos : Pos} (he : EnvOk Γ sc env) (hx : sc.lookup x = some .globalImplicit) (hn : aZ cx x v) (hv : VR cx.sp cx.g.get? [] (gi g) v) : SE cx A Γ sc env h₀ (eval (.Name x pos) env) (.glo g) := by
 intro F μ st s K Q E k hw q
 exact hn env A s pos _ E he.kind he.glob he.bi (he.gl x hx) (fun a o e => k.fz _ _ (k.gF a o e)) (q _ _ _ _ _ _ hw k Tr.refl (hv.mono (fun a o e => k.gF a o e) (List.nil_prefix)))
theorem yP {e : Expr} {x : X} {pos : Pos} (he : SE cx A Γ sc env h₀ (eval e env) x) : SE cx A Γ sc env h₀ (eval (.UnaryOp .USub e pos) env) (.neg x) := by
 intro F μ st s K Q E k hw q
 refine wpAny_UnaryOp (he F μ st s _ _ E k hw fun v st1 F1 μ1 s1 r hw1 k1 t1 vr => ?_)
 cases v with
 | int i =>
  obtain ⟨t, rfl⟩ := vr
  exact P.neg_int (q _ _ _ _ _ _ hw1 k1 (t1.trans Tr.tok) ⟨_, rfl⟩)
 | _ => exact hw1.elim
theorem yQ {t a b : Expr} {x y z : X} {pos : Pos} (ht : SB cx A Γ sc env h₀ (isTrue t env (eval t env)) x) (ha : SE cx A Γ sc env h₀ (eval a env) y) (hb : SE cx A Γ sc env h₀ (eval b env) z) : SE cx A Γ sc env h₀ (eval (.IfExp t a b pos) env) (.ite x y z) := by
 intro F μ st s K Q E k hw q
 refine wpAny_IfExp (ht F μ st s _ _ E k hw fun c st1 F1 μ1 s1 hw1 k1 t1 => ?_)
 cases c with
 | true => exact ha F1 μ1 st1 s1 _ _ E k1 hw1 fun v st2 F2 μ2 s2 r hw2 k2 t2 vr => q _ _ _ _ _ _ hw2 k2 (t1.trans t2) vr
 | false => exact hb F1 μ1 st1 s1 _ _ E k1 hw1 fun v st2 F2 μ2 s2 r hw2 k2 t2 vr => q _ _ _ _ _ _ hw2 k2 (t1.trans t2) vr
theorem cg {o : Option Bool} {K : Bool → Prop} (h : ae o K) : ∃ c, o = some c ∧ K c := by
 unfold ae at h
 split at h
 ·exact ⟨_, rfl, h⟩
 ·exact h.elim
theorem yR {a b : Expr} {op : CmpOp} {x y : X} {pos : Pos} (hu : A.units < cLine) (fb : d4 b) (ha : SE cx A Γ sc env h₀ (eval a env) x) (hb : SE cx A Γ sc env h₀ (eval b env) y) : SE cx A Γ sc env h₀ (eval (.Compare a [op] [b] pos) env) (.cmp x op y) := by
 intro F μ st s K Q E k hw q
 refine wpAny_Compare1 (ha F μ st s _ _ E k hw fun v st1 F1 μ1 s1 r hw1 k1 t1 vr => ?_) (fb.mark op)
 refine hb F1 μ1 st1 s1 _ _ E k1 hw1 fun u st2 F2 μ2 s2 ru hw2 k2 t2 vu => ?_
 refine ex2 (cg hw2) fun c h1 h2 => ?_
 exact fW hu k2 (vr.mono t2.le t2.mu) vu h1 (q _ _ _ _ _ _ h2 k2 (t1.trans t2) rfl)
theorem yS {a b : Expr} {op : CmpOp} {x y : X} {pos : Pos} {whole : Sem Value} (hu : A.units < cLine) (fb : d4 b) (ha : SE cx A Γ sc env h₀ (eval a env) x) (hb : SE cx A Γ sc env h₀ (eval b env) y) : SB cx A Γ sc env h₀ (isTrue (.Compare a [op] [b] pos) env whole) (.cmp x op y) := by
 intro F μ st s K Q E k hw q
 refine wpAny_isTrue_Compare1 (ha F μ st s _ _ E k hw fun v st1 F1 μ1 s1 r hw1 k1 t1 vr => ?_) (fb.mark op)
 refine hb F1 μ1 st1 s1 _ _ E k1 hw1 fun u st2 F2 μ2 s2 ru hw2 k2 t2 vu => ?_
 refine ex2 (cg hw2) fun c h1 h2 => ?_
 exact fW hu k2 (vr.mono t2.le t2.mu) vu h1 (wpAny_truthy_bool (q _ _ _ _ _ h2 k2 (t1.trans t2)))
theorem km {op op' : CmpOp} {b c : Expr} (fc : d4 c) : lastMarks [op, op'] [b, c] = false := by
 show lastMarks [op'] [c] = false
 exact fc.mark op'
theorem vB {a b c : Expr} {op op' : CmpOp} {x y z : X} {pos : Pos} (hu : A.units < cLine) (fc : d4 c) (ha : SE cx A Γ sc env h₀ (eval a env) x) (hb : SE cx A Γ sc env h₀ (eval b env) y) (hc : SE cx A Γ sc env h₀ (eval c env) z) :
  SE cx A Γ sc env h₀ (eval (.Compare a [op, op'] [b, c] pos) env) (.cmp2 x op y op' z) := by
 intro F μ st s K Q E k hw q
 refine Compare_chain (ha F μ st s _ _ E k hw fun v st1 F1 μ1 s1 r hw1 k1 t1 vr => ?_) (km fc)
 refine chain_link (hb F1 μ1 st1 s1 _ _ E k1 hw1 fun u st2 F2 μ2 s2 ru hw2 k2 t2 vu => ?_)
 refine ex2 (cg hw2) fun o h1 h2 => ?_
 refine fW hu k2 (vr.mono t2.le t2.mu) vu h1 (wpAny_truthy_bool ?_)
 cases o with
 | true =>
  refine chain_last (hc F2 μ2 st2 s2 _ _ E k2 h2 fun u' st3 F3 μ3 s3 ru' hw3 k3 t3 vu' => ?_)
  obtain ⟨o', h3, h4⟩ := cg hw3
  exact fW hu k3 (vu.mono t3.le t3.mu) vu' h3 (q _ _ _ _ _ _ h4 k3 ((t1.trans t2).trans t3) rfl)
 | false =>
  exact q _ _ _ _ _ _ h2 k2 (t1.trans t2) rfl
theorem uI {a b : Expr} {x y : X} (ha : SB cx A Γ sc env h₀ (isTrue a env (eval a env)) x) (hb : SB cx A Γ sc env h₀ (allTrue .Or [b] env) y) :
  SB cx A Γ sc env h₀ (allTrue .Or [a, b] env) (.or x y) := by
 intro F μ st s K Q E k hw q
 refine wpAny_allTrue_Or_cons (ha F μ st s _ _ E k hw fun c st1 F1 μ1 s1 hw1 k1 t1 => ?_)
 cases c with
 | true => exact q _ _ _ _ _ hw1 k1 t1
 | false =>
  exact hb F1 μ1 st1 s1 _ _ E k1 hw1 fun c st2 F2 μ2 s2 hw2 k2 t2 => q _ _ _ _ _ hw2 k2 (t1.trans t2)
theorem yT {a b c : Expr} {x y : X} (ha : SB cx A Γ sc env h₀ (isTrue a env (eval a env)) x) (hb : SB cx A Γ sc env h₀ (allTrue .Or [b, c] env) y) :
  SB cx A Γ sc env h₀ (allTrue .Or [a, b, c] env) (.or x y) := by
 intro F μ st s K Q E k hw q
 refine wpAny_allTrue_Or_cons (ha F μ st s _ _ E k hw fun c st1 F1 μ1 s1 hw1 k1 t1 => ?_)
 cases c with
 | true => exact q _ _ _ _ _ hw1 k1 t1
 | false =>
  exact hb F1 μ1 st1 s1 _ _ E k1 hw1 fun c st2 F2 μ2 s2 hw2 k2 t2 => q _ _ _ _ _ hw2 k2 (t1.trans t2)
theorem vC {a b c : Expr} {x y : X} (ha : SB cx A Γ sc env h₀ (isTrue a env (eval a env)) x) (hb : SB cx A Γ sc env h₀ (allTrue .And [b, c] env) y) :
  SB cx A Γ sc env h₀ (allTrue .And [a, b, c] env) (.and x y) := by
 intro F μ st s K Q E k hw q
 refine wpAny_allTrue_And_cons (ha F μ st s _ _ E k hw fun c st1 F1 μ1 s1 hw1 k1 t1 => ?_)
 cases c with
 | false => exact q _ _ _ _ _ hw1 k1 t1
 | true =>
  exact hb F1 μ1 st1 s1 _ _ E k1 hw1 fun c st2 F2 μ2 s2 hw2 k2 t2 => q _ _ _ _ _ hw2 k2 (t1.trans t2)
theorem i6 {op : BoolOp} {a : Expr} {x : X} (ha : SB cx A Γ sc env h₀ (isTrue a env (eval a env)) x) : SB cx A Γ sc env h₀ (allTrue op [a] env) x := by
 intro F μ st s K Q E k hw q
 cases op with
 | And =>
  refine wpAny_allTrue_And_cons (ha F μ st s _ _ E k hw fun c st1 F1 μ1 s1 hw1 k1 t1 => ?_)
  cases c with
  | true => exact wpAny_allTrue_And_nil (q _ _ _ _ _ hw1 k1 t1)
  | false => exact q _ _ _ _ _ hw1 k1 t1
 | Or =>
  refine wpAny_allTrue_Or_cons (ha F μ st s _ _ E k hw fun c st1 F1 μ1 s1 hw1 k1 t1 => ?_)
  cases c with
  | true => exact q _ _ _ _ _ hw1 k1 t1
  | false => exact wpAny_allTrue_Or_nil (q _ _ _ _ _ hw1 k1 t1)
theorem hY {op : BoolOp} {l : List Expr} {x : X} {pos : Pos} {whole : Sem Value} (h : SB cx A Γ sc env h₀ (allTrue op l env) x) : SB cx A Γ sc env h₀ (isTrue (.BoolOp op l pos) env whole) x :=
 fun F μ st s K Q E k hw q => wpAny_isTrue_BoolOp (h F μ st s K Q E k hw q)
theorem yU {a : Expr} {x : X} {pos : Pos} {whole : Sem Value} (ha : SB cx A Γ sc env h₀ (isTrue a env (eval a env)) x) : SB cx A Γ sc env h₀ (isTrue (.UnaryOp .Not a pos) env whole) (.not x) := by
 intro F μ st s K Q E k hw q
 exact wpAny_isTrue_Not (ha F μ st s _ _ E k hw fun c st1 F1 μ1 s1 hw1 k1 t1 => q _ _ _ _ _ hw1 k1 t1)
theorem yV {t a b : Expr} {x y z : X} {pos : Pos} {whole : Sem Value} (ht : SB cx A Γ sc env h₀ (isTrue t env (eval t env)) x) (ha : SB cx A Γ sc env h₀ (isTrue a env (eval a env)) y) (hb : SB cx A Γ sc env h₀ (isTrue b env (eval b env)) z) :
  SB cx A Γ sc env h₀ (isTrue (.IfExp t a b pos) env whole) (.ite x y z) := by
 intro F μ st s K Q E k hw q
 refine isTrue_IfExp (ht F μ st s _ _ E k hw fun c st1 F1 μ1 s1 hw1 k1 t1 => ?_)
 cases c with
 | true => exact ha F1 μ1 st1 s1 _ _ E k1 hw1 fun v st2 F2 μ2 s2 hw2 k2 t2 => q _ _ _ _ _ hw2 k2 (t1.trans t2)
 | false => exact hb F1 μ1 st1 s1 _ _ E k1 hw1 fun v st2 F2 μ2 s2 hw2 k2 t2 => q _ _ _ _ _ hw2 k2 (t1.trans t2)
theorem vE {a b c : Expr} {op op' : CmpOp} {x y z : X} {pos : Pos} {whole : Sem Value} (hu : A.units < cLine) (fc : d4 c) (ha : SE cx A Γ sc env h₀ (eval a env) x) (hb : SE cx A Γ sc env h₀ (eval b env) y) (hc : SE cx A Γ sc env h₀ (eval c env) z) :
  SB cx A Γ sc env h₀ (isTrue (.Compare a [op, op'] [b, c] pos) env whole) (.cmp2 x op y op' z) := by
 intro F μ st s K Q E k hw q
 refine isTrue_chain (ha F μ st s _ _ E k hw fun v st1 F1 μ1 s1 r hw1 k1 t1 vr => ?_) (km fc)
 refine test_link (hb F1 μ1 st1 s1 _ _ E k1 hw1 fun u st2 F2 μ2 s2 ru hw2 k2 t2 vu => ?_)
 refine ex2 (cg hw2) fun o h1 h2 => ?_
 refine fW hu k2 (vr.mono t2.le t2.mu) vu h1 (wpAny_truthy_bool ?_)
 cases o with
 | true =>
  refine test_last (hc F2 μ2 st2 s2 _ _ E k2 h2 fun u' st3 F3 μ3 s3 ru' hw3 k3 t3 vu' => ?_)
  obtain ⟨o', h3, h4⟩ := cg hw3
  exact fW hu k3 (vu.mono t3.le t3.mu) vu' h3 (wpAny_truthy_bool (q _ _ _ _ _ h4 k3 ((t1.trans t2).trans t3)))
 | false =>
  exact q _ _ _ _ _ h2 k2 (t1.trans t2)
noncomputable def fD (x : X) : Prop := ∀ (fns : Fns) (K : Bool → St → Prop) (st : St), WT fns x K st → WE fns x (fun v st' => ae (bE st'.cells v) fun b => K b st') st
theorem sQ {e : Expr} {x : X} (hp : fD x) (he : SE cx A Γ sc env h₀ (eval e env) x) (hi : isTrue e env (eval e env) = (do let v ← eval e env; standAt e.pos; holding [v] (truthy v))) : SB cx A Γ sc env h₀ (isTrue e env (eval e env)) x := by
 intro F μ st s K Q E k hw q
 refine wpAny_isTrue_value (he F μ st s _ _ E k (hp _ _ _ hw) fun v st1 F1 μ1 s1 r hw1 k1 t1 vr => ?_) hi
 refine ex2 (cg hw1) fun c h1 h2 => ?_
 exact sF k1 vr h1 fun t => q _ _ _ _ _ h2 k1 (t1.trans Tr.tok)
end
end Mine
namespace Mine
open PySem PySem.W PySem.Calls PyProof.Rows
theorem sR {sp : Bool} {n : Nat} {Γ : List Str} {sc : List (Str × NameKind)} {e : Expr} {x : X} (h : cE sp n Γ sc e = some x) (o i : Value) : subscripted e false o i = operate [o, i] (getItem o i) := by
 cases n with
 | zero => exact ab h
 | succ n =>
  cases e with
  | Slice a b c d => exact ab h
  | _ => rfl
section
variable {cx : Cx} {A : Around} {Γ : List Str} {sc : List (Str × NameKind)} {env : Env} {h₀ : Heap}
theorem hZ {A : Around} {E : Value → Shared → Prop} {s : Shared} {value slice : Expr} {o i : Value} {ops : List Value} {Q : Value → Shared → Prop} (h : ItemOn (model cx.prog cx.w) A E o i Q s) (hs : subscripted slice false o i = operate ops (getItem o i)) :
  wpAny (model cx.prog cx.w) A (subscriptTail value slice o i) Q E s := by
 obtain ⟨T, id, hl, hT, hg⟩ := h
 exact tail_any hT hl hg hs
theorem yW {o i : Expr} {x y : X} {pos : Pos} (hi : ∀ a b, subscripted i false a b = operate [a, b] (getItem a b)) (ho : SE cx A Γ sc env h₀ (eval o env) x) (hii : SE cx A Γ sc env h₀ (eval i env) y) : SE cx A Γ sc env h₀ (eval (.Subscript o i pos) env) (.idx x y) := by
 intro F μ st s K Q E k hw q
 refine Subscript_ (ho F μ st s _ _ E k hw fun v st1 F1 μ1 s1 r hw1 k1 t1 vr => ?_)
 refine hii F1 μ1 st1 s1 _ _ E k1 hw1 fun u st2 F2 μ2 s2 ru hw2 k2 t2 vu => ?_
 exact hZ (yC k2 (vr.mono t2.le t2.mu) vu hw2 fun v F3 s3 r hv k3 t3 vr => q v st2 F3 μ2 s3 r hv k3 ((t1.trans t2).trans t3) vr) (hi _ _)
noncomputable def SO (cx : Cx) (A : Around) (Γ : List Str) (sc : List (Str × NameKind)) (env : Env) (h₀ : Heap) (e : Option Expr) (x : Option X) : Prop :=
 ∀ (F : PH) (μ : List Addr) (st : St) (s : Shared) (K : Option V → St → Prop) (Q : Value → Shared → Prop) (E : Value → Shared → Prop), Ok cx Γ sc env h₀ F μ st s.heap → WO cx.fns x K st →
  (∀ v st' F' μ' s' r, K v st' → Ok cx Γ sc env h₀ F' μ' st' s'.heap → Tr cx.P F μ s F' μ' s' → PartR cx.sp F' μ' v r → Q r s') → wpAny (model cx.prog cx.w) A (evalPart e env) Q E s
theorem SO.none : SO cx A Γ sc env h₀ Option.none Option.none := fun F μ st s K Q E k hw q => by
 rw [evalPart_none]
 exact wpAny_pure (q Option.none st F μ s .none hw k Tr.refl rfl)
theorem SO.some {e : Expr} {x : X} (h : SE cx A Γ sc env h₀ (eval e env) x) : SO cx A Γ sc env h₀ (some e) (some x) := fun F μ st s K Q E k hw q => by
 rw [evalPart_some]
 exact h F μ st s _ _ E k hw fun v st1 F1 μ1 s1 r hw1 k1 t1 vr => q (Option.some v) st1 F1 μ1 s1 r hw1 k1 t1 vr
theorem yX {o : Expr} {lo hi : Option Expr} {x : X} {y z : Option X} {p pos : Pos} (ho : SE cx A Γ sc env h₀ (eval o env) x) (hl : SO cx A Γ sc env h₀ lo y) (hh : SO cx A Γ sc env h₀ hi z) :
  SE cx A Γ sc env h₀ (eval (.Subscript o (.Slice lo hi Option.none p) pos) env) (.slc x y z) := by
 intro F μ st s K Q E k hw q
 refine Subscript_ (ho F μ st s _ _ E k hw fun v st1 F1 μ1 s1 r hw1 k1 t1 vr => ?_)
 refine wpAny_Slice (hl F1 μ1 st1 s1 _ _ E k1 hw1 fun a st2 F2 μ2 s2 ra hw2 k2 t2 va => ?_)
 refine hh F2 μ2 st2 s2 _ _ E k2 hw2 fun b st3 F3 μ3 s3 rb hw3 k3 t3 vb => ?_
 rw [evalPart_none]
 refine wpAny_pure ?_
 obtain ⟨k4, t4⟩ := k3.waste { cls := .type "slice", data := .fields #[ra, rb, .none] } (t := s3.toks)
 refine hZ (yD (s := { s3 with heap := s3.heap.push { cls := .type "slice", data := .fields #[ra, rb, .none] } }) k4 ((vr.mono t2.le t2.mu).mono t3.le t3.mu) (va.mono t3.le t3.mu) vb (Heap.IsSliceOf.new ..) hw3 fun v F5 s5 r hv k5 t5 vr5 => ?_) rfl
 exact q v st3 F5 μ3 s5 r hv k5 ((((t1.trans t2).trans t3).trans t4).trans t5) vr5
theorem yY {o : Expr} {x : X} {k' : Nat} {p1 p2 p pos : Pos} (ho : SE cx A Γ sc env h₀ (eval o env) x) :
  SE cx A Γ sc env h₀ (eval (.Subscript o (.Slice Option.none Option.none (some (.UnaryOp .USub (.Constant (.int 1) k' p1) p2)) p) pos) env) (.rev x) := by
 intro F μ st s K Q E k hw q
 refine Subscript_ (ho F μ st s _ _ E k hw fun v st1 F1 μ1 s1 r hw1 k1 t1 vr => ?_)
 refine wpAny_Slice ?_
 rw [evalPart_none]
 refine wpAny_pure (wpAny_pure ?_)
 rw [evalPart_some]
 refine wpAny_UnaryOp (wpAny_Constant_int (P.neg_int ?_))
 obtain ⟨k4, t4⟩ := k1.waste { cls := .type "slice", data := .fields #[.none, .none, .int (-1) (s1.toks + 1)] } (t := s1.toks + 1 + 1)
 cases hl : aE st1.cells v with
 | none => rw [hl] at hw1; exact hw1.elim
 | some l =>
  rw [hl] at hw1
  refine hZ (yE (K := fun v => K v st1) (s := { s1 with heap := s1.heap.push { cls := .type "slice", data := .fields #[.none, .none, .int (-1) (s1.toks + 1)] }, toks := s1.toks + 1 + 1 }) k4 vr (t := s1.toks + 1) ⟨_, Heap.get?_push_size _ rfl, rfl, rfl⟩ hl hw1 fun v F5 s5 r hv k5 t5 vr5 => ?_) rfl
  exact q v st1 F5 μ1 s5 r hv k5 ((t1.trans t4).trans t5) vr5
theorem yZ {o : Expr} {x : X} {ka kb kc : Nat} {p1 p2 p3 p4 p5 p pos : Pos} (ho : SE cx A Γ sc env h₀ (eval o env) x) :
  SE cx A Γ sc env h₀ (eval (.Subscript o (.Slice (some (.UnaryOp .USub (.Constant (.int 2) ka p1) p2)) (some (.Constant (.int 0) kb p3)) (some (.UnaryOp .USub (.Constant (.int 1) kc p4) p5)) p) pos) env) (.mid x) := by
 intro F μ st s K Q E k hw q
 refine Subscript_ (ho F μ st s _ _ E k hw fun v st1 F1 μ1 s1 r hw1 k1 t1 vr => ?_)
 refine wpAny_Slice ?_
 rw [evalPart_some]
 refine wpAny_UnaryOp (wpAny_Constant_int (P.neg_int ?_))
 rw [evalPart_some]
 refine wpAny_Constant_int ?_
 rw [evalPart_some]
 refine wpAny_UnaryOp (wpAny_Constant_int (P.neg_int ?_))
 generalize hsl : ({ cls := Value.type "slice", data := Data.fields #[.int (-2) _, .int 0 _, .int (-1) _] } : Obj) = osl
 obtain ⟨k4, t4⟩ := k1.waste osl (t := s1.toks + 1 + 1 + 1 + 1 + 1)
 cases hl : aE st1.cells v with
 | none => rw [hl] at hw1; exact hw1.elim
 | some l =>
  rw [hl] at hw1
  refine hZ (yF (K := fun v => K v st1) (s := { s1 with heap := s1.heap.push osl, toks := s1.toks + 1 + 1 + 1 + 1 + 1 }) k4 vr ⟨_, Heap.get?_push_size _ (by rw [← hsl]; rfl), by rw [← hsl], by rw [← hsl]⟩ hl hw1 fun v F5 s5 r hv k5 t5 vr5 => ?_) rfl
  exact q v st1 F5 μ1 s5 r hv k5 ((t1.trans t4).trans t5) vr5
end
end Mine
namespace Mine
open PySem PySem.W PySem.Calls PyProof.Rows
section
variable {cx : Cx} {A : Around} {Γ : List Str} {sc : List (Str × NameKind)} {env : Env} {h₀ : Heap}
theorem za {es : List Expr} {xs : List X} {pos : Pos} (hl : es.length ≤ 100) (hxs : xs.length = es.length) (ha : SA cx A Γ sc env h₀ es xs (· = [])) : SE cx A Γ sc env h₀ (eval (.List es pos) env) (.lst xs) := by
 intro F μ st s K Q E k hw q
 refine wpAny_List_spliced (ha.2 pos F μ st s _ _ E k hw fun vs st1 F1 μ1 s1 rs tl hw1 k1 t1 vrs htl hlen => ?_)
 subst htl
 rw [List.append_nil]
 have e := vrs.length
 refine ⟨by rw [e, hlen, hxs]; exact bo (by unfold lim; exact wX e hlen hxs hl), ?_⟩
 exact Post.list (K := fun v => K v st1) k1 (fun v F2 s2 r hv k2 t2 vr => q v st1 F2 μ1 s2 r hv k2 (t1.trans t2) vr) (by unfold lim; exact wW e hlen hxs hl) hw1 vrs
theorem zb {es : List Expr} {xs : List X} {c} {pos : Pos} (hl : es.length ≤ 100) (hxs : xs.length = es.length) (ha : SA cx A Γ sc env h₀ es xs (· = [])) : SE cx A Γ sc env h₀ (eval (.Tuple es c pos) env) (.tup xs) := by
 intro F μ st s K Q E k hw q
 refine wpAny_Tuple_spliced (ha.2 pos F μ st s _ _ E k hw fun vs st1 F1 μ1 s1 rs tl hw1 k1 t1 vrs htl hlen => ?_)
 subst htl
 rw [List.append_nil]
 have e := vrs.length
 refine ⟨by rw [e, hlen, hxs]; exact bo (by unfold lim; exact wX e hlen hxs hl), ?_⟩
 obtain ⟨k', tr, e2⟩ := k1.made { cls := .type "tuple", data := .seq rs.toArray } rfl (t := s1.toks)
 exact q _ _ _ _ _ _ hw1 k' (t1.trans tr) ⟨by unfold lim; exact wW e hlen hxs hl, _, rs, rfl, ⟨_, _, e2, rfl, rfl⟩, vrs.mono tr.le (List.prefix_refl _)⟩
theorem vF {pos : Pos} : SE cx A Γ sc env h₀ (eval (.List [] pos) env) .new0 := by
 intro F μ st s K Q E k hw q
 refine wpAny_List_spliced (spliced_nil ⟨by show 0 ≤ sizeLine; exact Nat.zero_le _, ?_⟩)
 have hk : ∀ a o, s.heap.get? a = some o → (s.heap.push { cls := .type "list", data := .seq ([] : List Value).toArray }).get? a = some o := fun a o e => Heap.get?_push_of_some _ e
 have k' := k.newM (h' := s.heap.push { cls := .type "list", data := .seq ([] : List Value).toArray }) (bu s.heap) (l := []) (vs := []) (Nat.zero_le _) trivial ⟨_, _, Heap.get?_push_size _ rfl, rfl, rfl, rfl, rfl⟩ hk
 refine q _ _ F (μ ++ [s.heap.objs.size]) _ _ hw k' ⟨fun _ _ e => e, List.prefix_append _ _, fun a o h _ _ => hk a o h, fun a h => ?_, fun _ h => .inl h, fun a ha => ?_, rfl, fun h => h⟩ ⟨s.heap.objs.size, ?_, rfl⟩
 ·cases e : s.heap.get? a with
  | none => exact absurd e h
  | some o => rw [hk a o e]; simp
 ·rcases List.mem_append.mp ha with h | h
  ·exact .inl h
  ·right; rw [List.mem_singleton.mp h]; exact bu _
 ·rw [← k.len]; simp
theorem vG {p pos : Pos} : SE cx A Γ sc env h₀ (eval (.List [.List [] p] pos) env) .new1 := by
 intro F μ st s K Q E k hw q
 refine wpAny_List_spliced (spliced_cons (wpAny_List_spliced (spliced_nil ⟨Nat.zero_le _, spliced_nil ⟨by show 1 ≤ sizeLine; decide, ?_⟩⟩)))
 have push : ∀ {h : Heap} (o : Obj), ∀ a o', h.get? a = some o' → (h.push o).get? a = some o' := fun o a o' e => Heap.get?_push_of_some _ e
 generalize hh1 : s.heap.push { cls := .type "list", data := .seq ([] : List Value).toArray } = h1
 have k1 := k.newM (h' := h1) (bu s.heap) (l := []) (vs := []) (Nat.zero_le _) trivial ⟨_, _, hh1 ▸ Heap.get?_push_size _ rfl, rfl, rfl, rfl, rfl⟩ (fun a o e => hh1 ▸ push _ a o e)
 have ne : μ.length = st.cells.length := k.len
 have e1 : s.heap.objs.size < h1.objs.size := by rw [← hh1, Heap.size_push]; exact Bx
 have k2 := k1.newM (h' := h1.push { cls := .type "list", data := .seq ([Value.ref s.heap.objs.size] : List Value).toArray }) (bu h1) (l := [.cell st.cells.length]) (vs := [.ref s.heap.objs.size]) (by simp [lim])
  ⟨⟨s.heap.objs.size, by rw [← ne]; simp, rfl⟩, trivial⟩ ⟨_, _, Heap.get?_push_size _ rfl, rfl, rfl, rfl, rfl⟩ (push _)
 have hk : ∀ a o, s.heap.get? a = some o → (h1.push { cls := .type "list", data := .seq ([Value.ref s.heap.objs.size] : List Value).toArray }).get? a = some o := fun a o e => push _ a o (hh1 ▸ push _ a o e)
 refine q _ _ F (μ ++ [s.heap.objs.size] ++ [h1.objs.size]) _ _ hw (by simpa using k2) ⟨fun _ _ e => e, ⟨[s.heap.objs.size, h1.objs.size], by simp⟩, fun a o h _ _ => hk a o h, fun a h => ?_, fun _ h => .inl h, fun a ha => ?_, rfl, fun h => h⟩ ⟨h1.objs.size, ?_, rfl⟩
 ·cases e : s.heap.get? a with
  | none => exact absurd e h
  | some o => rw [hk a o e]; simp
 ·have dead : ∀ a, s.heap.objs.size ≤ a → s.heap.get? a = Option.none := fun a h => by
   cases e : s.heap.get? a with
   | none => rfl
   | some o => exact absurd (Heap.lt_size e) (Nat.not_lt.mpr h)
  simp only [List.append_assoc, List.mem_append, List.mem_cons, List.not_mem_nil, or_false] at ha
  rcases ha with h | h
  ·exact .inl h
  ·right
   rcases h with h | h
   ·exact dead a (by rw [h]; exact Nat.le_refl _)
   ·exact dead a (by rw [h]; exact Nat.le_of_lt e1)
 ·rw [← ne]; simp
inductive SF (cx : Cx) (A : Around) (Γ : List Str) (sc : List (Str × NameKind)) (env : Env) (h₀ : Heap) : List Expr → List X → Prop
 | nil : SF cx A Γ sc env h₀ [] []
 | str {x : Str} {k : Nat} {p : Pos} {r l} : x.cps.size ≤ 100 → SF cx A Γ sc env h₀ r l → SF cx A Γ sc env h₀ (.Constant (.str x) k p :: r) (.cst (.str x.cps.toList) :: l)
 | val {e : Expr} {p : Pos} {x : X} {r l} : SE cx A Γ sc env h₀ (eval e env) x → SF cx A Γ sc env h₀ r l → SF cx A Γ sc env h₀ (.FormattedValue e (-1) Option.none p :: r) (x :: l)
theorem sS {es : List Expr} {xs : List X} (h : SF cx A Γ sc env h₀ es xs) : ∀ {F : PH} {μ : List Addr} {st : St} {s : Shared} {K : V → St → Prop} {Q E : Value → Shared → Prop} {acc : List Nat} {n : Nat}, acc.length ≤ n * lim → n + es.length ≤ 8 →
  Ok cx Γ sc env h₀ F μ st s.heap → WF cx.fns xs acc K st → uF cx Γ sc env h₀ F μ s K Q → Joins (model cx.prog cx.w) A E (evalEach es env) ⟨acc.toArray⟩ (fun out s₁ => out.length ≤ sizeLine ∧ Q (.str out s₁.toks) { s₁ with toks := s₁.toks + 1 }) s := by
 have aw : ∀ {acc x : List Nat} {n : Nat}, acc.length ≤ n * lim → x.length ≤ lim → n + 1 ≤ 8 → ((⟨acc.toArray⟩ : Str) ++ (⟨x.toArray⟩ : Str)).length ≤ sizeLine ∧ (acc ++ x).length ≤ (n + 1) * lim := fun h1 h2 h3 => by
  rw [dp, aM]
  have e : sizeLine = 16777216 := sizeLine_eq
  rw [e]
  simp only [List.length_append]
  unfold lim at *
  exact Bw h3 h1 h2
 induction h with
 | nil =>
  intro F μ st s K Q E acc n hn hl k hw q
  exact ⟨by rw [aM]; exact bo hw.1, q (.str acc) _ _ _ _ _ hw.2 k Tr.tok ⟨hw.1, s.toks, rfl⟩⟩
 | @str x k' p r l hx hr ih =>
  intro F μ st s K Q E acc n hn hl k hw q
  show wpAny _ _ (eval (.Constant (.str x) k' p) env) _ _ _
  rw [List.length_cons] at hl
  have hf := aw (x := x.cps.toList) hn (by simp [lim]; exact rT hx) (wV hl)
  rw [eO] at hf
  refine wpAny_Constant_str ⟨x, s.toks, rfl, hf.1, ?_⟩
  rw [← eO x, dp]
  exact ih hf.2 (rU hl) k hw fun v st' F' μ' s' r h1 h2 h3 h4 => q v st' F' μ' s' r h1 h2 (Tr.trans Tr.tok h3) h4
 | @val e p x r l he hr ih =>
  intro F μ st s K Q E acc n hn hl k hw q
  rw [List.length_cons] at hl
  show wpAny _ _ (eval (.FormattedValue e (-1) Option.none p) env) _ _ _
  refine wpAny_FormattedValue_plain (he F μ st s _ _ E k hw fun v st1 F1 μ1 s1 rv hw1 k1 t1 vr => ?_)
  cases v with
  | str y =>
   obtain ⟨hy, t, rfl⟩ := vr
   have hf := aw (x := y) hn hy (wV hl)
   refine wpAny_formatField_str ⟨_, _, rfl, hf.1, ?_⟩ ⟨_, _, rfl, hf.1, ?_⟩ (by rw [aM]; exact bo hy)
   ·rw [dp]
    exact ih hf.2 (rU hl) k1 hw1 fun v st' F' μ' s' r h1 h2 h3 h4 => q v st' F' μ' s' r h1 h2 (t1.trans h3) h4
   ·rw [dp]
    exact ih hf.2 (rU hl) (s := { s1 with toks := s1.toks + 1 }) k1 hw1 fun v st' F' μ' s' r h1 h2 h3 h4 => q v st' F' μ' s' r h1 h2 (t1.trans (Tr.trans Tr.tok h3)) h4
  | _ => exact hw1.elim
theorem vH {es : List Expr} {xs : List X} {pos : Pos} (h2 : 2 ≤ es.length) (h8 : es.length ≤ 8) (h : SF cx A Γ sc env h₀ es xs) : SE cx A Γ sc env h₀ (eval (.JoinedStr es pos) env) (.fstr xs) := by
 intro F μ st s K Q E k hw q
 match es, h2 with
 | a :: b :: r, _ => exact wpAny_JoinedStr (sS h (n := 0) (by simp) (by simpa using h8) k hw q)
theorem nB {o : Expr} (ho : ∀ a b c d, o ≠ .Call a b c d) (name : Str) : attributeBase o name env (eval o env) = eval o env := by
 cases o with
 | Call a b c d => exact absurd rfl (ho a b c d)
 | _ => rfl
theorem oN {l : List (Bool × Sem Value)} (h : l.any (·.1) = false) : l.all (fun x => !x.1) = true := by
 rw [List.all_eq_not_any_not]
 simpa using h
theorem zc {m : Mt} {v : V} (h : dC m v = true) : ((∃ y, v = .str y) ∧ mTy m = "str") ∨ ((∃ i, v = .cell i) ∧ mTy m = "list") := by
 cases m with
 | append => exact .inr ⟨lj h, rfl⟩
 | extend => exact .inr ⟨lj h, rfl⟩
 | _ => exact .inl ⟨u4 h, rfl⟩
theorem sU {o : Expr} {name : Str} {m : Mt} {es : List Expr} {x : X} {xs : List X} {apos pos : Pos} (hh : A.handled = Option.none) (sp : gm cx) (hm : jM name = some m) (ho : ∀ a b c d, o ≠ .Call a b c d) (hl : ¬ 29 < es.length) (hline : (apos.endLine == pos.line) = true)
  (hx : SE cx A Γ sc env h₀ (eval o env) x) (ha : SA cx A Γ sc env h₀ es xs (· = [])) {F : PH} {μ : List Addr} {st : St} {s : Shared} {K : V → List (List V) → St → Prop} {Q E : Value → Shared → Prop} (k : Ok cx Γ sc env h₀ F μ st s.heap)
  (hw : WE cx.fns x (fun v st => dC m v = true ∧ WEs cx.fns xs (fun vs st => bL st.cells m v vs (fun r cs => K r cs st)) st) st)
  (q : ∀ v cs st1 F' μ' s' r, K v cs st1 → Ok cx Γ sc env h₀ F' μ' ⟨st1.loc, cs⟩ s'.heap → Tr cx.P F μ s F' μ' s' → VR cx.sp F' μ' v r → Q r s') :
  wpAny (model cx.prog cx.w) A (eval (.Call (.Attribute o name apos) es [] pos) env) Q E s := by
 obtain rfl := qw hm
 have hfew : ((backTo pos (starEach es env)).all (fun x => !x.1) && (backToKw pos (keywordEach [] env)).all (fun x => x.1.isSome) && decide (es.length + ([] : List Keyword).length + (if ([] : List Keyword).isEmpty then 0 else 1) < 30)) = true := by
  rw [oN (ha.1 pos)]
  have : decide (es.length + ([] : List Keyword).length + (if ([] : List Keyword).isEmpty then 0 else 1) < 30) = true := by simp; exact Bv hl
  rw [this]; rfl
 refine wpAny_Call_method_lateS (nB ho _) hfew hline (hx F μ st s _ _ E k hw fun v st1 F1 μ1 s1 rv hw1 k1 t1 vr => ?_)
 obtain ⟨hr, hw1⟩ := hw1
 obtain ⟨f1, f2, f3⟩ := vt m
 have hT : s1.TypeIs rv (mTy m) ∧ (∀ a, rv = .ref a → ∃ ob, s1.heap.get? a = some ob ∧ ob.dict = Option.none) := by
  rcases zc hr with ⟨⟨y, rfl⟩, e⟩ | ⟨⟨i, rfl⟩, e⟩
  ·rw [e]
   obtain ⟨_, t, rfl⟩ := vr
   exact ⟨typeIs_str _ _ _, fun _ e => nomatch e⟩
  ·rw [e]
   obtain ⟨a, h1, rfl⟩ := vr
   have hi : i < st1.cells.length := by
    have := (List.getElem?_eq_some_iff.mp h1).1
    rw [← k1.len]; exact this
   obtain ⟨_, vs, ho, _⟩ := k1.ct i a st1.cells[i] h1 (by simp [hi])
   refine ⟨ho.list.typeIs, fun b e => ?_⟩
   (injection e with e; subst e)
   obtain ⟨o, n, g1, _, _, g2, _⟩ := ho
   exact ⟨o, g1, g2⟩
 refine ⟨mTy m, mId m, f1, f2, f3, hT.1, hT.2, dE (ha.1 pos) (ha.2 pos F1 μ1 st1 s1 _ _ E k1 hw1 fun vs st2 F2 μ2 s2 rs tl hw2 k2 t2 vrs htl _ => ?_)⟩
 subst htl
 rw [List.append_nil]
 exact vx hh sp k2 (vr.mono t2.le t2.mu) vrs hw2 fun v cs F3 μ3 s3 r hK k3 t3 vr3 => q v cs st2 F3 μ3 s3 r hK k3 ((t1.trans t2).trans t3) vr3
theorem vI {o : Expr} {name : Str} {m : Mt} {es : List Expr} {x : X} {xs : List X} {apos pos : Pos} (hh : A.handled = Option.none) (sp : gm cx) (hm : jM name = some m) (ho : ∀ a b c d, o ≠ .Call a b c d) (hl : ¬ 29 < es.length) (hline : (apos.endLine == pos.line) = true)
  (hx : SE cx A Γ sc env h₀ (eval o env) x) (ha : SA cx A Γ sc env h₀ es xs (· = [])) : SE cx A Γ sc env h₀ (eval (.Call (.Attribute o name apos) es [] pos) env) (.meth m x xs) := by
 intro F μ st s K Q E k hw q
 exact sU (K := fun r cs st => K r ⟨st.loc, cs⟩) hh sp hm ho hl hline hx ha k hw fun v cs st1 F' μ' s' r hK k' t vr => q _ _ _ _ _ _ hK k' t vr
end
end Mine
namespace Mine
open PySem PySem.W PySem.Calls PyProof.Rows
theorem slot_ga : Slot "list" "__getattribute__" "list.__getattribute__" :=
 .of (owner := "list") (n := "__getattribute__") (by rw [typeLookup_type, builtinLookup_eq_fast]; kernel_rfl) (by decide +kernel) (by decide +kernel) (by decide +kernel)
  (by first | exact .inl (by decide +kernel) | exact .inr (by decide +kernel)) (by rw [isSubtype_type]; kernel_rfl)
theorem sV : entryFor table "list.__getattribute__" = some Builtin.«object.__getattribute__» := am_entry_list_getattribute
theorem vJ (a b : Value) : argsOk "list.__getattribute__" ⟨[a, b], []⟩ := by unfold argsOk; kernel_rfl
theorem slot_get : Slot "method_descriptor" "__get__" "method_descriptor.__get__" :=
 .of (owner := "method_descriptor") (n := "__get__") (by rw [typeLookup_type, builtinLookup_eq_fast]; kernel_rfl) (by decide +kernel) (by decide +kernel) (by decide +kernel)
  (by first | exact .inl (by decide +kernel) | exact .inr (by decide +kernel)) (by rw [isSubtype_type]; kernel_rfl)
theorem qx : entryFor table "method_descriptor.__get__" = some Builtin.«method_descriptor.__get__» := entryFor_of_tree (by kernel_rfl)
theorem sW (a b c : Value) : argsOk "method_descriptor.__get__" ⟨[a, b, c], []⟩ := by unfold argsOk; kernel_rfl
theorem zd : typeLookup (.type "method_descriptor") "__set__" = pure Option.none := by rw [typeLookup_type, builtinLookup_eq_fast]; kernel_rfl
theorem ze : typeLookup (.type "method_descriptor") "__delete__" = pure Option.none := by rw [typeLookup_type, builtinLookup_eq_fast]; kernel_rfl
theorem vK : isSubtype (.type "list") (.type (".".intercalate ("list.append".cutAt '.').dropLast)) = pure true := by
 rw [isSubtype_type]; kernel_rfl
theorem vL {prog : Program} {w : World} {A : Around} {E : Value → Shared → Prop} {s : Shared} {a : Addr} {items : Array Value} {n : Nat} {P : PySem.Fin → Shared → Prop} (ho : s.heap.get? a = some { cls := .type "list", dict := Option.none, data := .seq items n, slots := #[] })
 (h : P (.done (.ret (.ref s.heap.objs.size))) { s with heap := s.heap.push (dD a) }) : wpAny (model prog w) A (Builtin.«method_descriptor.__get__» ⟨[.builtin "list.append", .ref a, .type "list"], []⟩) P E s := by
 obtain ⟨hp, g, dd, tk, os⟩ := s
 have f1 := vK
 wp_walk using AutoSeq1.wpAny_loadPart' ho
 exact h
theorem zf {prog : Program} {w : World} {A : Around} {E : Value → Shared → Prop} {s : Shared} {a : Addr} {items : Array Value} {n : Nat} {t : Tok} {Q : Value → Shared → Prop} (ho : s.heap.get? a = some { cls := .type "list", dict := Option.none, data := .seq items n, slots := #[] })
 (h : Q (.ref s.heap.objs.size) { s with heap := s.heap.push (dD a) }) : wpAny (model prog w) A (Builtin.«object.__getattribute__» ⟨[.ref a, .str "append" t], []⟩) (fun fin s' => ∃ v, fin = .done (.ret v) ∧ Q v s') E s := by
 obtain ⟨hp, g, dd, tk, os⟩ := s
 have f2 := PySem.F.slot_list_append.lookup
 have f3 := PySem.F.type_list_append
 have f4 := slot_get.lookup
 have f5 := zd
 have f6 := ze
 wp_walk using AutoSeq1.wpAny_loadPart' ho
 refine codeAny_call_builtin slot_get.plain qx (slot_get.check _ _ _ _ _ _ _ _ (show typeOf (.builtin "list.append") = pure (.type "method_descriptor") from f3) (sW _ _ _) (vL ho ?_))
 exact wpAny_pure ⟨_, rfl, h⟩
theorem ga {prog : Program} {w : World} {A : Around} {E : Value → Shared → Prop} {s : Shared} {a : Addr} {items : Array Value} {n : Nat} {Q : Value → Shared → Prop} (ho : s.heap.get? a = some { cls := .type "list", dict := Option.none, data := .seq items n, slots := #[] })
 (h : ∀ tk, Q (.ref s.heap.objs.size) { s with heap := s.heap.push (dD a), toks := tk }) : wpAny (model prog w) A (getAttr (.ref a) "append" true) Q E s := by
 obtain ⟨hp, g, dd, tk, os⟩ := s
 have f1 := slot_ga.lookup
 have f4 := slot_ga.bind (.ref a)
 have hT : Shared.TypeIs { heap := hp, gens := g, drawn := dd, toks := tk + 1, os := os } (.ref a) "list" := ⟨_, ho, rfl⟩
 wp_walk using AutoSeq1.wpAny_loadPart' ho
 refine codeAny_call_builtin slot_ga.plain sV (slot_ga.check _ _ _ _ _ _ _ _ hT (vJ _ _) (wpAny_mono (zf (s := { heap := hp, gens := g, drawn := dd, toks := tk + 1, os := os }) (Q := fun v s' => v = .ref hp.objs.size ∧ s' = { heap := hp.push (dD a), gens := g, drawn := dd, toks := tk + 1, os := os }) ho ⟨rfl, rfl⟩) (fun fin s' hq => ?_) fun _ _ x => x))
 obtain ⟨v, rfl, rfl, rfl⟩ := hq
 show wpAny _ _ (handedOut _) _ _ _
 wp_walk
 exact h _
end Mine
namespace Mine
open PySem PySem.W PySem.Calls PyProof.Rows
theorem i7 : isSubtype (.type "list") (.type "module") = pure false := by rw [isSubtype_type]; kernel_rfl
theorem zg (sig : Manifest.Signature) (hs : Manifest.signature? "list.append" = some sig) (x y : Value) : Bind.checkArgs "list.append" { sig with full := s!"{Bind.lastOf "list"}.{Bind.lastOf "list.append"}" } ⟨[x, y], []⟩ = pure () := by
 have : sig = (Manifest.signature? "list.append").getD sig := by rw [hs]; rfl
 rw [this]
 kernel_rfl
theorem mX {M : Model} {A : Around} {E : Value → Shared → Prop} {s : Shared} {a : Addr} {o : Obj} {Q : Bool → Shared → Prop} (ho : s.heap.get? a = some o) (hc : ∃ xs n, o.data = .seq xs n) (h : Q false s) : wpAny M A (isType (.ref a)) Q E s := by
 obtain ⟨hp, g, dd, tk, os⟩ := s
 obtain ⟨c, d, dt, sl⟩ := o
 obtain ⟨xs, n, hc⟩ := hc
 simp only at hc
 subst hc
 wp_walk using AutoSeq1.wpAny_loadPart' ho
 exact h
theorem vM {M : Model} {A : Around} {E : Value → Shared → Prop} {s : Shared} {a : Addr} {r : Value} {o : Obj} {Q : Unit → Shared → Prop} (ho : s.heap.get? a = some o) (hc : o.cls = .type "list") (hd : ∃ xs n, o.data = .seq xs n) (h : Q () s) :
  wpAny M A (checkBoundCall "list.append" ⟨[.ref a, r], []⟩) Q E s := by
 have hT : s.TypeIs (.ref a) "list" := ⟨o, ho, hc⟩
 unfold checkBoundCall
 cases hs : Manifest.signature? "list.append" with
 | none => exact absurd hs (by decide +kernel)
 | some sig =>
 dsimp only
 rw [show builtinKind "list.append" = some .method from by decide +kernel]
 dsimp only
 refine wpAny_bind ?_
 refine wpAny_isInstance hT i7 ?_
 rw [if_neg (by decide +kernel)]
 refine wpAny_bind (mX ho hd ?_)
 rw [if_neg (by decide)]
 refine wpAny_bind (wpAny_typeOf hT ?_)
 exact wpAny_of_eq (zg sig hs _ _) h
set_option backward.match.sparseCases true in
theorem vN {prog : Program} {w : World} {A : Around} {E : Value → Shared → Prop} {s : Shared} {a b : Addr} {r : Value} {items : Array Value} {Q : Value → Shared → Prop} (ho : s.heap.get? b = some (dD a)) (hl : s.heap.PlainList a items)
 (hQ : ∀ h', h'.PlainList a (items.push r) → Heap.SameBut a s.heap h' → Q .none { s with heap := h' }) (hsz : items.size ≤ sizeLine) : wpAny (model prog w) A (call (.ref b) [r]) Q E s := by
 obtain ⟨n, hl⟩ := hl
 refine wpAny_call (codeAny_of_tree ?_)
 show wpAny _ _ (callAny (.ref b) _) _ _ _
 unfold callAny
 refine wpAny_bind (wpAny_load ho ?_)
 simp only [dD]
 refine wpAny_ite_split (fun _ => ?_) (fun hn => absurd (by decide) hn)
 refine wpAny_ite_split (fun _ => ?_) (fun hn => absurd (by decide) hn)
 refine wpAny_bind (vM hl rfl ⟨_, _, rfl⟩ ?_)
 refine wpAny_pure ⟨plainId_quiet PySem.F.slot_list_append.plain _, codeAny_builtin entry_list_append ?_⟩
 rw [Around.under_plainId PySem.F.slot_list_append.plain _]
 exact list_append a items n r hsz prog w A (fun r s' => match r with | .ok (.ret v) => Q v s' | .ok _ => False | .error e => E e s') s ⟨hl, hQ (s.heap.update a (Obj.mapSeq fun x => x.push r)) ⟨_, IsL.update (n := n) hl _⟩ (Heap.SameBut.update ..)⟩
section
variable {cx : Cx} {A : Around} {Γ : List Str} {sc : List (Str × NameKind)} {env : Env} {h₀ : Heap}
theorem vO {o : Expr} {m : Str} {x : X} {pos : Pos} (hm : m = "append") (ho : ∀ a b c d, o ≠ .Call a b c d) (hx : SE cx A Γ sc env h₀ (eval o env) x) : SE cx A Γ sc env h₀ (eval (.Attribute o m pos) env) (.attr x) := by
 subst hm
 intro F μ st s K Q E k hw q
 rw [arm_eval_Attribute, nB ho]
 refine wpAny_bind (hx F μ st s _ _ E k hw fun v st1 F1 μ1 s1 r hw1 k1 t1 vr => ?_)
 cases v with
 | cell i =>
  obtain ⟨a, h1, rfl⟩ := vr
  have hi : i < st1.cells.length := by
   have := (List.getElem?_eq_some_iff.mp h1).1
   rw [← k1.len]; exact this
  obtain ⟨_, vs, ho, _⟩ := k1.ct i a st1.cells[i] h1 (by simp [hi])
  obtain ⟨n, hl⟩ := ho.plain
  refine wpAny_bind (wpAny_standAt (wpAny_bind (wpAny_holding (ga hl fun tk => ?_))))
  refine wpAny_bind (wpAny_letTemporaryGo (wpAny_pure ?_))
  obtain ⟨k2, t2, e2⟩ := k1.made (dD a) rfl (t := tk)
  exact q (.app i) st1 _ μ1 _ _ hw1 k2 (t1.trans t2) ⟨a, _, h1, rfl, e2⟩
 | _ => exact hw1.elim
theorem vP {f : Str} {i : Nat} {e : Expr} {x : X} {p pos : Pos} (he : EnvOk Γ sc env) (hf : sc.lookup f = some .local) (hi : ah Γ f = some i) (hd : (f == ("__debug__" : Str)) = false) (fe : d4 e) (hx : SE cx A Γ sc env h₀ (eval e env) x) :
  SE cx A Γ sc env h₀ (eval (.Call (.Name f p) [e] [] pos) env) (.cadd i x) := by
 intro F μ st s K Q E k hw q
 refine ex2 (fS hw) fun w hv hw => ?_
 refine ex2 (u8 hw) fun j eq0 hw => ?_; subst eq0
 obtain ⟨m, hm, hmv⟩ := k.ns
 obtain ⟨r, e1, vr⟩ := hmv f i _ hf hi hv
 obtain ⟨a, b, h1, rfl, h2⟩ := vr
 refine Call_Name (by rw [fe.star]) (wpAny_Name (wpAny_loadName_local he.kind (he.loc f hf) hm e1 ?_) hd)
 refine callWith_of (P := fun h => h.get? b = some (dD a)) rfl (fun h hb => ⟨.machine, .inr (.inl rfl), (Looks.ld (part := Option.none) hb).andThen .now⟩) (eu rfl (spliced_cons (hx F μ st s _ _ E k hw fun v st1 F1 μ1 s1 r hw1 k1 t1 vr => spliced_nil ?_)))
 have hb : s1.heap.get? b = some (dD a) := k1.fz _ _ (t1.le _ _ h2)
 refine ⟨hb, ?_⟩
 refine ex2 (bP (o := st1.cells[j]?) hw1) fun l hl hw1 => ?_
 have h1' := gk t1.mu h1
 obtain ⟨h3, vs, h4, h5⟩ := k1.ct j a l h1' hl
 have h6 := h5.length
 show wpAny _ _ (call (.ref b) [r]) _ _ _
 refine vN hb h4.plain (fun h' hp hs => ?_) (by simp only [List.size_toArray]; rw [h6]; exact bo h3)
 have h8 : vs.toArray.push r = (vs ++ [r]).toArray := by simp
 rw [h8] at hp
 obtain ⟨k', tr⟩ := k1.turn (l := l ++ [v]) h1' (by rw [List.length_append]; have := hw1.1; simp only [List.length_cons, List.length_nil]; omega) (h5.append (VRs.one vr)) hp hs
 exact q .none _ F1 μ1 _ .none hw1.2 k' (t1.trans (tr s1.toks)) rfl
theorem vQ {two : Bool} {xs : List Str} {t elt iter : Expr} {ifs : List Expr} {scope : Scope} {pos : Pos} {e i : X} {l : List X} (hh : A.handled = Option.none) (ht : fh two t xs) (he : EnvOk Γ sc env) (co : CompOk sc Γ xs scope) (fi : d4 iter)
  (hiter : SE cx A Γ sc env h₀ (eval iter env) i)
  (helt : ∀ cl C, EnvOk (Γ ++ xs) scope.names (compEnvC scope cl C env) → SE cx A (Γ ++ xs) scope.names (compEnvC scope cl C env) h₀ (eval elt (compEnvC scope cl C env)) e)
  (hifs : ∀ cl C, EnvOk (Γ ++ xs) scope.names (compEnvC scope cl C env) → SBs cx A (Γ ++ xs) scope.names (compEnvC scope cl C env) h₀ ifs l) :
  SE cx A Γ sc env h₀ (eval (.ListComp elt [⟨t, iter, ifs, 0⟩] scope pos) env) (.comp two Γ.length e i l) := by
 intro F μ st s K Q E k hw q
 rw [eval_ListComp]
 refine nA (use := Option.none) hh ht he co (fi.fold env) hiter helt hifs k hw fun l F' μ' st' s' D C hK k' t' vD oC hC hN => ?_
 obtain ⟨m, hN⟩ := hN
 refine ⟨m, hN, fun h' hs => ?_⟩
 exact q (.lst l) st' F' μ' _ _ hK (k'.touch oC fun a o ha e => hs.extBut a o ha e) (Tr.touch t' hC fun a o ha e => hs.extBut a o ha e) vD
end
end Mine
namespace Mine
open PySem PySem.W PySem.Calls PyProof.Rows
structure TrS (P : Addr) (env : Env) (F : PH) (μ : List Addr) (s : Shared) (F' : PH) (μ' : List Addr) (s' : Shared) : Prop where
 le : PLe F F'
 mu : μ <+: μ'
 keep : ∀ a o, s.heap.get? a = some o → a ∉ μ → a ≠ P → a ≠ env.locals → (∀ n, (n, a) ∉ env.cells) → s'.heap.get? a = some o
 alive : ∀ a, s.heap.get? a ≠ Option.none → s'.heap.get? a ≠ Option.none
 new : ∀ a, F' a ≠ Option.none → F a ≠ Option.none ∨ s.heap.get? a = Option.none
 newM : ∀ a, a ∈ μ' → a ∈ μ ∨ s.heap.get? a = Option.none
 os : s'.os = s.os
 gens : AllBare s.gens → AllBare s'.gens
theorem Tr.toS {P : Addr} {env : Env} {F F' : PH} {μ μ' : List Addr} {s s' : Shared} (t : Tr P F μ s F' μ' s') : TrS P env F μ s F' μ' s' :=
 ⟨t.le, t.mu, fun a o h1 h2 h3 _ _ => t.keep a o h1 h2 h3, t.alive, t.new, t.newM, t.os, t.gens⟩
theorem TrS.trans {P : Addr} {env : Env} {F F' F'' : PH} {μ μ' μ'' : List Addr} {s s' s'' : Shared} (x : TrS P env F μ s F' μ' s') (y : TrS P env F' μ' s' F'' μ'' s'') : TrS P env F μ s F'' μ'' s'' where
 le := fun a o h => y.le a o (x.le a o h)
 mu := x.mu.trans y.mu
 keep := fun a o h1 h2 h3 h4 h5 => y.keep a o (x.keep a o h1 h2 h3 h4 h5) (fun hm => (x.newM a hm).elim h2 fun e => by rw [h1] at e; exact cn e) h3 h4 h5
 alive := fun a h => y.alive a (x.alive a h)
 new := fun a h => (y.new a h).elim (x.new a) fun e => .inr (Classical.byContradiction fun q => x.alive a q e)
 newM := fun a h => (y.newM a h).elim (x.newM a) fun e => .inr (Classical.byContradiction fun q => x.alive a q e)
 os := y.os.trans x.os
 gens := fun h => y.gens (x.gens h)
theorem TrS.store {P : Addr} {env : Env} {F : PH} {μ : List Addr} {s : Shared} {a : Addr} {h' : Heap} {tk : Nat} (ha : a = env.locals ∨ ∃ n, (n, a) ∈ env.cells) (al : h'.get? a ≠ Option.none) (hs : Heap.SameBut a s.heap h') : TrS P env F μ s F μ { s with heap := h', toks := tk } :=
 ⟨fun _ _ h => h, List.prefix_refl _, fun b o h1 _ _ h4 h5 => (hs.2 b fun q => by
  rcases ha with ha | ⟨n, ha⟩
  ·exact h4 (q.trans ha)
  ·exact h5 n (q ▸ ha)).trans h1, fun b h => by
  by_cases q : b = a
  ·subst q; exact al
  ·rw [show ({ s with heap := h', toks := tk } : Shared).heap.get? b = s.heap.get? b from hs.2 b q]; exact h, fun _ h => .inl h, fun _ h => .inl h, rfl, fun h => h⟩
noncomputable def FlR (sp : Addr) (F : PH) (μ : List Addr) : Fl → Flow → Prop
 | .next, f => f = .next
 | .brk, f => f = .brk
 | .cont, f => f = .cont
 | .ret v, f => ∃ r, f = .ret r ∧ VR sp F μ v r
abbrev uJ (cx : Cx) (Γ : List Str) (sc : List (Str × NameKind)) (env : Env) (h₀ : Heap) (F : PH) (μ : List Addr) (s : Shared) (Q : Fl → St → Prop) (R : Flow → Shared → Prop) : Prop :=
 ∀ fl st' F' μ' s' f, Q fl st' → Ok cx Γ sc env h₀ F' μ' st' s'.heap → TrS cx.P env F μ s F' μ' s' → FlR cx.sp F' μ' fl f → R f s'
noncomputable def SX (cx : Cx) (A : Around) (Γ : List Str) (sc : List (Str × NameKind)) (env : Env) (h₀ : Heap) (t : Sem Flow) (x : S) : Prop :=
 ∀ (F : PH) (μ : List Addr) (st : St) (s : Shared) (Q : Fl → St → Prop) (R : Flow → Shared → Prop) (E : Value → Shared → Prop),
  Ok cx Γ sc env h₀ F μ st s.heap → WS cx.fns x Q st → uJ cx Γ sc env h₀ F μ s Q R → wpAny (model cx.prog cx.w) A t R E s
noncomputable def SXs (cx : Cx) (A : Around) (Γ : List Str) (sc : List (Str × NameKind)) (env : Env) (h₀ : Heap) (t : Sem Flow) (x : List S) : Prop :=
 ∀ (F : PH) (μ : List Addr) (st : St) (s : Shared) (Q : Fl → St → Prop) (R : Flow → Shared → Prop) (E : Value → Shared → Prop),
  Ok cx Γ sc env h₀ F μ st s.heap → WSs cx.fns x Q st → uJ cx Γ sc env h₀ F μ s Q R → wpAny (model cx.prog cx.w) A t R E s
section
variable {cx : Cx} {A : Around} {Γ : List Str} {sc : List (Str × NameKind)} {env : Env} {h₀ : Heap}
theorem Ok.aliveC {F : PH} {μ : List Addr} {st : St} {h : Heap} (k : Ok cx Γ sc env h₀ F μ st h) {a : Addr} (ha : a = env.locals ∨ ∃ n, (n, a) ∈ env.cells) : h.get? a ≠ Option.none := by
 rcases ha with ha | ⟨n, ha⟩
 ·rw [ha]; exact k.aliveL
 ·exact k.ca n a ha
theorem vR : SXs cx A Γ sc env h₀ (execs [] env) [] := fun F μ st s Q R E k hw q => wpAny_pure (q .next st F μ s .next hw k (Tr.refl).toS rfl)
theorem sX {a : Stmt} {r : List Stmt} {x : S} {l : List S} (ha : SX cx A Γ sc env h₀ (exec a env) x) (hr : SXs cx A Γ sc env h₀ (execs r env) l) : SXs cx A Γ sc env h₀ (execs (a :: r) env) (x :: l) := by
 intro F μ st s Q R E k hw q
 refine wpAny_execs_cons (ha F μ st s _ _ E k hw fun fl st1 F1 μ1 s1 f hw1 k1 t1 hf => ?_)
 cases fl with
 | next =>
  obtain rfl : f = .next := hf
  exact hr F1 μ1 st1 s1 _ _ E k1 hw1 fun fl st2 F2 μ2 s2 f hw2 k2 t2 hf2 => q fl st2 F2 μ2 s2 f hw2 k2 (t1.trans t2) hf2
 | brk => obtain rfl : f = .brk := hf; exact q .brk st1 F1 μ1 s1 .brk hw1 k1 t1 rfl
 | cont => obtain rfl : f = .cont := hf; exact q .cont st1 F1 μ1 s1 .cont hw1 k1 t1 rfl
 | ret v => obtain ⟨r, rfl, hv⟩ : ∃ r, f = .ret r ∧ _ := hf; exact q (.ret v) st1 F1 μ1 s1 (.ret r) hw1 k1 t1 ⟨r, rfl, hv⟩
theorem zh {pos : Pos} : SX cx A Γ sc env h₀ (exec (.Break pos) env) .brk := fun F μ st s Q R E k hw q => wpAny_Break (q .brk st F μ s .brk hw k (Tr.refl).toS rfl)
theorem vS {pos : Pos} : SX cx A Γ sc env h₀ (exec (.Continue pos) env) .cont := fun F μ st s Q R E k hw q => wpAny_Continue (q .cont st F μ s .cont hw k (Tr.refl).toS rfl)
theorem zi {e : Expr} {x : X} {pos : Pos} (he : SE cx A Γ sc env h₀ (eval e env) x) : SX cx A Γ sc env h₀ (exec (.Return (some e) pos) env) (.ret x) := by
 intro F μ st s Q R E k hw q
 exact wpAny_Return_some (he F μ st s _ _ E k hw fun v st1 F1 μ1 s1 r hw1 k1 t1 vr => q (.ret v) st1 F1 μ1 s1 (.ret r) hw1 k1 t1.toS ⟨r, rfl, vr⟩)
theorem qy {e : Expr} {x : X} {pos : Pos} (he : SB cx A Γ sc env h₀ (isTrue e env (eval e env)) x) : SX cx A Γ sc env h₀ (exec (.Assert e Option.none pos) env) (.assert x) := by
 intro F μ st s Q R E k hw q
 exact wpAny_Assert_holds (he F μ st s _ _ E k hw fun c st1 F1 μ1 s1 hw1 k1 t1 => ⟨hw1.1, q .next st1 F1 μ1 s1 .next hw1.2 k1 t1.toS rfl⟩)
theorem zj {t : Expr} {a b : List Stmt} {x : X} {y z : List S} {pos : Pos} (ht : SB cx A Γ sc env h₀ (isTrue t env (eval t env)) x) (ha : SXs cx A Γ sc env h₀ (execs a env) y) (hb : SXs cx A Γ sc env h₀ (execs b env) z) :
  SX cx A Γ sc env h₀ (exec (.If t a b pos) env) (.ite x y z) := by
 intro F μ st s Q R E k hw q
 refine wpAny_If (ht F μ st s _ _ E k hw fun c st1 F1 μ1 s1 hw1 k1 t1 => ?_)
 cases c with
 | true => exact ha F1 μ1 st1 s1 _ _ E k1 hw1 fun fl st2 F2 μ2 s2 f h2 k2 t2 hf => q fl st2 F2 μ2 s2 f h2 k2 (t1.toS.trans t2) hf
 | false => exact hb F1 μ1 st1 s1 _ _ E k1 hw1 fun fl st2 F2 μ2 s2 f h2 k2 t2 hf => q fl st2 F2 μ2 s2 f h2 k2 (t1.toS.trans t2) hf
theorem kn {n : Str} {i : Nat} {e : Expr} {x : X} {p pos : Pos} (he : EnvOk Γ sc env) (hn : sc.lookup n = some .local ∨ sc.lookup n = some .cell) (hi : ah Γ n = some i) (hs : swapsWith e (some (.Name n p)) pos.line env = pure false) (hx : SE cx A Γ sc env h₀ (eval e env) x) :
  SX cx A Γ sc env h₀ (exec (.Assign [.Name n p] e pos) env) (.assign i x) := by
 intro F μ st s Q R E k hw q
 refine wpAny_Assign_Name (hx F μ st s _ _ E k hw fun v st1 F1 μ1 s1 r hw1 k1 t1 vr => ?_) hs
 exact dM he k1 hn hi vr fun a h' tk ha hs' k2 => q .next _ F1 μ1 _ .next hw1 k2 (t1.toS.trans (TrS.store ha (k2.aliveC ha) hs')) rfl
theorem qz {fns : Fns} {i : Nat} {e : X} {Q : Fl → St → Prop} {st : St} (h : WS fns (.assign i e) Q st) : WE fns e (fun v st => Q .next ⟨st.loc.set i (some v), st.cells⟩) st := h
theorem jZ {n : Str} {j : Nat} {two : Bool} {xs : List Str} {t elt iter : Expr} {ifs : List Expr} {scope : Scope} {p cpos pos : Pos} {e i : X} {l : List X} (hh : A.handled = Option.none) (ht : fh two t xs) (he : EnvOk Γ sc env) (co : CompOk sc Γ xs scope) (fi : d4 iter)
  (hn : sc.lookup n = some .local ∨ sc.lookup n = some .cell) (hj : ah Γ n = some j) (hs : swapsWith (.ListComp elt [⟨t, iter, ifs, 0⟩] scope cpos) (some (.Name n p)) pos.line env = pure true)
  (hiter : SE cx A Γ sc env h₀ (eval iter env) i)
  (helt : ∀ cl C, EnvOk (Γ ++ xs) scope.names (compEnvC scope cl C env) → SE cx A (Γ ++ xs) scope.names (compEnvC scope cl C env) h₀ (eval elt (compEnvC scope cl C env)) e)
  (hifs : ∀ cl C, EnvOk (Γ ++ xs) scope.names (compEnvC scope cl C env) → SBs cx A (Γ ++ xs) scope.names (compEnvC scope cl C env) h₀ ifs l) :
  SX cx A Γ sc env h₀ (exec (.Assign [.Name n p] (.ListComp elt [⟨t, iter, ifs, 0⟩] scope cpos) pos) env) (.assign j (.comp two Γ.length e i l)) := by
 intro F μ st s Q R E k hw q
 rw [exec_Assign_Name_used _ _ _ _ hs]
 refine wpAny_bind (wpAny_standAt (wpAny_bind ?_))
 show wpAny _ A (do let _ ← comprehension (.ListComp elt [⟨t, iter, ifs, 0⟩] scope cpos) scope env (firstIterPos [⟨t, iter, ifs, 0⟩] cpos) (newList []) false (eval iter env) (some (assign (.Name n p) env))) _ _ s
 refine wpAny_bind (wpAny_mono (nA (use := some (assign (.Name n p) env)) (Q := fun _ s' => R .next s') hh ht he co (fi.fold env) hiter helt hifs k (qz hw) fun l F' μ' st' s' D C hK k' t' vD oC hC hN => ?_) (fun _ s' hq => wpAny_pure (wpAny_pure hq)) fun _ _ e => e)
 obtain ⟨m, hN⟩ := hN
 show wpAny _ A (assign (.Name n p) env (.ref D)) _ _ _
 refine wpAny_assign_Name (dM he k' hn hj vD fun a h' tk ha hs' k2 => ?_)
 have hCa : C ≠ a := fun e => by
  rcases ha with ha | ⟨nn, ha⟩
  ·exact oC.l (e.trans ha)
  ·exact oC.c nn a ha e.symm
 refine ⟨m, hN.at' fun o e => hs'.extBut C o hCa e, fun h3 hs3 => ?_⟩
 have hk3 : ∀ a o, a ≠ C → h'.get? a = some o → h3.get? a = some o := fun a o ha e => hs3.extBut a o ha e
 have t2 : TrS cx.P env F μ s F' μ' { s' with heap := h', toks := tk } := t'.toS.trans (TrS.store ha (k2.aliveC ha) hs')
 refine q .next _ F' μ' _ .next hK (k2.touch oC hk3) ⟨t2.le, t2.mu, fun b o h1 h2 h3 h4 h5 => hk3 b o (fun e => by rw [e, hC] at h1; exact ab h1) (t2.keep b o h1 h2 h3 h4 h5), fun b hb => ?_, t2.new, t2.newM, t2.os, t2.gens⟩ rfl
 cases e : h'.get? b with
 | none => exact absurd e (t2.alive b hb)
 | some o => rw [show ({ s' with heap := h3, toks := tk } : Shared).heap.get? b = some o from hk3 b o (fun e2 => hb (e2 ▸ hC)) e]; simp
end
end Mine
namespace Mine
open PySem PySem.W PySem.Calls PyProof.Rows
theorem mY (e : Expr) {ts : List Expr} {c} {p : Pos} {l : Nat} {env : Env} : swapsWith e (some (.Tuple ts c p)) l env = pure false := by cases e <;> rfl
theorem qA (e : Expr) {o i : Expr} {p : Pos} {l : Nat} {env : Env} : swapsWith e (some (.Subscript o i p)) l env = pure false := by cases e <;> rfl
theorem ir {sp : Bool} {n : Nat} {Γ : List Str} {sc : List (Str × NameKind)} {e : Expr} {x : X} (h : cE sp n Γ sc e = some x) (hc : fU e = false) (t : Option Expr) (l : Nat) (env : Env) : swapsWith e t l env = pure false := by
 cases n with
 | zero => exact ab h
 | succ n =>
  cases e with
  | ListComp a b c d => exact gh hc
  | SetComp a b c d => exact ab h
  | DictComp a b c d f => exact ab h
  | _ => rfl
section
variable {cx : Cx} {A : Around} {Γ : List Str} {sc : List (Str × NameKind)} {env : Env} {h₀ : Heap}
theorem zk {n : Str} {i : Nat} {op : Operator} {e : Expr} {x : X} {p pos : Pos} (he : EnvOk Γ sc env) (hn : sc.lookup n = some .local) (hi : ah Γ n = some i) (hx : SE cx A Γ sc env h₀ (eval e env) x) :
  SX cx A Γ sc env h₀ (exec (.AugAssign (.Name n p) op e pos) env) (.aug i op x) := by
 intro F μ st s Q R E k hw q
 refine ex2 (fS hw) fun v hv hw => ?_
 obtain ⟨m, hm, hmv⟩ := k.ns
 obtain ⟨r, e1, vr⟩ := hmv n i v hn hi hv
 refine wpAny_AugAssign_Name (wpAny_loadName_local he.kind (he.loc n hn) hm e1 (hx F μ st s _ _ E k hw fun u st1 F1 μ1 s1 ru hw1 k1 t1 vu => ?_))
 have fin : ∀ (w : V) (tk : Nat) (rw : Value), Q .next ⟨st1.loc.set i (some w), st1.cells⟩ → VR cx.sp F1 μ1 w rw → wpAny (model cx.prog cx.w) A (storeName env n rw) (fun _ => R .next) E { s1 with toks := tk } := fun w tk rw hQ vw =>
  dM he (s := { s1 with toks := tk }) k1 (.inl hn) hi vw fun a h' tk ha hs' k2 => q .next _ F1 μ1 _ .next hQ k2 ((t1.trans Tr.tok).toS.trans (TrS.store ha (k2.aliveC ha) hs')) rfl
 have vr' := vr.mono t1.le t1.mu
 cases op with
 | Add =>
  cases v with
  | int =>
   refine ex2 (bn hw1) fun j eq0 hw1 => ?_; subst eq0
   obtain ⟨t, rfl⟩ := vr'; obtain ⟨t', rfl⟩ := vu
   exact P.iadd_int (fin _ _ _ hw1 ⟨_, rfl⟩)
  | str =>
   refine ex2 (bQ hw1) fun y eq0 hw1 => ?_; subst eq0
   obtain ⟨h1, t, rfl⟩ := vr'; obtain ⟨h2, t', rfl⟩ := vu
   refine PyProof.Rows.iadd_str (fun t2 tk => fin _ _ _ hw1.2 ⟨by rw [List.length_append]; exact hw1.1, t2, by rw [dp]⟩) ?_
   rw [aM, aM]; exact bo hw1.1
  | _ => exact hw1.elim
 | _ => exact hw1.elim
theorem qB {o i e : Expr} {x y z : X} {p pos : Pos} (he : SE cx A Γ sc env h₀ (eval e env) z) (ho : SE cx A Γ sc env h₀ (eval o env) x) (hi : SE cx A Γ sc env h₀ (eval i env) y) :
  SX cx A Γ sc env h₀ (exec (.Assign [.Subscript o i p] e pos) env) (.setidx x y z) := by
 intro F μ st s Q R E k hw q
 refine wpAny_Assign_Subscript (he F μ st s _ _ E k hw fun v st1 F1 μ1 s1 rv hw1 k1 t1 vv => ?_) (qA e)
 refine ho F1 μ1 st1 s1 _ _ E k1 hw1 fun w st2 F2 μ2 s2 rw hw2 k2 t2 vw => ?_
 refine hi F2 μ2 st2 s2 _ _ E k2 hw2 fun j st3 F3 μ3 s3 rj hw3 k3 t3 vj => ?_
 have tt := (t1.trans t2).trans t3
 obtain ⟨c, j, l, rfl, rfl, hl, hw3⟩ := qd hw3
 exact yG (K := fun st' => Q .next st') k3 (vw.mono t3.le t3.mu) vj ((vv.mono t2.le t2.mu).mono t3.le t3.mu) hl hw3.1 hw3.2.1 hw3.2.2 fun st' F' μ' s' hK k' t' => q .next st' F' μ' s' .next hK k' (tt.trans t').toS rfl
theorem zl {o i : Expr} {x y : X} {p pos : Pos} (ho : SE cx A Γ sc env h₀ (eval o env) x) (hi : SE cx A Γ sc env h₀ (eval i env) y) :
  SX cx A Γ sc env h₀ (exec (.Delete [.Subscript o i p] pos) env) (.del x y) := by
 intro F μ st s Q R E k hw q
 rw [arm_exec_Delete]
 refine wpAny_bind (wpAny_standAt (wpAny_bind (wpAny_deleteEach_cons ?_)))
 rw [arm_delete_Subscript]
 refine wpAny_bind (ho F μ st s _ _ E k hw fun w st2 F2 μ2 s2 rw hw2 k2 t2 vw => ?_)
 refine wpAny_bind (wpAny_holding (hi F2 μ2 st2 s2 _ _ E k2 hw2 fun j st3 F3 μ3 s3 rj hw3 k3 t3 vj => ?_))
 have tt := t2.trans t3
 obtain ⟨c, j, l, rfl, rfl, hl, hw3⟩ := qd hw3
 refine wpAny_bind (wpAny_standAt (wpAny_bind (wpAny_holding (yH (K := fun st' => Q .next st') k3 (vw.mono t3.le t3.mu) vj hl hw3.1 hw3.2.1 hw3.2.2 fun st' F' μ' s' hK k' t' => ?_))))
 exact PyProof.Rows.wpAny_release' (wpAny_deleteEach_nil (wpAny_pure (q .next st' F' μ' s' .next hK k' (tt.trans t').toS rfl)))
theorem vT {e : Expr} {x : X} {pos : Pos} (he : EnvOk Γ sc env) (hs : swapsWith e Option.none pos.line env = pure false) (hx : SE cx A Γ sc env h₀ (eval e env) x) : SX cx A Γ sc env h₀ (exec (.Expr e pos) env) (.expr x) := by
 intro F μ st s Q R E k hw q
 refine wpAny_Expr (hx F μ st s _ _ E k hw fun v st1 F1 μ1 s1 r hw1 k1 t1 vr => ?_) (by unfold interactive; rw [he.kind]; rfl) hs
 cases v with
 | none => subst vr; exact q .next st1 F1 μ1 s1 .next hw1 k1 t1.toS rfl
 | _ => exact hw1.elim
inductive TgtN (Γ : List Str) (sc : List (Str × NameKind)) : List Expr → List Nat → Prop
 | nil : TgtN Γ sc [] []
 | cons {x : Str} {p : Pos} {i : Nat} {r l} : (sc.lookup x = some .local ∨ sc.lookup x = some .cell) → ah Γ x = some i → TgtN Γ sc r l → TgtN Γ sc (.Name x p :: r) (i :: l)
theorem TgtN.len {ts : List Expr} {l : List Nat} (h : TgtN Γ sc ts l) : l.length = ts.length := by
 induction h with
 | nil => rfl
 | cons _ _ _ ih => simp [ih]
theorem TgtN.each {ts : List Expr} {l : List Nat} (h : TgtN Γ sc ts l) : (assignEach ts env).length = ts.length ∧ (assignEach ts env).findIdx? (·.1) = Option.none := by
 induction h with
 | nil => exact ⟨rfl, rfl⟩
 | @cons x p i r l _ _ _ ih =>
  have e : assignEach (.Name x p :: r) env = (false, assign (.Name x p) env) :: assignEach r env := rfl
  rw [e]
  refine ⟨by simp [ih.1], ?_⟩
  rw [List.findIdx?_cons]
  simp [ih.2]
theorem qC (he : EnvOk Γ sc env) {ts : List Expr} {l : List Nat} (h : TgtN Γ sc ts l) : ∀ {F : PH} {μ : List Addr} {st : St} {s : Shared} {vs : List V} {rs : List Value} {loc' : List (Option V)} {Q : Unit → Shared → Prop} {E : Value → Shared → Prop},
  Ok cx Γ sc env h₀ F μ st s.heap → VRs cx.sp F μ vs rs → eB l vs st.loc = some loc' → (∀ s', Ok cx Γ sc env h₀ F μ ⟨loc', st.cells⟩ s'.heap → TrS cx.P env F μ s F μ s' → Q () s') →
  wpAny (model cx.prog cx.w) A (assignInOrder ((assignEach ts env).map (·.2)) rs) Q E s := by
 induction h with
 | nil =>
  intro F μ st s vs rs loc' Q E k vr hs q
  cases vs with
  | nil =>
   obtain rfl := Option.some.inj hs
   obtain rfl := vr.nilI
   exact wpAny_pure (q s k (Tr.refl).toS)
  | cons v vs => cases hs
 | @cons x p i r l hx hi hr ih =>
  intro F μ st s vs rs loc' Q E k vr hs q
  cases vs with
  | nil => exact ab hs
  | cons v vs =>
   obtain ⟨r1, rs1, rfl, v1, v2⟩ := vr.consI
   show wpAny _ _ (holding rs1 (assign (.Name x p) env r1) >>= fun _ => assignInOrder ((assignEach r env).map (·.2)) rs1) _ _ _
   refine wpAny_bind (wpAny_holding (wpAny_assign_Name (dM he k hx hi v1 fun a h' tk ha hs' k2 => ?_)))
   exact ih (s := { s with heap := h', toks := tk }) k2 v2 hs fun s' k3 t3 => q s' k3 ((TrS.store ha (k2.aliveC ha) hs').trans t3)
theorem vU {prog : Program} {w : World} {A : Around} {E : Value → Shared → Prop} {s : Shared} {T : Addr} {ra rb : Value} {Q : List Value → Shared → Prop} (hh : A.handled = Option.none) (hT : s.heap.IsTuple T [ra, rb].toArray)
  (hQ : ∀ h', Heap.ExtBut s.heap.objs.size s.heap h' → Q [ra, rb] { s with heap := h' }) : wpAny (model prog w) A (unpackItems (.ref T) 2 Option.none) Q E s :=
 wpAny_unpackItems_tuple (items := [ra, rb].toArray) hh hT hQ
theorem sY (he : EnvOk Γ sc env) {x y : Str} {i j : Nat} {va vb : V} {ra rb : Value} {T : Addr} {F : PH} {μ : List Addr} {st : St} {s : Shared} {R : Flow → Shared → Prop} {E : Value → Shared → Prop} {stores : List (Value → Sem Unit)}
  (hx1 : sc.lookup x = some .local ∨ sc.lookup x = some .cell) (hi1 : ah Γ x = some i) (hx2 : sc.lookup y = some .local ∨ sc.lookup y = some .cell) (hi2 : ah Γ y = some j) (hne : x ≠ y) (hh : A.handled = Option.none)
  (k1 : Ok cx Γ sc env h₀ F μ st s.heap) (hT : s.heap.IsTuple T [ra, rb].toArray) (v1 : VR cx.sp F μ va ra) (v2 : VR cx.sp F μ vb rb)
  (q : ∀ s', Ok cx Γ sc env h₀ F μ ⟨(st.loc.set i (some va)).set j (some vb), st.cells⟩ s'.heap → TrS cx.P env F μ s F μ s' → R .next s') :
  wpAny (model cx.prog cx.w) A (assignStores env (.ref T) (some [x, y]) stores) R E s := by
 have hij : i ≠ j := fun e => hne (by have g1 := bY hi1; have g2 := bY hi2; rw [e, g2] at g1; exact (Option.some.inj g1).symm)
 have e2 : ((st.loc.set j (some vb)).set i (some va)) = ((st.loc.set i (some va)).set j (some vb)) := List.set_comm _ _ (Ne.symm hij)
 unfold assignStores
 refine wpAny_bind (wpAny_rule (wpAny_bind (vU hh hT fun h' hex => wpAny_bind ?_)))
 obtain ⟨k2, t2⟩ := k1.kept (t := s.toks) fun a o e => hex a o (Nat.ne_of_lt (Heap.lt_size e)) e
 have last : ∀ (a : Addr) (h2 : Heap) (tk : Nat), (a = env.locals ∨ ∃ n, (n, a) ∈ env.cells) → Heap.SameBut a h' h2 → Ok cx Γ sc env h₀ F μ ⟨st.loc.set j (some vb), st.cells⟩ h2 →
   wpAny (model cx.prog cx.w) A (assignInOrder [fun v => bindName env x v] [ra]) (fun _ s' => wpAny (model cx.prog cx.w) A (pure Flow.next) R E s') E { s with heap := h2, toks := tk } := fun a h2 tk ha hs2 k3 => by
  show wpAny _ _ (holding [] (bindName env x ra) >>= fun _ => assignInOrder [] []) _ _ _
  refine wpAny_bind (wpAny_holding (wpAny_bindName (dM he (s := { s with heap := h2, toks := tk }) k3 hx1 hi1 v1 fun b h4 tk2 hb hs4 k4 => ?_)))
  refine wpAny_pure (a := ()) (wpAny_pure ?_)
  simp only [e2] at k4
  exact q _ k4 (t2.toS.trans ((TrS.store (s := { s with heap := h' }) ha (k3.aliveC ha) hs2).trans (TrS.store hb (k4.aliveC hb) hs4)))
 show wpAny _ _ (holding [ra] (bindName env y rb) >>= fun _ => assignInOrder [fun v => bindName env x v] [ra]) _ _ _
 refine wpAny_bind (wpAny_holding (wpAny_bindName (dM he (s := { s with heap := h' }) k2 hx2 hi2 v2 fun a h2 tk ha hs2 k3 => last a h2 tk ha hs2 k3)))
inductive i8 (env : Env) (ts : List Expr) (c) (p : Pos) (e : Expr) : Prop
 | plain : swappedStores [.Tuple ts c p] e env = pure Option.none → i8 env ts c p e
 | two {x y : Str} {p1 p2 : Pos} : ts = [.Name x p1, .Name y p2] → x ≠ y → swappedStores [.Tuple ts c p] e env = pure (some [x, y]) → i8 env ts c p e
theorem s0 {ts : List Expr} {l : List Nat} {e : Expr} {x : X} {c} {p pos : Pos} (hh : A.handled = Option.none) (he : EnvOk Γ sc env) (ht : TgtN Γ sc ts l) (hsw : i8 env ts c p e) (hx : SE cx A Γ sc env h₀ (eval e env) x) :
  SX cx A Γ sc env h₀ (exec (.Assign [.Tuple ts c p] e pos) env) (.tuple l x) := by
 intro F μ st s Q R E k hw q
 rw [arm_exec_Assign]
 refine wpAny_bind (wpAny_standAt (wpAny_bind (wpAny_of_eq (show swapsWithSole [.Tuple ts c p] e pos.line env = pure false from mY (ts := ts) (c := c) (p := p) (l := pos.line) (env := env) e) ?_)))
 show wpAny _ _ (do let v ← eval e env; assignStores env v (← swappedStores [.Tuple ts c p] e env) ((assignEach [.Tuple ts c p] env).map (·.2))) _ _ _
 refine wpAny_bind (hx F μ st s _ _ E k hw fun v st1 F1 μ1 s1 r hw1 k1 t1 vr => ?_)
 cases v with
 | tup vs =>
  obtain ⟨loc', hset, hw1⟩ := dR hw1
  obtain ⟨h1, T, rs, rfl, h2, h3⟩ := vr
  have hT : s1.heap.IsTuple T rs.toArray := by
   obtain ⟨o, n, g1, g2, g3⟩ := h2; exact ⟨o, k1.fz _ _ g1, g2, n, g3⟩
  have hlen : l.length = vs.length := by
   have : ∀ (l : List Nat) (vs : List V) (loc loc' : List (Option V)), eB l vs loc = some loc' → l.length = vs.length := by
    intro l
    induction l with
    | nil => intro vs loc loc' h; cases vs with | nil => rfl | cons v vs => cases h
    | cons i l ih => intro vs loc loc' h; cases vs with | nil => cases h | cons v vs => simp [ih vs _ _ h]
   exact this _ _ _ _ hset
  have hrl := h3.length
  have htl := ht.len
  cases hsw with
  | plain hsw =>
   refine wpAny_bind (wpAny_of_eq hsw ?_)
   show wpAny (model cx.prog cx.w) A (do assign (.Tuple ts c p) env (.ref T); pure Flow.next) R E s1
   refine wpAny_bind (wpAny_assign_Tuple hh hT (by rw [ht.each.1]; simp; exact By hlen htl hrl) ht.each.2 fun h' hex => ?_)
   obtain ⟨k2, t2⟩ := k1.kept (t := s1.toks) fun a o e => hex a o (Nat.ne_of_lt (Heap.lt_size e)) e
   exact qC he ht (s := { s1 with heap := h' }) k2 h3 hset fun s' k3 t3 => wpAny_pure (q .next _ F1 μ1 s' .next hw1 k3 ((t1.trans t2).toS.trans t3) rfl)
  | @two x y p1 p2 hts hne hsw =>
   subst hts
   refine wpAny_bind (wpAny_of_eq hsw ?_)
   cases ht with
   | @cons _ _ i _ _ hx1 hi1 ht1 =>
   cases ht1 with
   | @cons _ _ j _ _ hx2 hi2 ht2 =>
   cases ht2
   cases vs with
   | nil => simp at hlen
   | cons va vs =>
   cases vs with
   | nil => simp at hlen
   | cons vb vs =>
   cases vs with
   | cons vc vs => simp at hlen
   | nil =>
   obtain ⟨ra, rb, rfl, v1, v2⟩ := VRs.two h3
   obtain rfl := Option.some.inj hset
   refine sY he hx1 hi1 hx2 hi2 hne hh k1 hT v1 v2 fun s' k3 t3 => q .next _ F1 μ1 s' .next hw1 k3 (t1.toS.trans t3) rfl
 | _ => exact hw1.elim
end
end Mine
namespace Mine
open PySem PySem.W PySem.Calls PyProof.Rows
section
variable {cx : Cx} {A : Around} {Γ : List Str} {sc : List (Str × NameKind)} {env : Env} {h₀ : Heap}
theorem zm {t : Expr} {b : List Stmt} {x : X} {y : List S} {pos : Pos} (ht : SB cx A Γ sc env h₀ (isTrue t env (eval t env)) x) (hb : SXs cx A Γ sc env h₀ (execs b env) y) :
  SX cx A Γ sc env h₀ (exec (.While t b [] pos) env) (.whl x y) := by
 intro F μ st s Q R E k hw q
 obtain ⟨n, hw⟩ := hw
 refine wpAny_While ?_
 refine codeAny_whileLoop (fun n s' => ∃ F' μ' st', Ok cx Γ sc env h₀ F' μ' st' s'.heap ∧ TrS cx.P env F μ s F' μ' s' ∧ aC (WT cx.fns x) (WSs cx.fns y) Q n st') ?_ n ⟨F, μ, st, k, (Tr.refl).toS, hw⟩
 rintro n s1 ⟨F1, μ1, st1, k1, t1, hw1⟩
 cases n with
 | zero => exact hw1.elim
 | succ n =>
  rw [aC] at hw1
  refine ht F1 μ1 st1 s1 _ _ _ k1 hw1 fun c st2 F2 μ2 s2 hw2 k2 t2 => ?_
  cases c with
  | false =>
   exact wpAny_execs_nil (q .next st2 F2 μ2 s2 .next hw2 k2 (t1.trans t2.toS) rfl)
  | true =>
   refine hb F2 μ2 st2 s2 _ _ _ k2 hw2 fun fl st3 F3 μ3 s3 f hw3 k3 t3 hf => ?_
   have tt := (t1.trans t2.toS).trans t3
   cases fl with
   | next => obtain rfl : f = .next := hf; exact ⟨n, Nat.lt_succ_self n, F3, μ3, st3, k3, tt, hw3⟩
   | cont => obtain rfl : f = .cont := hf; exact ⟨n, Nat.lt_succ_self n, F3, μ3, st3, k3, tt, hw3⟩
   | brk => obtain rfl : f = .brk := hf; exact q .next st3 F3 μ3 s3 .next hw3 k3 tt rfl
   | ret v => obtain ⟨r, rfl, hv⟩ : ∃ r, f = .ret r ∧ _ := hf; exact q (.ret v) st3 F3 μ3 s3 (.ret r) hw3 k3 tt ⟨r, rfl, hv⟩
theorem zo {n : Str} {i : Nat} {it : Expr} {b : List Stmt} {x : X} {y : List S} {p pos : Pos} (hh : A.handled = Option.none) (he : EnvOk Γ sc env) (hn : sc.lookup n = some .local ∨ sc.lookup n = some .cell) (hi : ah Γ n = some i) (fi : d4 it)
  (hx : SE cx A Γ sc env h₀ (eval it env) x) (hb : SXs cx A Γ sc env h₀ (execs b env) y) : SX cx A Γ sc env h₀ (exec (.For (.Name n p) it b [] pos) env) (.for i x y) := by
 intro F μ st s Q R E k hw q
 refine wpAny_For (hx F μ st s _ _ E k hw fun v st1 F1 μ1 s1 rv hw1 k1 t1 vv => ?_) (fi.fold env)
 obtain ⟨items, hit, hlen, hw1⟩ := dR hw1
 refine nz hh k1 vv hit fun I St o hI itr hfr st0 => ?_
 have hI1 : s1.heap.get? I = Option.none := by rw [hI]; exact bu _
 obtain ⟨k2, t2⟩ := k1.waste o (t := s1.toks)
 have aI2 : (s1.heap.push o).get? I ≠ Option.none := by rw [hI, Heap.get?_push_size _ hfr]; simp
 have offI : Off cx env h₀ F1 μ1 I := Off.fresh k1 hI1
 refine codeAny_forLoop (fun n s' => ∃ j F' μ' st', j ≤ items.length ∧ n = items.length - j ∧ Ok cx Γ sc env h₀ F' μ' st' s'.heap ∧ TrS cx.P env F1 μ1 s1 F' μ' s' ∧ Off cx env h₀ F' μ' I ∧ s'.heap.get? I ≠ Option.none ∧ St j s'.heap ∧
  cf (fun x Q st => WSs cx.fns y Q ⟨st.loc.set i (some x), st.cells⟩) Q (items.drop j) st') ?_ items.length ⟨0, F1, μ1, st1, Nat.zero_le _, rfl, k2, (Tr.trans Tr.refl t2).toS, offI, aI2, st0, hw1⟩
 rintro n' s3 ⟨j, F3, μ3, st3, hj, rfl, k3, t3, oI, aI, sj, hw3⟩
 by_cases hlt : j < items.length
 ·rw [List.drop_eq_getElem_cons hlt, cf] at hw3
  refine itr.item j s3 _ _ items[j] (by simp [hlt]) sj fun r h' tk vr sj' hk aI' => ?_
  have hk' : ∀ a o, a ≠ I → s3.heap.get? a = some o → h'.get? a = some o := hk
  have k4 := k3.touch oI hk'
  have t4 : TrS cx.P env F1 μ1 s1 F3 μ3 { s3 with heap := h', toks := tk } :=
   ⟨t3.le, t3.mu, fun a o h1 h2 h3 h4 h5 => hk' a o (fun e => by rw [e, hI1] at h1; cases h1) (t3.keep a o h1 h2 h3 h4 h5), fun a ha => by
    cases e : s3.heap.get? a with
    | none => exact absurd e (t3.alive a ha)
    | some o => rw [show ({ s3 with heap := h', toks := tk } : Shared).heap.get? a = some o from hk' a o (fun e2 => ha (e2 ▸ hI1)) e]; simp, t3.new, t3.newM, t3.os, t3.gens⟩
  refine wpAny_assign_Name (dM he (s := { s3 with heap := h', toks := tk }) k4 hn hi (vr.mono t3.le t3.mu) fun a h5 tk5 ha hs5 k5 => ?_)
  have hIa : I ≠ a := fun e => by
   rcases ha with ha | ⟨nn, ha⟩
   ·exact oI.l (e.trans ha)
   ·exact oI.c nn a ha e.symm
  have t5 := t4.trans (TrS.store (s := { s3 with heap := h', toks := tk }) (tk := tk5) ha (k5.aliveC ha) hs5)
  have sj5 : St (j + 1) h5 := itr.frame _ _ _ sj' fun b' hb' o' e => hs5.extBut b' o' (fun q => by
   rcases hb' with hb' | hb'
   ·exact hIa (hb'.symm.trans q)
   ·have hF3 : F3 b' ≠ Option.none := by
     cases e3 : F1 b' with
     | none => exact absurd e3 hb'
     | some o3 => rw [t3.le _ _ e3]; simp
    rcases ha with ha | ⟨nn, ha⟩
    ·rw [q, ha] at hF3; exact hF3 k4.fL
    ·rw [q] at hF3; exact hF3 (k4.fC nn a ha)) e
  have aI5 : h5.get? I ≠ Option.none := by
   cases e : h'.get? I with
   | none => exact absurd e aI'
   | some o' => rw [hs5.extBut I o' hIa e]; simp
  refine hb F3 μ3 _ { s3 with heap := h5, toks := tk5 } _ _ _ k5 hw3 fun fl st6 F6 μ6 s6 f hw6 k6 t6 hf => ?_
  have tt := t5.trans t6
  have nmI : I ∉ μ6 := fun q => (t6.newM I q).elim oI.m aI5
  have nfI : F6 I = Option.none := Classical.byContradiction fun q => (t6.new I q).elim (fun z => z oI.f) aI5
  have kI : ∀ o, h5.get? I = some o → s6.heap.get? I = some o := fun o e => t6.keep I o e oI.m oI.p oI.l (fun nn h => oI.c nn I h rfl)
  have sj6 : St (j + 1) s6.heap := itr.frame _ _ _ sj5 fun b' hb' o' e => by
   rcases hb' with hb' | hb'
   ·rw [hb'] at e ⊢; exact kI o' e
   ·cases e3 : F1 b' with
    | none => exact absurd e3 hb'
    | some o3 =>
     have e4 := k5.fz _ _ (t3.le _ _ e3)
     rw [show h5.get? b' = some o' from e] at e4
     obtain rfl := Option.some.inj e4
     exact k6.fz _ _ (t6.le _ _ (t3.le _ _ e3))
  have next : ∃ m, m < items.length - j ∧ ∃ j F' μ' st', j ≤ items.length ∧ m = items.length - j ∧ Ok cx Γ sc env h₀ F' μ' st' s6.heap ∧ TrS cx.P env F1 μ1 s1 F' μ' s6 ∧ Off cx env h₀ F' μ' I ∧ s6.heap.get? I ≠ Option.none ∧ St j s6.heap ∧
    (cf (fun x Q st => WSs cx.fns y Q ⟨st.loc.set i (some x), st.cells⟩) Q (items.drop (j)) st' ∨ True) := ⟨items.length - (j + 1), rS hlt, j + 1, F6, μ6, st6, hlt, rfl, k6, tt, ⟨nfI, nmI, oI.l, oI.p, oI.c, oI.o⟩, t6.alive I aI5, sj6, .inr trivial⟩
  cases fl with
  | next => obtain rfl : f = .next := hf; exact ⟨items.length - (j + 1), by omega, j + 1, F6, μ6, st6, hlt, rfl, k6, tt, ⟨nfI, nmI, oI.l, oI.p, oI.c, oI.o⟩, t6.alive I aI5, sj6, hw6⟩
  | cont => obtain rfl : f = .cont := hf; exact ⟨items.length - (j + 1), by omega, j + 1, F6, μ6, st6, hlt, rfl, k6, tt, ⟨nfI, nmI, oI.l, oI.p, oI.c, oI.o⟩, t6.alive I aI5, sj6, hw6⟩
  | brk => obtain rfl : f = .brk := hf; exact q .next st6 F6 μ6 s6 .next hw6 k6 (t1.toS.trans tt) rfl
  | ret v => obtain ⟨r, rfl, hv⟩ : ∃ r, f = .ret r ∧ _ := hf; exact q (.ret v) st6 F6 μ6 s6 (.ret r) hw6 k6 (t1.toS.trans tt) ⟨r, rfl, hv⟩
 ·have hin : j = items.length := wU hj hlt
  subst hin
  rw [List.drop_length, cf] at hw3
  refine itr.done s3 _ _ sj fun h' tk hk => ?_
  have hk' : ∀ a o, a ≠ I → s3.heap.get? a = some o → h'.get? a = some o := hk
  have k4 := k3.touch oI hk'
  have t4 : TrS cx.P env F1 μ1 s1 F3 μ3 { s3 with heap := h', toks := tk } :=
   ⟨t3.le, t3.mu, fun a o h1 h2 h3 h4 h5 => hk' a o (fun e => by rw [e, hI1] at h1; exact ab h1) (t3.keep a o h1 h2 h3 h4 h5), fun a ha => by
    cases e : s3.heap.get? a with
    | none => exact absurd e (t3.alive a ha)
    | some o => rw [show ({ s3 with heap := h', toks := tk } : Shared).heap.get? a = some o from hk' a o (fun e2 => ha (e2 ▸ hI1)) e]; simp, t3.new, t3.newM, t3.os, t3.gens⟩
  exact wpAny_execs_nil (q .next st3 F3 μ3 _ .next hw3 k4 (t1.toS.trans t4) rfl)
end
end Mine
namespace Mine
open PySem PySem.W PySem.Calls PyProof.Rows
section
variable {cx : Cx} {A : Around}
theorem zp : cz cx A .len (.builtin "len") (· = []) := by
 intro Γ sc env h₀ F μ st s K Q E vs rs tl k vr htl hw q
 subst htl
 refine ex2 (c4 hw) fun v eq0 hw => ?_; subst eq0
 obtain ⟨r, rs1, rfl, v1, v2⟩ := vr.consI
 obtain rfl := v2.nilI
 exact yK k v1 hw q
theorem VR.obj {sp : Addr} {F : PH} {μ : List Addr} {a b c : Int} {x : Addr} {t u v : Tok} (ha : small a) (hb : small b) (hc : c = 1 ∨ c = -1) (h : F x = some { cls := .type "range", dict := Option.none, data := .fields #[.int a t, .int b u, .int c v], slots := #[] }) : VR sp F μ (.rng a b c) (.ref x) :=
 ⟨ha, hb, hc, x, t, u, v, rfl, h⟩
theorem zq : small 0 := ⟨BA, Bz⟩
theorem vV {Γ : List Str} {sc : List (Str × NameKind)} {env : Env} {h₀ : Heap} {F : PH} {μ : List Addr} {st : St} {s : Shared} {K : V → Prop} {Q : Value → Shared → Prop} {E : Value → Shared → Prop} (k : Ok cx Γ sc env h₀ F μ st s.heap) (b : Int) {t : Tok} (hb : small b) (hw : K (.rng 0 b 1)) (q : Post cx Γ sc env h₀ F μ st s K Q) : wpAny (model cx.prog cx.w) A (call (.type "range") [.int b t]) Q E s := by
 refine call_range_1 ?_
 obtain ⟨k', tr, e⟩ := k.made { cls := .type "range", data := .fields #[.int 0 s.toks, .int b t, .int 1 (s.toks + 1)] } rfl (t := s.toks + 1 + 1)
 exact q (.rng 0 b 1) _ _ _ hw k' tr (VR.obj zq hb (.inl rfl) e)
theorem vW {Γ : List Str} {sc : List (Str × NameKind)} {env : Env} {h₀ : Heap} {F : PH} {μ : List Addr} {st : St} {s : Shared} {K : V → Prop} {Q : Value → Shared → Prop} {E : Value → Shared → Prop} (k : Ok cx Γ sc env h₀ F μ st s.heap) (a b : Int) {t u : Tok} (ha : small a) (hb : small b) (hw : K (.rng a b 1)) (q : Post cx Γ sc env h₀ F μ st s K Q) : wpAny (model cx.prog cx.w) A (call (.type "range") [.int a t, .int b u]) Q E s := by
 refine call_range_2 ?_
 obtain ⟨k', tr, e⟩ := k.made { cls := .type "range", data := .fields #[.int a t, .int b u, .int 1 s.toks] } rfl (t := s.toks + 1)
 exact q (.rng a b 1) _ _ _ hw k' tr (VR.obj ha hb (.inl rfl) e)
theorem vX {Γ : List Str} {sc : List (Str × NameKind)} {env : Env} {h₀ : Heap} {F : PH} {μ : List Addr} {st : St} {s : Shared} {K : V → Prop} {Q : Value → Shared → Prop} {E : Value → Shared → Prop} (k : Ok cx Γ sc env h₀ F μ st s.heap) (a b : Int) {t u w : Tok} (ha : small a) (hb : small b) (hw : K (.rng a b (-1))) (q : Post cx Γ sc env h₀ F μ st s K Q) : wpAny (model cx.prog cx.w) A (call (.type "range") [.int a t, .int b u, .int (-1) w]) Q E s := by
 refine call_range_3 (by decide) ?_ (.inl (PyProof.noPylong_small (by decide)))
 obtain ⟨k', tr, e⟩ := k.made { cls := .type "range", data := .fields #[.int a t, .int b u, .int (-1) w] } rfl (t := s.toks)
 exact q (.rng a b (-1)) _ _ _ hw k' tr (VR.obj ha hb (.inr rfl) e)
theorem s7 : cz cx A .range (.type "range") (· = []) := by
 intro Γ sc env h₀ F μ st s K Q E vs rs tl k vr htl hw q
 subst htl
 rw [List.append_nil]
 cases vs with
 | nil => exact hw.elim
 | cons a vs =>
  refine ex2 (bn hw) fun a eq0 hw => ?_; subst eq0
  obtain ⟨r, rs1, rfl, ⟨t, rfl⟩, v2⟩ := vr.consI
  cases vs with
  | nil =>
   obtain rfl := v2.nilI
   exact vV k a hw.1 hw.2 q
  | cons b vs =>
   refine ex2 (bn hw) fun b eq0 hw => ?_; subst eq0
   obtain ⟨r2, rs2, rfl, ⟨u, rfl⟩, v3⟩ := v2.consI
   cases vs with
   | nil =>
    obtain rfl := v3.nilI
    exact vW k a b hw.1 hw.2.1 hw.2.2 q
   | cons c vs =>
    obtain ⟨rfl, hw⟩ := hV hw
    refine ex2 (bn hw) fun c eq0 hw => ?_; subst eq0
    obtain ⟨r3, rs3, rfl, ⟨w, rfl⟩, v4⟩ := v3.consI
    obtain rfl := v4.nilI
    obtain ⟨h1, h2, rfl, h3⟩ := hw
    exact vX k a b h1 h2 h3 q
theorem zr : cz cx A .ord (.builtin "ord") (· = []) := by
 intro Γ sc env h₀ F μ st s K Q E vs rs tl k vr htl hw q
 subst htl
 rw [List.append_nil]
 refine ex2 (c4 hw) fun v eq0 hw => ?_; subst eq0
 refine ex2 (iP hw) fun c eq0 hw => ?_; subst eq0
 obtain ⟨r, rs1, rfl, ⟨_, t, rfl⟩, v2⟩ := vr.consI
 obtain rfl := v2.nilI
 exact P.ord_of_char (q (.int c) F _ _ hw k Tr.tok ⟨_, rfl⟩)
theorem zs : cz cx A .chr (.builtin "chr") (· = []) := by
 intro Γ sc env h₀ F μ st s K Q E vs rs tl k vr htl hw q
 subst htl
 rw [List.append_nil]
 refine ex2 (c4 hw) fun v eq0 hw => ?_; subst eq0
 refine ex2 (bn hw) fun i eq0 hw => ?_; subst eq0
 obtain ⟨r, rs1, rfl, ⟨t, rfl⟩, v2⟩ := vr.consI
 obtain rfl := v2.nilI
 exact PyProof.Rows.chr_of_range hw.1 (by have := hw.2.1; omega) (q (.str [i.toNat]) F _ _ hw.2.2 k Tr.tok ⟨by simp [lim], _, rfl⟩)
theorem s8 : cz cx A .int16 (.type "int") (fun tl => ∃ t, tl = [.int 16 t]) := by
 intro Γ sc env h₀ F μ st s K Q E vs rs tl k vr htl hw q
 obtain ⟨u, rfl⟩ := htl
 refine ex2 (c4 hw) fun v eq0 hw => ?_; subst eq0
 refine ex2 (bQ hw) fun x eq0 hw => ?_; subst eq0
 obtain ⟨c, d, rfl, hw⟩ := um hw
 refine ex2 (bP hw) fun a hc hw => ?_
 refine ex2 (bP hw) fun b hd hw => ?_
 obtain ⟨r, rs1, rfl, ⟨_, t, rfl⟩, v2⟩ := vr.consI
 obtain rfl := v2.nilI
 exact oG hc hd (q (.int (16 * a + b : Nat)) F _ _ hw k Tr.tok ⟨_, rfl⟩)
theorem zt {l : List Int} {K : Int → List Int → Prop} (h : hd? l K) : ∃ x r, l = x :: r ∧ K x r := by
 cases l with
 | nil => exact h.elim
 | cons x r => exact ⟨x, r, rfl, h⟩
theorem zu (hh : A.handled = Option.none) : cz cx A .max (.builtin "max") (· = []) := by
 intro Γ sc env h₀ F μ st s K Q E vs rs tl k vr htl hw q
 subst htl
 rw [List.append_nil]
 refine ex2 (c4 hw) fun v eq0 hw => ?_; subst eq0
 refine ex2 (bP hw) fun l hl hw => ?_
 obtain ⟨x, l, rfl, hw⟩ := zt hw
 obtain ⟨r, rs1, rfl, v1, v2⟩ := vr.consI
 obtain rfl := v2.nilI
 exact (ki hh k v1 hl).1 hw q
theorem zv (hh : A.handled = Option.none) : cz cx A .min (.builtin "min") (· = []) := by
 intro Γ sc env h₀ F μ st s K Q E vs rs tl k vr htl hw q
 subst htl
 rw [List.append_nil]
 refine ex2 (c4 hw) fun v eq0 hw => ?_; subst eq0
 refine ex2 (bP hw) fun l hl hw => ?_
 obtain ⟨x, l, rfl, hw⟩ := zt hw
 obtain ⟨r, rs1, rfl, v1, v2⟩ := vr.consI
 obtain rfl := v2.nilI
 exact (ki hh k v1 hl).2 hw q
theorem qD : cz cx A .object (.type "object") (· = []) := by
 intro Γ sc env h₀ F μ st s K Q E vs rs tl k vr htl hw q
 subst htl
 rw [List.append_nil]
 obtain ⟨rfl, hw⟩ := hV hw
 obtain rfl := vr.nilI
 refine mQ ?_
 obtain ⟨k', tr, e⟩ := k.made { cls := .type "object", data := .plain } rfl (t := s.toks)
 exact q (.con (.ref s.heap.objs.size)) _ _ _ (hw _) k' tr rfl
theorem s9 : cz cx A .isStr (.builtin "isinstance") (· = [.type "str"]) := by
 intro Γ sc env h₀ F μ st s K Q E vs rs tl k vr htl hw q
 subst htl
 refine ex2 (c4 hw) fun v eq0 hw => ?_; subst eq0
 refine ex2 (bQ hw) fun x eq0 hw => ?_; subst eq0
 obtain ⟨r, rs1, rfl, ⟨_, t, rfl⟩, v2⟩ := vr.consI
 obtain rfl := v2.nilI
 exact IsiPair.str_str (q (.bool true) F _ _ hw k Tr.refl rfl)
end
end Mine
namespace Mine
open PySem PySem.W PySem.Calls PyProof.Rows
structure qE (cx : Cx) (A : Around) : Prop where
 jgen : ∀ (Γ : List Str) (sc : List (Str × NameKind)) (env : Env) (h₀ : Heap), EnvOk Γ sc env → env.code = .ref cx.pc →
  ∀ (sep : Str) (k : Nat) (p apos pos : Pos) (x' x src : Str) (q1 q2 q3 : Pos) (ap1 ap2 p1 p2 gp : Pos) (c1 d1 c2 d2 : Str) (k1 k2 k3 k4 : Nat) (r1 r2 r3 r4 : Pos) (scope : Scope) (i : Nat),
   (apos.endLine == pos.line) = true → x' = x → ap1.endLine == p1.line → ap2.endLine == p2.line → c1.cps = #[92] → c2.cps = #[45] → x ≠ "__debug__" → sc.lookup src = some .local → src ≠ "__debug__" → scope.kind = .function → scope.isGenerator = true → scope.isCoroutine = false → sep.cps.size ≤ 100 →
   x ≠ ".0" → scope.names.lookup x = some .local → scope.names.lookup (".0" : Str) = some .local → (∀ y ∈ scope.names, y.2 = .local) → ah Γ src = some i →
   SE cx A Γ sc env h₀ (eval (.Call (.Attribute (.Constant (.str sep) k p) "join" apos) [.GeneratorExp (.Call (.Attribute (.Call (.Attribute (.Name x' q1) "replace" ap1) [.Constant (.str c1) k1 r1, .Constant (.str d1) k2 r2] [] p1) "replace" ap2) [.Constant (.str c2) k3 r3, .Constant (.str d2) k4 r4] [] p2)
    [⟨.Name x q2, .Name src q3, [], 0⟩] scope gp] [] pos) env) (.jgen sep.cps.toList i)
 sub : ∀ (Γ : List Str) (sc : List (Str × NameKind)) (env : Env) (h₀ : Heap), EnvOk Γ sc env → env.code = .ref cx.pc →
  ∀ (q1 apos pos lp : Pos) (ar : Arguments) (b : Expr) (scope : Scope) (a : Expr) (x : X), (apos.endLine == pos.line) = true → sc.lookup ("_twin_re_1" : Str) = some .globalImplicit → d4 a → ar.defaults = [] → ar.kw_defaults = [] → (∀ y ∈ scope.names, y.2 ≠ .free) → SE cx A Γ sc env h₀ (eval a env) x →
   SE cx A Γ sc env h₀ (eval (.Call (.Attribute (.Name "_twin_re_1" q1) "sub" apos) [.Lambda ar b scope lp, a] [] pos) env) (.sub x)
structure Hyp (cx : Cx) (A : Around) (sp : Bool) : Prop where
 hh : A.handled = Option.none
 hu : A.units < cLine
 spc : gm cx
 len : aZ cx "len" (.builtin "len")
 range : aZ cx "range" (.type "range")
 ord : aZ cx "ord" (.builtin "ord")
 chr : aZ cx "chr" (.builtin "chr")
 int : aZ cx "int" (.type "int")
 min : aZ cx "min" (.builtin "min")
 max : aZ cx "max" (.builtin "max")
 object : aZ cx "object" (.type "object")
 isi : aZ cx "isinstance" (.builtin "isinstance")
 str : aZ cx "str" (.type "str")
 hexd : ∃ v, aZ cx "hexdigits" v ∧ VR cx.sp cx.g.get? [] (gi .hexdigits) v
 quo : ∃ v, aZ cx "_QUOPRI_MAP" v ∧ VR cx.sp cx.g.get? [] (gi .quopri) v
 spe : ∃ v, aZ cx "_special_chars_map" v ∧ VR cx.sp cx.g.get? [] (gi .special) v
 fns : ∀ n x, defNames[n]? = some x → ∃ f, aZ cx x f ∧ i5 cx f ∧ cz cx A (.fn n) f (· = [])
 spec : sp = true → qE cx A
theorem tc : ∀ (x : X), (∀ a b, x ≠ .and a b) → (∀ a b, x ≠ .or a b) → (∀ a, x ≠ .not a) → (∀ a b c, x ≠ .ite a b c) → (∀ a b c, x ≠ .cmp a b c) → (∀ a b c d e, x ≠ .cmp2 a b c d e) → fD x := by
 intro x h1 h2 h3 h4 h5 h6 fns K st hw
 cases x with
 | and a b => exact absurd rfl (h1 a b)
 | or a b => exact absurd rfl (h2 a b)
 | not a => exact absurd rfl (h3 a)
 | ite a b c => exact absurd rfl (h4 a b c)
 | cmp a b c => exact absurd rfl (h5 a b c)
 | cmp2 a b c d e => exact absurd rfl (h6 a b c d e)
 | cst v => exact hw
 | loc i => exact hw
 | call g args => exact hw
 | meth m o args => exact hw
 | _ => exact hw.elim
section
variable {cx : Cx} {A : Around} {sp : Bool}
noncomputable def Both (cx : Cx) (A : Around) (Γ : List Str) (sc : List (Str × NameKind)) (env : Env) (h₀ : Heap) (e : Expr) (x : X) : Prop :=
 SE cx A Γ sc env h₀ (eval e env) x ∧ SB cx A Γ sc env h₀ (isTrue e env (eval e env)) x
theorem Both.plain {Γ : List Str} {sc : List (Str × NameKind)} {env : Env} {h₀ : Heap} {e : Expr} {x : X} (h : SE cx A Γ sc env h₀ (eval e env) x) (hp : fD x) (hi : isTrue e env (eval e env) = (do let v ← eval e env; standAt e.pos; holding [v] (truthy v))) : Both cx A Γ sc env h₀ e x :=
 ⟨h, sQ hp h hi⟩
theorem bv {α β : Type} {f : α → Option β} {a : α} {r : List α} {l : List β} (h : aO f (a :: r) = some l) : ∃ b l', f a = some b ∧ aO f r = some l' ∧ l = b :: l' := by
 unfold aO at h
 split at h
 ·rename_i b l' h1 h2; obtain rfl := Option.some.inj h; exact ⟨b, l', h1, h2, rfl⟩
 ·exact ab h
theorem iE {α β : Type} {f : α → Option β} : ∀ {r : List α} {l : List β}, aO f r = some l → l.length = r.length
 | [], _, h => by obtain rfl := Option.some.inj h; rfl
 | a :: r, l, h => by
  obtain ⟨b, l', _, h2, rfl⟩ := bv h
  simp [iE h2]
noncomputable def IHE (cx : Cx) (A : Around) (sp : Bool) (n : Nat) : Prop := ∀ (Γ : List Str) (sc : List (Str × NameKind)) (e : Expr) (x : X) (env : Env) (h₀ : Heap), EnvOk Γ sc env → (sp = true → env.code = .ref cx.pc) → cE sp n Γ sc e = some x → Both cx A Γ sc env h₀ e x
theorem ia {n : Nat} (ih : IHE cx A sp n) {Γ : List Str} {sc : List (Str × NameKind)} {env : Env} {h₀ : Heap} (he : EnvOk Γ sc env) (hc : sp = true → env.code = .ref cx.pc) : ∀ {es : List Expr} {xs : List X}, aO (cE sp n Γ sc) es = some xs → SA cx A Γ sc env h₀ es xs (· = [])
 | [], xs, h => by obtain rfl := Option.some.inj h; exact SA.nil
 | e :: es, xs, h => by
  obtain ⟨b, l', h1, h2, rfl⟩ := bv h
  exact SA.cons (cH h1) (ih Γ sc e b env h₀ he hc h1).1 (ia ih he hc h2)
theorem j0 {n : Nat} (ih : IHE cx A sp n) {Γ : List Str} {sc : List (Str × NameKind)} {env : Env} {h₀ : Heap} (he : EnvOk Γ sc env) (hc : sp = true → env.code = .ref cx.pc) {tl : List Expr} {ex : List Value → Prop} (ht : SA cx A Γ sc env h₀ tl [] ex) : ∀ {es : List Expr} {xs : List X}, aO (cE sp n Γ sc) es = some xs → SA cx A Γ sc env h₀ (es ++ tl) xs ex
 | [], xs, h => by obtain rfl := Option.some.inj h; exact ht
 | e :: es, xs, h => by
  obtain ⟨b, l', h1, h2, rfl⟩ := bv h
  exact SA.cons (cH h1) (ih Γ sc e b env h₀ he hc h1).1 (j0 ih he hc ht h2)
theorem lM {n : Nat} (ih : IHE cx A sp n) {Γ : List Str} {sc : List (Str × NameKind)} {env : Env} {h₀ : Heap} (he : EnvOk Γ sc env) (hc : sp = true → env.code = .ref cx.pc) : ∀ {es : List Expr} {xs : List X}, aO (cE sp n Γ sc) es = some xs → SBs cx A Γ sc env h₀ es xs
 | [], xs, h => by obtain rfl := Option.some.inj h; exact .nil
 | e :: es, xs, h => by
  obtain ⟨b, l', h1, h2, rfl⟩ := bv h
  exact .cons (ih Γ sc e b env h₀ he hc h1).2 (lM ih he hc h2)
theorem slotOf_at : ∀ {l : List Str} {x : Str} {i : Nat}, ah l x = some i → l[i]? = some x := bY
end
end Mine
namespace Mine
open PySem PySem.W PySem.Calls PyProof.Rows
noncomputable def qF : X → Bool
 | .and .. | .or .. | .not .. | .ite .. | .cmp .. | .cmp2 .. => false
 | _ => true
theorem aP (x : X) (h : qF x = true) : fD x := by
 refine tc x ?_ ?_ ?_ ?_ ?_ ?_ <;> (intros; rintro rfl; exact aH h)
section
variable {cx : Cx} {A : Around} {sp : Bool}
theorem aL {α β : Type} {f : α → β} {o : Option α} {b : β} {P : Prop} (h : o.map f = some b) (k : ∀ a, o = some a → b = f a → P) : P := by
 cases o with
 | none => exact cn h.symm
 | some a => exact k a rfl (Option.some.inj h).symm
theorem ak {α β : Type} {f : α → Option β} {o : Option α} {b : β} {P : Prop} (h : o.bind f = some b) (k : ∀ a, o = some a → f a = some b → P) : P := by
 cases o with
 | none => exact cn h.symm
 | some a => exact k a rfl h
theorem aX {α : Type} {c : Bool} {o : Option α} {b : α} {P : Prop} (h : (if c = true then o else Option.none) = some b) (k : c = true → o = some b → P) : P := by
 cases c with
 | false => exact cn h.symm
 | true => exact k rfl h
theorem dq {α : Type} {c : Bool} {o : Option α} {b : α} {P : Prop} (h : (if c = true then Option.none else o) = some b) (k : c = false → o = some b → P) : P := by
 cases c with
 | true => exact cn h.symm
 | false => exact k rfl h
theorem gr {α : Type} {c : Prop} [Decidable c] {o : Option α} {b : α} {P : Prop} (h : (if c then Option.none else o) = some b) (k : ¬ c → o = some b → P) : P := by
 by_cases q : c
 ·rw [if_pos q] at h; exact ab h
 ·rw [if_neg q] at h; exact k q h
theorem dN {α β γ : Type} {f : α → β → γ} {a : Option α} {b : Option β} {y : γ} {P : Prop} (h : two f a b = some y) (k : ∀ x z, a = some x → b = some z → y = f x z → P) : P :=
 ak h fun x h1 h => aL h fun z h2 e => k x z h1 h2 e
theorem dr {α β γ δ : Type} {f : α → β → γ → δ} {a : Option α} {b : Option β} {c : Option γ} {y : δ} {P : Prop} (h : dY f a b c = some y) (k : ∀ x z w, a = some x → b = some z → c = some w → y = f x z w → P) : P :=
 ak h fun x h1 h => ak h fun z h2 h => aL h fun w h3 e => k x z w h1 h2 h3 e
theorem ch {e : Expr} {x : Str} (h : c5 e = some x) : ∃ p, e = .Name x p := by
 refine eK (P := fun e o => o = some x → ∃ p, e = .Name x p) e ?_ ?_ ?_ ?_ ?_ ?_ ?_ ?_ ?_ ?_ ?_ ?_ ?_ h <;> intros <;> first | exact ab ‹_› | exact ⟨_, congrArg (Expr.Name · _) (Option.some.inj ‹_›)⟩
theorem ko {e : Expr} {x : Const} (h : lm e = some x) : ∃ k p, e = .Constant x k p := by
 refine eK (P := fun e o => o = some x → ∃ k p, e = .Constant x k p) e ?_ ?_ ?_ ?_ ?_ ?_ ?_ ?_ ?_ ?_ ?_ ?_ ?_ h <;> intros <;> first | exact ab ‹_› | exact ⟨_, _, congrArg (Expr.Constant · _ _) (Option.some.inj ‹_›)⟩
theorem lN {e : Const} {x : Str} (h : om e = some x) : e = .str x := by cases e <;> cases h; rfl
theorem td {e : Const} {x : Int} (h : ut e = some x) : e = .int x := by cases e <;> cases h; rfl
theorem j1 {e : Expr} {x : Str} (h : on e = some x) : ∃ k p, e = .Constant (.str x) k p := by
 refine ak h fun c h1 h2 => ?_
 obtain rfl := lN h2
 exact ko h1
theorem fY {e : Expr} {x : Int} (h : jN e = some x) : ∃ k p, e = .Constant (.int x) k p := by
 refine ak h fun c h1 h2 => ?_
 obtain rfl := td h2
 exact ko h1
theorem qG {o : UnaryOp} (h : qe o = true) : o = .USub := by cases o <;> cases h; rfl
theorem te {e x : Expr} (h : uu e = some x) : ∃ p, e = .UnaryOp .USub x p := by
 refine eK (P := fun e o => o = some x → ∃ p, e = .UnaryOp .USub x p) e ?_ ?_ ?_ ?_ ?_ ?_ ?_ ?_ ?_ ?_ ?_ ?_ ?_ h <;> intros <;> first | exact ab ‹_› | skip
 rename_i o a p h
 refine aX (o := some a) h fun h1 h2 => ?_
 exact ⟨p, by rw [qG h1, Option.some.inj h2]⟩
theorem nE {e : Expr} {x : Int} (h : sv e = some x) : ∃ k p q, e = .UnaryOp .USub (.Constant (.int x) k p) q := by
 refine ak h fun c h1 h2 => ?_
 obtain ⟨k, p, rfl⟩ := fY h2
 obtain ⟨q, rfl⟩ := te h1
 exact ⟨k, p, q, rfl⟩
theorem th {e : Expr} {q} (h : uv e = some q) : e = .Call q.1 q.2.1 q.2.2.1 q.2.2.2 := by
 refine eK (P := fun e o => o = some q → e = .Call q.1 q.2.1 q.2.2.1 q.2.2.2) e ?_ ?_ ?_ ?_ ?_ ?_ ?_ ?_ ?_ ?_ ?_ ?_ ?_ h <;> intros <;> first | exact ab ‹_› | exact Option.some.inj ‹_› ▸ rfl
theorem ti {e : Expr} {q} (h : uw e = some q) : e = .Attribute q.1 q.2.1 q.2.2 := by
 refine eK (P := fun e o => o = some q → e = .Attribute q.1 q.2.1 q.2.2) e ?_ ?_ ?_ ?_ ?_ ?_ ?_ ?_ ?_ ?_ ?_ ?_ ?_ h <;> intros <;> first | exact ab ‹_› | exact Option.some.inj ‹_› ▸ rfl
theorem vY {e : Expr} {q} (h : yt e = some q) : ∃ p, e = .GeneratorExp q.1 q.2.1 q.2.2 p := by
 refine eK (P := fun e o => o = some q → ∃ p, e = .GeneratorExp q.1 q.2.1 q.2.2 p) e ?_ ?_ ?_ ?_ ?_ ?_ ?_ ?_ ?_ ?_ ?_ ?_ ?_ h <;> intros <;> first | exact ab ‹_› | (rename_i p h; exact ⟨p, Option.some.inj h ▸ rfl⟩)
theorem vZ {e : Expr} {q} (h : yu e = some q) : ∃ b p, e = .Lambda q.1 b q.2 p := by
 refine eK (P := fun e o => o = some q → ∃ b p, e = .Lambda q.1 b q.2 p) e ?_ ?_ ?_ ?_ ?_ ?_ ?_ ?_ ?_ ?_ ?_ ?_ ?_ h <;> intros <;> first | exact ab ‹_› | (rename_i b _ p h; exact ⟨b, p, Option.some.inj h ▸ rfl⟩)
theorem v5 {e : Expr} {l} (h : yv e = some l) : ∃ c p, e = .Tuple l c p := by
 refine eK (P := fun e o => o = some l → ∃ c p, e = .Tuple l c p) e ?_ ?_ ?_ ?_ ?_ ?_ ?_ ?_ ?_ ?_ ?_ ?_ ?_ h <;> intros <;> first | exact ab ‹_› | exact ⟨_, _, congrArg (Expr.Tuple · _ _) (Option.some.inj ‹_›)⟩
theorem v6 {e : Expr} (h : oo e = true) : ∃ p, e = .List [] p := by
 refine eK (P := fun e o => o = true → ∃ p, e = .List [] p) e ?_ ?_ ?_ ?_ ?_ ?_ ?_ ?_ ?_ ?_ ?_ ?_ ?_ h <;> intros <;> first | exact aH ‹_› | skip
 exact ⟨_, congrArg (Expr.List · _) (List.isEmpty_iff.1 ‹_›)⟩
theorem d5 {α : Type} {l : List α} {a : α} (h : fI l = some a) : l = [a] := by
 cases l with
 | nil => exact ab h
 | cons b r => cases r with
  | nil => obtain rfl := Option.some.inj h; rfl
  | cons c r => exact ab h
theorem fZ {α : Type} {l : List α} {q : α × α} (h : jO l = some q) : l = [q.1, q.2] := by
 cases l with
 | nil => exact ab h
 | cons b r =>
  refine aL h fun c h1 eq2 => ?_; subst eq2
  rw [d5 h1]
theorem nF {e : Expr} {q} (h : sw e = some q) : ∃ k r k' r', e = .Call (.Attribute q.1 q.2.1 q.2.2.1) [.Constant (.str q.2.2.2.2.1) k r, .Constant (.str q.2.2.2.2.2) k' r'] [] q.2.2.2.1 := by
 refine ak h fun a h1 h => ?_
 refine ak h fun b h2 h => ?_
 refine ak h fun t h3 h => ?_
 refine ak h fun c h4 h => ?_
 refine ak h fun d h5 h => ?_
 refine aX h fun h6 h => ?_
 obtain rfl := Option.some.inj h
 rw [List.isEmpty_iff] at h6
 obtain ⟨k, r, e4⟩ := j1 h4
 obtain ⟨k', r', e5⟩ := j1 h5
 rw [th h1, ti h2, fZ h3, e4, e5, h6]
 exact ⟨k, r, k', r', rfl⟩
theorem de {o : Option NameKind} (h : eg o = true) : o = some .local := by
 cases o with
 | none => exact aH h
 | some k => cases k <;> cases h; rfl
theorem lO {o : Option NameKind} (h : ot o = true) : o = some .cell := by
 cases o with
 | none => exact aH h
 | some k => cases k <;> cases h; rfl
theorem fE {o : Option NameKind} (h : fT o = true) : o = some .globalImplicit := by
 cases o with
 | none => exact aH h
 | some k => cases k <;> cases h; rfl
theorem tj {o : Option NameKind} (h : oq o = true) : o = some .local ∨ o = some .cell ∨ o = some .free := by
 cases o with
 | none => exact aH h
 | some k => cases k <;> cases h <;> simp
theorem kp {k : NameKind} (h : lr k = false) : k ≠ .free := by rintro rfl; exact gh h
theorem qH (H : Hyp cx A sp) {Γ : List Str} {sc : List (Str × NameKind)} {x : Str} {p : Pos} {y : X} {env : Env} {h₀ : Heap} (he : EnvOk Γ sc env)
  (h : ux Γ sc x = some y) : Both cx A Γ sc env h₀ (.Name x p) y := by
 refine dq h fun hd h => ?_
 by_cases ho : oq (sc.lookup x) = true
 ·rw [if_pos ho] at h
  refine aL h fun i hi eq2 => ?_; subst eq2
  exact Both.plain (ql he (tj ho) hi hd) (aP _ rfl) rfl
 ·rw [if_neg ho] at h
  refine aX h fun hg h => ?_
  have hl := fE hg
  unfold ur at h
  by_cases e : (x == ("hexdigits" : Str)) = true
  ·rw [if_pos e] at h
   obtain rfl := Option.some.inj h
   obtain rfl := beq_iff_eq.mp e
   obtain ⟨v, h1, h2⟩ := H.hexd
   exact Both.plain (lL he hl h1 h2) (aP _ rfl) rfl
  rw [if_neg e] at h
  by_cases e : (x == ("_QUOPRI_MAP" : Str)) = true
  ·rw [if_pos e] at h
   obtain rfl := Option.some.inj h
   obtain rfl := beq_iff_eq.mp e
   obtain ⟨v, h1, h2⟩ := H.quo
   exact Both.plain (lL he hl h1 h2) (aP _ rfl) rfl
  rw [if_neg e] at h
  refine aX h fun e h => ?_
  obtain rfl := Option.some.inj h
  obtain rfl := beq_iff_eq.mp e
  obtain ⟨v, h1, h2⟩ := H.spe
  exact Both.plain (lL he hl h1 h2) (aP _ rfl) rfl
theorem oO {Γ : List Str} {sc : List (Str × NameKind)} {c : Const} {k : Nat} {p : Pos} {y : X} {env : Env} {h₀ : Heap}
  (h : qg c = some y) : Both cx A Γ sc env h₀ (.Constant c k p) y := by
 cases c with
 | none => obtain rfl := Option.some.inj h; exact Both.plain vz (aP _ rfl) rfl
 | bool b => obtain rfl := Option.some.inj h; exact Both.plain vA (aP _ rfl) rfl
 | int i => obtain rfl := Option.some.inj h; exact Both.plain yM (aP _ rfl) rfl
 | str s =>
  have h' : (if s.cps.size ≤ 100 then some (X.cst (.str s.cps.toList)) else Option.none) = some y := h
  by_cases hs : s.cps.size ≤ 100
  ·rw [if_pos hs] at h'; cases h'; exact Both.plain (yN hs) (aP _ rfl) rfl
  ·rw [if_neg hs] at h'; cases h'
 | _ => exact ab h
theorem uK {n : Nat} {Γ : List Str} {sc : List (Str × NameKind)} {env : Env} {h₀ : Heap} (I1 : ∀ {e x}, cE sp n Γ sc e = some x → SE cx A Γ sc env h₀ (eval e env) x) : ∀ {e : Option Expr} {x : Option X}, lk (cE sp n Γ sc) e = some x → SO cx A Γ sc env h₀ e x
 | Option.none, x, h => by obtain rfl := Option.some.inj h; exact SO.none
 | some e, x, h => by
  refine aL h fun a ha eq2 => ?_; subst eq2
  exact SO.some (I1 ha)
theorem oP {n : Nat} (ih : IHE cx A sp n) {Γ : List Str} {sc : List (Str × NameKind)} {env : Env} {h₀ : Heap} (he : EnvOk Γ sc env) (hc : sp = true → env.code = .ref cx.pc) : ∀ {es : List Expr} {xs : List X},
  aO (oy (cE sp n Γ sc)) es = some xs → SF cx A Γ sc env h₀ es xs
 | [], xs, h => by obtain rfl := Option.some.inj h; exact .nil
 | e :: es, xs, h => by
  obtain ⟨b, l', h1, h2, rfl⟩ := bv h
  cases e with
  | Constant c k p =>
   refine ak h1 fun s h3 h4 => ?_
   obtain rfl := lN h3
   by_cases hs : s.cps.size ≤ 100
   ·rw [if_pos hs] at h4; obtain rfl := Option.some.inj h4; exact .str hs (oP ih he hc h2)
   ·rw [if_neg hs] at h4; exact ab h4
  | FormattedValue v cv spec p =>
   have h3 : (if (cv == -1 && spec.isNone) = true then cE sp n Γ sc v else Option.none) = some b := h1
   refine aX h3 fun h4 h5 => ?_
   rw [Bool.and_eq_true, beq_iff_eq, Option.isNone_iff_eq_none] at h4
   obtain ⟨rfl, rfl⟩ := h4
   exact .val (ih _ _ _ _ _ _ he hc h5).1 (oP ih he hc h2)
  | _ => exact ab h1
theorem tm (g : Comprehension) : g = ⟨g.target, g.iter, g.ifs, g.is_async⟩ := by cases g; rfl
theorem AS (H : Hyp cx A sp) {Γ : List Str} {sc : List (Str × NameKind)} {env : Env} {h₀ : Heap} (he : EnvOk Γ sc env) (hc : sp = true → env.code = .ref cx.pc) {m sep : Str} {scope : Scope} {r2 r1 : Expr × Str × Pos × Pos × Str × Str} {x' : Str} {gn : Comprehension} {x src : Str} {i : Nat}
  {apos pos : Pos} (hline : (apos.endLine == pos.line) = true) (hi : ah Γ src = some i) {k : Nat} {p q1 q2 q3 gp r5 r6 r7 r8 : Pos} {k1 k2 k3 k4 : Nat}
  (hb : lq sp sc m sep scope r2 r1 x' gn x src = true) :
  SE cx A Γ sc env h₀ (eval (.Call (.Attribute (.Constant (.str sep) k p) m apos) [.GeneratorExp (.Call (.Attribute (.Call (.Attribute (.Name x' q1) r1.2.1 r1.2.2.1) [.Constant (.str r1.2.2.2.2.1) k1 r5, .Constant (.str r1.2.2.2.2.2) k2 r6] [] r1.2.2.2.1) r2.2.1 r2.2.2.1) [.Constant (.str r2.2.2.2.2.1) k3 r7, .Constant (.str r2.2.2.2.2.2) k4 r8] [] r2.2.2.2.1)
    [⟨.Name x q2, .Name src q3, gn.ifs, gn.is_async⟩] scope gp] [] pos) env) (.jgen sep.cps.toList i) := by
 unfold lq at hb
 simp only [Bool.and_eq_true, beq_iff_eq, bne_iff_ne, Bool.not_eq_true', decide_eq_true_eq, List.all_eq_true, List.isEmpty_iff] at hb
 obtain ⟨⟨⟨⟨⟨⟨⟨⟨⟨⟨⟨⟨⟨⟨⟨⟨⟨⟨⟨⟨⟨b1, b2⟩, b3⟩, b4⟩, b5⟩, b6⟩, b7⟩, b8⟩, b9⟩, b10⟩, b11⟩, b12⟩, b13⟩, b14⟩, b15⟩, b16⟩, b17⟩, b18⟩, b19⟩, b20⟩, b21⟩, b22⟩ := hb
 rw [b12, b5, b6, b2, b3]
 exact (H.spec b1).jgen _ _ _ _ he (hc b1) _ _ _ _ _ _ _ _ _ _ _ _ _ _ _ _ _ _ _ _ _ _ _ _ _ _ _ _ _ _ hline b4 (by rw [b7]; exact beq_self_eq_true _) (by rw [b8]; exact beq_self_eq_true _) b9 b10 b11 (de b13) b14 b15 b16 b17 b18 b19 (de b20) (de b21) (fun y hy => Option.some.inj (de (b22 y hy))) hi
theorem qI (H : Hyp cx A sp) {Γ : List Str} {sc : List (Str × NameKind)} {o : Expr} {m : Str} {args : List Expr} {apos pos : Pos} {y : X} {env : Env} {h₀ : Heap} (he : EnvOk Γ sc env) (hc : sp = true → env.code = .ref cx.pc)
  (hline : (apos.endLine == pos.line) = true) (h : ow sp Γ sc o m args = some y) : Both cx A Γ sc env h₀ (.Call (.Attribute o m apos) args [] pos) y := by
 refine ak h fun sep h1 h => ?_
 refine ak h fun g h2 h => ?_
 refine ak h fun q h3 h => ?_
 refine ak h fun r2 h4 h => ?_
 refine ak h fun r1 h5 h => ?_
 refine ak h fun x' h6 h => ?_
 refine ak h fun gn h7 h => ?_
 refine ak h fun x h8 h => ?_
 refine ak h fun src h9 h => ?_
 refine aX h fun hb h => ?_
 refine aL h fun i hi eq2 => ?_; subst eq2
 refine Both.plain ?_ (aP _ rfl) rfl
 obtain ⟨k1, p1, e1⟩ := j1 h1
 obtain ⟨p3, e3⟩ := vY h3
 obtain ⟨k4, s4, k4', s4', e4⟩ := nF h4
 obtain ⟨k5, s5, k5', s5', e5⟩ := nF h5
 obtain ⟨p6, e6⟩ := ch h6
 obtain ⟨p8, e8⟩ := ch h8
 obtain ⟨p9, e9⟩ := ch h9
 rw [e1, d5 h2, e3, e4, e5, e6, d5 h7, tm gn, e8, e9]
 exact AS H he hc hline hi hb
theorem tn (H : Hyp cx A sp) {n : Nat} (ih : IHE cx A sp n) {Γ : List Str} {sc : List (Str × NameKind)} {o : Expr} {m : Str} {args : List Expr} {apos pos : Pos} {y : X} {env : Env} {h₀ : Heap} (he : EnvOk Γ sc env) (hc : sp = true → env.code = .ref cx.pc)
  (hline : (apos.endLine == pos.line) = true) (h : jP (cE sp n Γ sc) sp sc o m args = some y) : Both cx A Γ sc env h₀ (.Call (.Attribute o m apos) args [] pos) y := by
 refine ak h fun t h1 h => ?_
 refine ak h fun q h2 h => ?_
 refine ak h fun r h3 h => ?_
 refine aX h fun hb h => ?_
 refine aL h fun a ha eq2 => ?_; subst eq2
 simp only [Bool.and_eq_true, beq_iff_eq, Bool.not_eq_true', List.all_eq_true, List.isEmpty_iff] at hb
 obtain ⟨⟨⟨⟨⟨⟨b1, b2⟩, rfl⟩, rfl⟩, b5⟩, b6⟩, b7⟩ := hb
 obtain ⟨p1, rfl⟩ := ch h1
 obtain rfl := fZ h2
 obtain ⟨b, p, e3⟩ := vZ h3
 rw [e3]
 exact Both.plain ((H.spec b1).sub _ _ _ _ he (hc b1) _ _ _ _ _ _ _ _ _ hline (fE b2) (cH ha) b5 b6 (fun y hy => kp (b7 y hy)) (ih _ _ _ _ _ _ he hc ha).1) (aP _ rfl) rfl
theorem qJ {o : Expr} (h : qf o = false) : ∀ a b c d, o ≠ .Call a b c d := by
 rintro a b c d rfl; exact gh h
theorem qK (H : Hyp cx A sp) {n : Nat} (ih : IHE cx A sp n) {Γ : List Str} {sc : List (Str × NameKind)} {o : Expr} {m : Str} {args : List Expr} {apos pos : Pos} {y : X} {env : Env} {h₀ : Heap} (he : EnvOk Γ sc env) (hc : sp = true → env.code = .ref cx.pc)
  (h : uz (cE sp n Γ sc) sp Γ sc o m apos args pos = some y) : Both cx A Γ sc env h₀ (.Call (.Attribute o m apos) args [] pos) y := by
 refine dq h fun hline h => ?_
 refine dq h fun hcall h => ?_
 have hline' : (apos.endLine == pos.line) = true := by simpa using hline
 cases hj : ow sp Γ sc o m args with
 | some x => rw [hj] at h; obtain rfl := Option.some.inj h; exact qI H he hc hline' hj
 | none =>
  rw [hj] at h
  cases hs : jP (cE sp n Γ sc) sp sc o m args with
  | some x =>
   have h' : jP (cE sp n Γ sc) sp sc o m args = some y := by
    have h2 : (match jP (cE sp n Γ sc) sp sc o m args with | some x => some x | Option.none => _) = some y := h
    rw [hs] at h2; obtain rfl := Option.some.inj h2; exact hs
   exact tn H ih he hc hline' h'
  | none =>
   have h2 : (match jP (cE sp n Γ sc) sp sc o m args with | some x => some x | Option.none => if 29 < args.length then Option.none else dY X.meth (jM m) (cE sp n Γ sc o) (aO (cE sp n Γ sc) args)) = some y := h
   rw [hs] at h2
   refine gr h2 fun hl h3 => ?_
   refine dr h3 fun m' o' l g1 g2 g3 eq6 => ?_; subst eq6
   exact Both.plain (vI H.hh H.spc g1 (qJ hcall) hl hline' (ih _ _ _ _ _ _ he hc g2).1 (ia ih he hc g3)) (aP _ rfl) rfl
theorem qL (H : Hyp cx A sp) {f : Str} {g : G} (h : gNames.lookup f = some g) : ∃ fv, aZ cx f fv ∧ i5 cx fv ∧ cz cx A g fv (· = []) := by
 have key : ∀ p ∈ gNames, ∃ fv, aZ cx p.1 fv ∧ i5 cx fv ∧ cz cx A p.2 fv (· = []) := by
  intro p hp
  simp only [gNames, List.mem_cons, List.not_mem_nil, or_false] at hp
  rcases hp with rfl | rfl | rfl | rfl | rfl | rfl | rfl
  ·exact ⟨_, H.len, .inl ⟨_, rfl⟩, zp⟩
  ·exact ⟨_, H.range, .inr (.inl ⟨_, rfl⟩), s7⟩
  ·exact ⟨_, H.ord, .inl ⟨_, rfl⟩, zr⟩
  ·exact ⟨_, H.chr, .inl ⟨_, rfl⟩, zs⟩
  ·exact ⟨_, H.min, .inl ⟨_, rfl⟩, zv H.hh⟩
  ·exact ⟨_, H.max, .inl ⟨_, rfl⟩, zu H.hh⟩
  ·exact ⟨_, H.object, .inr (.inl ⟨_, rfl⟩), qD⟩
 exact key (f, g) (mem_of_lookup h)
theorem to (H : Hyp cx A sp) {n : Nat} (ih : IHE cx A sp n) {Γ : List Str} {sc : List (Str × NameKind)} {f : Str} {args : List Expr} {p pos : Pos} {y : X} {env : Env} {h₀ : Heap} (he : EnvOk Γ sc env) (hc : sp = true → env.code = .ref cx.pc) (hl : sc.lookup f = some .globalImplicit)
  (h : sx (cE sp n Γ sc) sc f args = some y) : SE cx A Γ sc env h₀ (eval (.Call (.Name f p) args [] pos) env) y ∧ qF y = true := by
 unfold sx at h
 cases hg : gNames.lookup f with
 | some g =>
  rw [hg] at h
  refine aL h fun l hm eq2 => ?_; subst eq2
  obtain ⟨fv, h1, h2, h3⟩ := qL H hg
  exact ⟨hX he hl h1 h2 (ia ih he hc hm) h3, rfl⟩
 | none =>
  rw [hg] at h
  dsimp only at h
  by_cases e : (f == ("int" : Str)) = true
  ·rw [if_pos e] at h
   obtain rfl := beq_iff_eq.mp e
   refine ak h fun q h1 h => ?_
   refine aX h fun h2 h => ?_
   refine aL h fun l hm eq2 => ?_; subst eq2
   obtain rfl := fZ h1
   obtain ⟨k, p, e2⟩ := fY (beq_iff_eq.mp h2)
   rw [e2]
   exact ⟨hX he hl H.int (.inr (.inl ⟨_, rfl⟩)) (j0 ih he hc SA.int hm) s8, rfl⟩
  rw [if_neg e] at h
  by_cases e : (f == ("isinstance" : Str)) = true
  ·rw [if_pos e] at h
   obtain rfl := beq_iff_eq.mp e
   refine ak h fun q h1 h => ?_
   refine ak h fun t h3 h => ?_
   refine aX h fun h2 h => ?_
   refine aL h fun l hm eq2 => ?_; subst eq2
   obtain rfl := fZ h1
   obtain ⟨p, e2⟩ := ch h3
   rw [Bool.and_eq_true, beq_iff_eq] at h2
   obtain ⟨rfl, hs⟩ := h2
   rw [e2]
   exact ⟨hX he hl H.isi (.inl ⟨_, rfl⟩) (j0 ih he hc (SA.name he H.str (fE hs)) hm) s9, rfl⟩
  rw [if_neg e] at h
  refine ak h fun i hi h => ?_
  refine aL h fun l hm eq2 => ?_; subst eq2
  obtain ⟨fv, h1, h2, h3⟩ := H.fns i f (bY hi)
  exact ⟨hX he hl h1 h2 (ia ih he hc hm) h3, rfl⟩
theorem qM (H : Hyp cx A sp) {n : Nat} (ih : IHE cx A sp n) {Γ : List Str} {sc : List (Str × NameKind)} {f : Expr} {args : List Expr} {ks : List Keyword} {pos : Pos} {y : X} {env : Env} {h₀ : Heap} (he : EnvOk Γ sc env) (hc : sp = true → env.code = .ref cx.pc)
  (h : uA (cE sp n Γ sc) sp Γ sc f args ks pos = some y) : Both cx A Γ sc env h₀ (.Call f args ks pos) y := by
 refine aX h fun hk h => ?_
 rw [List.isEmpty_iff] at hk
 subst hk
 cases f with
 | Attribute o m apos => exact qK H ih he hc h
 | Name f p =>
  have h' : qh (cE sp n Γ sc) Γ sc f args = some y := h
  refine dq h' fun hd h' => ?_
  by_cases hg : fT (sc.lookup f) = true
  ·rw [if_pos hg] at h'
   obtain ⟨h1, h2⟩ := to H ih he hc (fE hg) h' (p := p) (pos := pos) (h₀ := h₀)
   exact Both.plain h1 (aP _ h2) rfl
  ·rw [if_neg hg] at h'
   refine aX h' fun hl h' => ?_
   refine ak h' fun i hi h' => ?_
   refine ak h' fun a ha h' => ?_
   refine aL h' fun b hb eq2 => ?_; subst eq2
   obtain rfl := d5 ha
   exact Both.plain (vP he (de hl) hi hd (cH hb) (ih _ _ _ _ _ _ he hc hb).1) (aP _ rfl) rfl
 | _ => exact ab h
theorem mZ {n : Nat} (ih : IHE cx A sp n) {Γ : List Str} {sc : List (Str × NameKind)} {o i : Expr} {pos : Pos} {y : X} {env : Env} {h₀ : Heap} (he : EnvOk Γ sc env) (hc : sp = true → env.code = .ref cx.pc)
  (h : nh (cE sp n Γ sc) o i = some y) : Both cx A Γ sc env h₀ (.Subscript o i pos) y := by
 have I1 : ∀ {e x}, cE sp n Γ sc e = some x → SE cx A Γ sc env h₀ (eval e env) x := fun h => (ih _ _ _ _ _ _ he hc h).1
 by_cases hi : ∃ lo hi st p, i = .Slice lo hi st p
 ·obtain ⟨lo, hi, st, p, rfl⟩ := hi
  cases st with
  | none =>
   refine dr (show dY X.slc (cE sp n Γ sc o) (lk (cE sp n Γ sc) lo) (lk (cE sp n Γ sc) hi) = some y from h) fun a b c h1 h2 h3 eq6 => ?_; subst eq6
   exact Both.plain (yX (I1 h1) (uK I1 h2) (uK I1 h3)) (aP _ rfl) rfl
  | some st =>
   refine aX h fun h1 h => ?_
   obtain ⟨k, q, r, rfl⟩ := nE (beq_iff_eq.mp h1)
   cases lo with
   | none => cases hi with
    | none =>
     refine aL h fun a ha eq2 => ?_; subst eq2
     exact Both.plain (yY (I1 ha)) (aP _ rfl) rfl
    | some hi => exact ab h
   | some lo => cases hi with
    | none => exact ab h
    | some hi =>
     refine aX h fun h2 h => ?_
     rw [Bool.and_eq_true] at h2
     obtain ⟨k', q', r', rfl⟩ := nE (beq_iff_eq.mp h2.1)
     obtain ⟨k'', q'', rfl⟩ := fY (beq_iff_eq.mp h2.2)
     refine aL h fun a ha eq2 => ?_; subst eq2
     exact Both.plain (yZ (I1 ha)) (aP _ rfl) rfl
 ·have h' : two X.idx (cE sp n Γ sc o) (cE sp n Γ sc i) = some y := by
   cases i with
   | Slice a b c d => exact absurd ⟨_, _, _, _, rfl⟩ hi
   | _ => exact h
  refine dN h' fun a b h1 h2 eq4 => ?_; subst eq4
  exact Both.plain (yW (sR h2) (I1 h1) (I1 h2)) (aP _ rfl) rfl
theorem tq {α β : Type} {f : α → Option β} {l : List α} (h : aO f l = some []) : l = [] := by
 cases l with
 | nil => rfl
 | cons a r => obtain ⟨b, l', _, _, e⟩ := bv h; cases e
theorem lQ {α β : Type} {f : α → Option β} {l : List α} {b : β} (h : aO f l = some [b]) : ∃ a, l = [a] ∧ f a = some b := by
 cases l with
 | nil => cases h
 | cons a r => obtain ⟨b', l', h1, h2, e⟩ := bv h; cases e; obtain rfl := tq h2; exact ⟨a, rfl, h1⟩
theorem iF {α β : Type} {f : α → Option β} {l : List α} {b c : β} (h : aO f l = some [b, c]) : ∃ a a', l = [a, a'] ∧ f a = some b ∧ f a' = some c := by
 cases l with
 | nil => cases h
 | cons a r => obtain ⟨b', l', h1, h2, e⟩ := bv h; cases e; obtain ⟨a', rfl, h3⟩ := lQ h2; exact ⟨a, a', rfl, h1, h3⟩
theorem oR {α β : Type} {f : α → Option β} {l : List α} {b c d : β} (h : aO f l = some [b, c, d]) : ∃ a a' a'', l = [a, a', a''] ∧ f a = some b ∧ f a' = some c ∧ f a'' = some d := by
 cases l with
 | nil => cases h
 | cons a r => obtain ⟨b', l', h1, h2, e⟩ := bv h; cases e; obtain ⟨a', a'', rfl, h3, h4⟩ := iF h2; exact ⟨a, a', a'', rfl, h1, h3, h4⟩
theorem i9 {Γ : List Str} {sc : List (Str × NameKind)} {env : Env} {h₀ : Heap} {e : Expr} {x : X} (h : ∀ K st, ¬ WE cx.fns x K st) : SE cx A Γ sc env h₀ (eval e env) x := fun F μ st s K Q E k hw q => (h K st hw).elim
theorem qN {n : Nat} (ih : IHE cx A sp n) {Γ : List Str} {sc : List (Str × NameKind)} {op : BoolOp} {l : List Expr} {pos : Pos} {y : X} {env : Env} {h₀ : Heap} (he : EnvOk Γ sc env) (hc : sp = true → env.code = .ref cx.pc)
  (h : uy op (aO (cE sp n Γ sc) l) = some y) : Both cx A Γ sc env h₀ (.BoolOp op l pos) y := by
 have I2 : ∀ {e x}, cE sp n Γ sc e = some x → SB cx A Γ sc env h₀ (isTrue e env (eval e env)) x := fun h => (ih _ _ _ _ _ _ he hc h).2
 refine ak h fun xs hm hz => ?_
 clear h
 match xs, hm, hz with
 | [], _, h => exact ab h
 | [a], _, h => cases h
 | [a, b], hm, h =>
  obtain ⟨ea, eb, rfl, h1, h2⟩ := iF hm
  cases op <;> obtain rfl := Option.some.inj h
  ·exact ⟨i9 fun K st hw => hw, hY (qn (w := pure .none) (pos := default) (I2 h1) (i6 (I2 h2)))⟩
  ·exact ⟨i9 fun K st hw => hw, hY (uI (I2 h1) (i6 (I2 h2)))⟩
 | [a, b, c], hm, h =>
  obtain ⟨ea, eb, ec, rfl, h1, h2, h3⟩ := oR hm
  cases op <;> obtain rfl := Option.some.inj h
  ·exact ⟨i9 fun K st hw => hw, hY (vC (I2 h1) (qn (w := pure .none) (pos := default) (I2 h2) (i6 (I2 h3))))⟩
  ·exact ⟨i9 fun K st hw => hw, hY (yT (I2 h1) (uI (I2 h2) (i6 (I2 h3))))⟩
 | _ :: _ :: _ :: _ :: _, _, h => exact ab h
theorem tu (H : Hyp cx A sp) {n : Nat} (ih : IHE cx A sp n) {Γ : List Str} {sc : List (Str × NameKind)} {e0 : Expr} {ops : List CmpOp} {l : List Expr} {pos : Pos} {y : X} {env : Env} {h₀ : Heap} (he : EnvOk Γ sc env) (hc : sp = true → env.code = .ref cx.pc)
  (h : yw (cE sp n Γ sc e0) ops (aO (cE sp n Γ sc) l) = some y) : Both cx A Γ sc env h₀ (.Compare e0 ops l pos) y := by
 have I1 : ∀ {e x}, cE sp n Γ sc e = some x → SE cx A Γ sc env h₀ (eval e env) x := fun h => (ih _ _ _ _ _ _ he hc h).1
 refine ak h fun a ha h => ?_
 refine ak h fun xs hm hz => ?_
 clear h
 match ops, xs, hm, hz with
 | [], _, _, h => exact ab h
 | [op], [], _, h => exact ab h
 | op :: op' :: ops, [], _, h => cases h
 | [op], b :: r, hm, h =>
  refine aX h fun he' h => ?_
  rw [List.isEmpty_iff] at he'
  subst he'
  obtain ⟨eb, rfl, h1⟩ := lQ hm
  obtain rfl := Option.some.inj h
  exact ⟨yR H.hu (cH h1) (I1 ha) (I1 h1), yS H.hu (cH h1) (I1 ha) (I1 h1)⟩
 | op :: op' :: ops, [b], _, h => cases h
 | op :: op' :: ops, b :: c :: r, hm, h =>
  refine aX h fun he' h => ?_
  rw [Bool.and_eq_true, List.isEmpty_iff, List.isEmpty_iff] at he'
  obtain ⟨rfl, rfl⟩ := he'
  obtain ⟨eb, ec, rfl, h1, h2⟩ := iF hm
  obtain rfl := Option.some.inj h
  exact ⟨vB H.hu (cH h2) (I1 ha) (I1 h1) (I1 h2), vE H.hu (cH h2) (I1 ha) (I1 h1) (I1 h2)⟩
theorem iu {n : Nat} {Γ : List Str} {sc : List (Str × NameKind)} {elt : Expr} {gens : List Comprehension} {scope : Scope} {x : X} (h : ou (cE sp n) Γ sc elt gens scope = some x) :
  ∃ two xs t iter ifs e i l, gens = [⟨t, iter, ifs, 0⟩] ∧ fh two t xs ∧ CompOk sc Γ xs scope ∧ cE sp n Γ sc iter = some i ∧ cE sp n (Γ ++ xs) scope.names elt = some e ∧ aO (cE sp n (Γ ++ xs) scope.names) ifs = some l ∧ x = .comp two Γ.length e i l := by
 refine ak h fun g h1 h => ?_
 refine ak h fun q h2 h => ?_
 refine aX h fun h3 h => ?_
 refine dr h fun i e l g1 g2 g3 eq6 => ?_; subst eq6
 rw [Bool.and_eq_true, beq_iff_eq] at h3
 obtain ⟨tg, it, ifs, asy⟩ := g
 obtain ⟨hco, rfl⟩ := h3
 refine ⟨q.1, q.2, tg, it, ifs, e, i, l, d5 h1, ?_, CompOk.of hco, g1, g2, g3, rfl⟩
 unfold yx at h2
 cases hn : c5 tg with
 | some x =>
  rw [hn] at h2
  obtain rfl := Option.some.inj h2
  obtain ⟨p, rfl⟩ := ch hn
  exact ⟨_, _, rfl, rfl⟩
 | none =>
  rw [hn] at h2
  refine ak h2 fun l k1 h2 => ?_
  refine ak h2 fun q' k2 h2 => ?_
  refine ak h2 fun x k3 h2 => ?_
  refine aL h2 fun z k4 eq2 => ?_; subst eq2
  obtain ⟨c, p, rfl⟩ := v5 k1
  obtain rfl := fZ k2
  obtain ⟨p1, e1⟩ := ch k3
  obtain ⟨p2, e2⟩ := ch k4
  rw [e1, e2]
  exact ⟨_, _, _, _, _, _, rfl, rfl⟩
theorem tv {l r : Expr} {op : Operator} (h : iR l op r = true) : ∃ k p k' p', l = .Constant (.int 10) k p ∧ op = .Pow ∧ r = .Constant (.int 8) k' p' := by
 unfold iR at h
 rw [Bool.and_eq_true, Bool.and_eq_true, beq_iff_eq, beq_iff_eq] at h
 obtain ⟨⟨h1, h2⟩, h3⟩ := h
 obtain ⟨k, p, rfl⟩ := fY h1
 obtain ⟨k', p', rfl⟩ := fY h3
 refine ⟨k, p, k', p', rfl, ?_, rfl⟩
 cases op <;> cases h2; rfl
theorem ib (H : Hyp cx A sp) : ∀ n, IHE cx A sp n
 | 0 => fun Γ sc e x env h₀ he hc h => by exact ab h
 | n + 1 => fun Γ sc e y env h₀ he hc h => by
  have ih := ib H n
  have I1 : ∀ {e x}, cE sp n Γ sc e = some x → SE cx A Γ sc env h₀ (eval e env) x := fun h => (ih _ _ _ _ _ _ he hc h).1
  have I2 : ∀ {e x}, cE sp n Γ sc e = some x → SB cx A Γ sc env h₀ (isTrue e env (eval e env)) x := fun h => (ih _ _ _ _ _ _ he hc h).2
  cases e with
  | Constant c k p => exact oO h
  | Name x p => exact qH H he h
  | BinOp l op r p =>
   have h' : (if iR l op r = true then some (X.cst (.int 100000000)) else two (.bin op) (cE sp n Γ sc l) (cE sp n Γ sc r)) = some y := h
   by_cases hp : iR l op r = true
   ·rw [if_pos hp] at h'
    cases h'
    obtain ⟨_, _, _, _, rfl, rfl, rfl⟩ := tv hp
    exact Both.plain yO (aP _ rfl) rfl
   ·rw [if_neg hp] at h'
    refine dN h' fun a b h1 h2 eq4 => ?_; subst eq4
    exact Both.plain (yB (I1 h1) (I1 h2)) (aP _ rfl) rfl
  | UnaryOp op a p =>
   cases op with
   | Not =>
    refine aL (show (cE sp n Γ sc a).map X.not = some y from h) fun b hb eq2 => ?_; subst eq2
    exact ⟨i9 fun K st hw => hw, yU (I2 hb)⟩
   | USub =>
    refine aL (show (cE sp n Γ sc a).map X.neg = some y from h) fun b hb eq2 => ?_; subst eq2
    exact Both.plain (yP (I1 hb)) (aP _ rfl) rfl
   | _ => exact ab h
  | BoolOp op l p => exact qN ih he hc h
  | IfExp t a b p =>
   refine dr (show dY X.ite (cE sp n Γ sc t) (cE sp n Γ sc a) (cE sp n Γ sc b) = some y from h) fun t' a' b' h1 h2 h3 eq6 => ?_; subst eq6
   exact ⟨yQ (I2 h1) (I1 h2) (I1 h3), yV (I2 h1) (I2 h2) (I2 h3)⟩
  | Compare a ops l p => exact tu H ih he hc h
  | ListComp elt gens scope p =>
   obtain ⟨two, xs, t, iter, ifs, ee, ii, l, rfl, ht, hco, g1, g2, g3, rfl⟩ := iu (show ou (cE sp n) Γ sc elt gens scope = some y from h)
   exact Both.plain (vQ H.hh ht he hco (cH g1) (I1 g1) (fun cl C hE => (ih _ _ _ _ _ _ hE hc g2).1) (fun cl C hE => lM ih hE hc g3)) (aP _ rfl) rfl
  | Call f args ks pos => exact qM H ih he hc h
  | Attribute o m p =>
   refine aX (show (if (m == ("append" : Str)) = true then (c5 o).bind fun _ => (cE sp n Γ sc o).map X.attr else Option.none) = some y from h) fun hm h => ?_
   refine ak h fun x hx h => ?_
   refine aL h fun a ha eq2 => ?_; subst eq2
   obtain ⟨q, rfl⟩ := ch hx
   exact Both.plain (vO (beq_iff_eq.mp hm) (fun a b c d => nofun) (I1 ha)) (aP _ rfl) rfl
  | Subscript o i p => exact mZ ih he hc h
  | List l p =>
   cases l with
   | nil => obtain rfl := Option.some.inj h; exact Both.plain vF (aP _ rfl) rfl
   | cons a r =>
    have h' : (if (r.isEmpty && oo a) = true then some X.new1 else if 100 < (a :: r).length then Option.none else (aO (cE sp n Γ sc) (a :: r)).map .lst) = some y := h
    by_cases hn : (r.isEmpty && oo a) = true
    ·rw [if_pos hn] at h'
     cases h'
     rw [Bool.and_eq_true, List.isEmpty_iff] at hn
     obtain ⟨rfl, hn⟩ := hn
     obtain ⟨q, rfl⟩ := v6 hn
     exact Both.plain vG (aP _ rfl) rfl
    ·rw [if_neg hn] at h'
     refine gr h' fun hl h' => ?_
     refine aL h' fun a ha eq2 => ?_; subst eq2
     exact Both.plain (za (Nat.le_of_not_lt hl) (iE ha) (ia ih he hc ha)) (aP _ rfl) rfl
  | Tuple l c p =>
   refine gr (show (if 100 < l.length then Option.none else (aO (cE sp n Γ sc) l).map X.tup) = some y from h) fun hl h => ?_
   refine aL h fun a ha eq2 => ?_; subst eq2
   exact Both.plain (zb (Nat.le_of_not_lt hl) (iE ha) (ia ih he hc ha)) (aP _ rfl) rfl
  | JoinedStr l p =>
   refine dq (show (if (decide (8 < l.length) || decide (l.length < 2)) = true then Option.none else (aO (oy (cE sp n Γ sc)) l).map X.fstr) = some y from h) fun hl h => ?_
   rw [Bool.or_eq_false_iff, decide_eq_false_iff_not, decide_eq_false_iff_not] at hl
   refine aL h fun a ha eq2 => ?_; subst eq2
   exact Both.plain (vH (Nat.le_of_not_lt hl.2) (Nat.le_of_not_lt hl.1) (oP ih he hc ha)) (aP _ rfl) rfl
  | _ => exact ab h
end
end Mine
namespace Mine
open PySem PySem.W PySem.Calls PyProof.Rows
section
variable {cx : Cx} {A : Around} {sp : Bool}
theorem qO (f : Expr → Option Str) {a b : Str} {p1 p2 : Pos} (hf : ∀ id pos, f (.Name id pos) = some id ∨ f (.Name id pos) = Option.none) (hl : (List.filterMap f [.Name a p1, .Name b p2]).length = 2) : List.filterMap f [.Name a p1, .Name b p2] = [a, b] := by
 rcases hf a p1 with h1 | h1 <;> rcases hf b p2 with h2 | h2 <;> simp [List.filterMap_cons, h1, h2] at hl ⊢
theorem ic {α : Type} {l : List α} (h : l.length = 2) : ∃ a b, l = [a, b] := by
 cases l with
 | nil => cases h
 | cons a r => cases r with
  | nil => cases h
  | cons b r => cases r with
   | nil => exact ⟨a, b, rfl⟩
   | cons => cases h
theorem v7 {Γ : List Str} {sc : List (Str × NameKind)} {ts : List Expr} {l : List Nat} (ht : TgtN Γ sc ts l) (h : ts.length = 2) : ∃ a p1 b p2, ts = [.Name a p1, .Name b p2] := by
 cases ht with
 | nil => cases h
 | cons _ _ h1 => cases h1 with
  | nil => cases h
  | cons _ _ h2 => cases h2 with
   | nil => exact ⟨_, _, _, _, rfl⟩
   | cons => cases h
theorem v8 {n : Nat} {Γ : List Str} {sc : List (Str × NameKind)} {env : Env} {ts : List Expr} {l : List Nat} {e : Expr} {x : X} {c} {p : Pos} (ht : TgtN Γ sc ts l) (hb : jQ ts e = false) (h : cE sp n Γ sc e = some x) : i8 env ts c p e := by
 cases e with
 | Tuple vs c' p' =>
  have hb : (!(ts.length == 2 && vs.length == 2 && !(vs.all (constantsAlone 8)))) = false := hb
  simp only [Bool.not_eq_false', Bool.and_eq_true, beq_iff_eq, Bool.not_eq_true'] at hb
  obtain ⟨⟨h1, h2⟩, h3⟩ := hb
  obtain ⟨a, p1, b, p2, rfl⟩ := v7 ht h1
  obtain ⟨v1, v2, rfl⟩ := ic h2
  clear h1 h2 ht
  ·have hs : ([v1, v2].any fun | .Starred .. => true | _ => false) = false := by
    cases n with
    | zero => exact ab h
    | succ n =>
     ·refine gr (show (if 100 < [v1, v2].length then Option.none else (aO (cE sp n Γ sc) [v1, v2]).map X.tup) = some x from h) fun _ h => ?_
      refine aL h fun xs hm _ => ?_
      obtain ⟨b1, l1, g1, g2, _⟩ := bv hm
      obtain ⟨b2, l2, g3, _, _⟩ := bv g2
      have f : ∀ {v : Expr} {b : X}, cE sp n Γ sc v = some b → (match v with | .Starred .. => true | _ => false) = false := fun {v b} hv => by
       cases v with
       | Starred a b => cases n <;> exact ab hv
       | _ => rfl
      simp only [List.any_cons, List.any_nil, Bool.or_false]
      rw [f g1, f g3]; rfl
   have main : ∃ o, swappedStores [.Tuple [.Name a p1, .Name b p2] c p] (.Tuple [v1, v2] c' p') env = pure o ∧ (o = Option.none ∨ (o = some [a, b] ∧ a ≠ b)) := by
    unfold swappedStores
    simp only [List.length_cons, List.length_nil, hs, h3]
    generalize hN : List.filterMap _ _ = N
    have hN2 : N.length = 2 → N = [a, b] := fun hl => by rw [← hN] at hl ⊢; exact qO _ (fun id pos => by simp only; split <;> simp) hl
    split
    ·exact ⟨_, rfl, .inl rfl⟩
    split
    ·exact ⟨_, rfl, .inl rfl⟩
    split
    ·exact ⟨_, rfl, .inl rfl⟩
    rename_i hd
    split
    ·exact ⟨_, rfl, .inl rfl⟩
    split
    ·rename_i q; exact aH q
    ·refine ⟨_, rfl, .inr ?_⟩
     simp only [Bool.or_eq_true, bne_iff_ne, ne_eq, not_or, Decidable.not_not] at hd
     obtain rfl := hN2 hd.1
     refine ⟨rfl, fun q => ?_⟩
     subst q
     have := hd.2
     simp [List.eraseDups, List.eraseDupsBy, List.eraseDupsBy.loop] at this
   obtain ⟨o, h4, h5⟩ := main
   rcases h5 with rfl | ⟨rfl, hne⟩
   ·exact .plain h4
   ·exact .two rfl hne h4
 | _ => exact .plain rfl
theorem d6 {Γ : List Str} {sc : List (Str × NameKind)} {x : Str} {i : Nat} (h : gj Γ sc x = some i) : (sc.lookup x = some .local ∨ sc.lookup x = some .cell) ∧ ah Γ x = some i := by
 refine aX h fun h1 h2 => ?_
 rw [Bool.or_eq_true] at h1
 exact ⟨h1.imp de lO, h2⟩
theorem lR {Γ : List Str} {sc : List (Str × NameKind)} : ∀ {ts : List Expr} {l : List Nat}, aO (fun t => (lu t).bind (gj Γ sc)) ts = some l → TgtN Γ sc ts l
 | [], l, h => by obtain rfl := Option.some.inj h; exact .nil
 | t :: ts, l, h => by
  obtain ⟨b, l', h1, h2, rfl⟩ := bv h
  refine ak h1 fun x h3 h4 => ?_
  cases t with
  | Name y p =>
   refine dq (show (if (y == ("__debug__" : Str)) = true then Option.none else some y) = some x from h3) fun _ h5 => ?_
   obtain rfl := Option.some.inj h5
   exact .cons (d6 h4).1 (d6 h4).2 (lR h2)
  | _ => exact ab h3
theorem v9 {Γ : List Str} {sc : List (Str × NameKind)} {env : Env} {h₀ : Heap} {t : Sem Flow} : SXs cx A Γ sc env h₀ t [.bad] := fun F μ st s Q R E k hw q => False.elim hw
noncomputable def IHS (cx : Cx) (A : Around) (sp : Bool) (n : Nat) : Prop := ∀ (Γ : List Str) (sc : List (Str × NameKind)) (t : Stmt) (x : S) (env : Env) (h₀ : Heap), EnvOk Γ sc env → (sp = true → env.code = .ref cx.pc) → cS sp n Γ sc t = some x → SX cx A Γ sc env h₀ (exec t env) x
theorem gV {n : Nat} (ih : IHS cx A sp n) {Γ : List Str} {sc : List (Str × NameKind)} {env : Env} {h₀ : Heap} (he : EnvOk Γ sc env) (hc : sp = true → env.code = .ref cx.pc) : ∀ {ts : List Stmt} {l : List S}, aO (cS sp n Γ sc) ts = some l → SXs cx A Γ sc env h₀ (execs ts env) l
 | [], l, h => by obtain rfl := Option.some.inj h; exact vR
 | t :: ts, l, h => by
  obtain ⟨b, l', h1, h2, rfl⟩ := bv h
  exact sX (ih _ _ _ _ _ _ he hc h1) (gV ih he hc h2)
theorem wa (H : Hyp cx A sp) {n : Nat} {Γ : List Str} {sc : List (Str × NameKind)} {env : Env} {h₀ : Heap} (he : EnvOk Γ sc env) (hc : sp = true → env.code = .ref cx.pc) {x : Str} {i : Nat} {e : Expr} {y : X} {p pos : Pos}
  (hn : sc.lookup x = some .local ∨ sc.lookup x = some .cell) (hi : ah Γ x = some i) (h : cE sp n Γ sc e = some y) : SX cx A Γ sc env h₀ (exec (.Assign [.Name x p] e pos) env) (.assign i y) := by
 have ih := ib H n
 by_cases hcomp : fU e = true
 ·cases e with
  | ListComp elt gens scope cp =>
   obtain ⟨b, hb⟩ : ∃ b, swapsWith (.ListComp elt gens scope cp) (some (.Name x p)) pos.line env = pure b := ⟨_, rfl⟩
   cases b with
   | false => exact kn he hn hi hb (ih _ _ _ _ _ _ he hc h).1
   | true =>
    cases n with
    | zero => exact ab h
    | succ n =>
     obtain ⟨two, xs, t, iter, ifs, ee, ii, l, rfl, ht, hco, g1, g2, g3, rfl⟩ := iu h
     have ih' := ib H n
     exact jZ H.hh ht he hco (cH g1) hn hi hb (ih' _ _ _ _ _ _ he hc g1).1 (fun cl C hE => (ih' _ _ _ _ _ _ hE hc g2).1) (fun cl C hE => lM ih' hE hc g3)
  | _ => exact aH hcomp
 ·rw [Bool.not_eq_true] at hcomp
  exact kn he hn hi (ir h hcomp _ _ _) (ih _ _ _ _ _ _ he hc h).1
theorem uL (H : Hyp cx A sp) : ∀ n, IHS cx A sp n
 | 0 => fun Γ sc t x env h₀ he hc h => by exact ab h
 | n + 1 => fun Γ sc t y env h₀ he hc h => by
  have ih := uL H n
  have ihe := ib H n
  have I1 : ∀ {e x}, cE sp n Γ sc e = some x → SE cx A Γ sc env h₀ (eval e env) x := fun h => (ihe _ _ _ _ _ _ he hc h).1
  have I2 : ∀ {e x}, cE sp n Γ sc e = some x → SB cx A Γ sc env h₀ (isTrue e env (eval e env)) x := fun h => (ihe _ _ _ _ _ _ he hc h).2
  have bad : ∀ {t : Sem Flow}, SX cx A Γ sc env h₀ t .bad := fun F μ st s Q R E k hw q => hw.elim
  have body : ∀ {b : List Stmt}, SXs cx A Γ sc env h₀ (execs b env) ((aO (cS sp n Γ sc) b).getD [.bad]) := fun {b} => by
   cases hb : aO (cS sp n Γ sc) b with
   | none => exact v9
   | some l => exact gV ih he hc hb
  cases t with
  | Assign ts e p =>
   refine ak (show (fI ts).bind (fun t => ni (cE sp n Γ sc) Γ sc t e) = some y from h) fun t h1 hz => ?_
   obtain rfl := d5 h1
   cases t with
   | Name x q =>
    refine dN (show two S.assign (gj Γ sc x) (cE sp n Γ sc e) = some y from hz) fun i a g1 g2 eq4 => ?_; subst eq4
    exact wa H he hc (d6 g1).1 (d6 g1).2 g2
   | Tuple ts c q =>
    refine dq (show (if (jQ ts e || decide (3 < ts.length)) = true then Option.none else two S.tuple (aO (fun t => (lu t).bind (gj Γ sc)) ts) (cE sp n Γ sc e)) = some y from hz) fun hb hz => ?_
    rw [Bool.or_eq_false_iff] at hb
    refine dN hz fun i a g1 g2 eq4 => ?_; subst eq4
    exact s0 H.hh he (lR g1) (v8 (lR g1) hb.1 g2) (I1 g2)
   | Subscript o i q =>
    refine dq (show (if fU e = true then Option.none else dY S.setidx (cE sp n Γ sc o) (cE sp n Γ sc i) (cE sp n Γ sc e)) = some y from hz) fun hb hz => ?_
    refine dr hz fun a b c g1 g2 g3 eq6 => ?_; subst eq6
    exact qB (I1 g3) (I1 g1) (I1 g2)
   | _ => exact ab hz
  | Delete ts p =>
   refine ak (show (fI ts).bind (fun t => yy (cE sp n Γ sc) t) = some y from h) fun t h1 hz => ?_
   obtain rfl := d5 h1
   cases t with
   | Subscript o i q =>
    refine dN (show two S.del (cE sp n Γ sc o) (cE sp n Γ sc i) = some y from hz) fun a b g1 g2 eq4 => ?_; subst eq4
    exact zl (I1 g1) (I1 g2)
   | _ => exact ab hz
  | AugAssign t op e p =>
   cases t with
   | Name x q =>
    refine aX (show (if eg (sc.lookup x) = true then two (fun i e => S.aug i op e) (ah Γ x) (cE sp n Γ sc e) else Option.none) = some y from h) fun hl hz => ?_
    refine dN hz fun i a g1 g2 eq4 => ?_; subst eq4
    exact zk he (de hl) g1 (I1 g2)
   | _ => obtain rfl := Option.some.inj h; exact bad
  | Expr e p =>
   refine dq (show (if fU e = true then Option.none else (cE sp n Γ sc e).map S.expr) = some y from h) fun hb hz => ?_
   refine aL hz fun a ha eq2 => ?_; subst eq2
   exact vT he (ir ha hb _ _ _) (I1 ha)
  | If t a b p =>
   refine aL (show (cE sp n Γ sc t).map (fun t => S.ite t ((aO (cS sp n Γ sc) a).getD [.bad]) ((aO (cS sp n Γ sc) b).getD [.bad])) = some y from h) fun t' g1 eq2 => ?_; subst eq2
   exact zj (I2 g1) body body
  | While t b el p =>
   refine aX (show (if el.isEmpty = true then two S.whl (cE sp n Γ sc t) (aO (cS sp n Γ sc) b) else Option.none) = some y from h) fun hl hz => ?_
   rw [List.isEmpty_iff] at hl
   subst hl
   refine dN hz fun t' b' g1 g2 eq4 => ?_; subst eq4
   exact zm (I2 g1) (gV ih he hc g2)
  | For t it b el p =>
   refine aX (show (if el.isEmpty = true then yz Γ sc t (cE sp n Γ sc it) (aO (cS sp n Γ sc) b) else Option.none) = some y from h) fun hl hz => ?_
   rw [List.isEmpty_iff] at hl
   subst hl
   refine ak hz fun x hx hz => ?_
   obtain ⟨q, rfl⟩ := ch hx
   refine dr hz fun i it' b' g1 g2 g3 eq6 => ?_; subst eq6
   exact zo H.hh he (d6 g1).1 (d6 g1).2 (cH g2) (I1 g2) (gV ih he hc g3)
  | Return e p =>
   cases e with
   | none => exact ab h
   | some e =>
    refine aL (show (cE sp n Γ sc e).map S.ret = some y from h) fun a ha eq2 => ?_; subst eq2
    exact zi (I1 ha)
  | Break p => obtain rfl := Option.some.inj h; exact zh
  | Continue p => obtain rfl := Option.some.inj h; exact vS
  | Assert t m p =>
   refine aX (show (if m.isNone = true then (cE sp n Γ sc t).map S.assert else Option.none) = some y from h) fun hm hz => ?_
   rw [Option.isNone_iff_eq_none] at hm
   subst hm
   refine aL hz fun a ha eq2 => ?_; subst eq2
   exact qy (I2 ha)
  | _ => exact ab h
end
end Mine
namespace Mine
open PySem PySem.W PySem.Calls PyProof.Rows
noncomputable def j2 (b : Nat) (A : Around) : Prop := A.handled = Option.none ∧ A.depth + b < recursionLimit ∧ A.units + 60 * b + 100 < cLine
noncomputable def kU (cx : Cx) (f : Addr) (b : Nat) (args : List V) (v : V) : Prop := ∀ (A : Around) (s : Shared) (F : PH) (rs : List Value) (Q E : Value → Shared → Prop),
 j2 b A → (∀ a o, F a = some o → s.heap.get? a = some o) → F cx.P = Option.none → (∀ a o, cx.g.get? a = some o → F a = some o) → iS cx.P s.heap → VRs cx.sp F [] args rs →
 (∀ F' s' r, Tr cx.P F [] s F' [] s' → (∀ a o, F' a = some o → s'.heap.get? a = some o) → F' cx.P = Option.none → iS cx.P s'.heap → VR cx.sp F' [] v r → Q r s') →
 wpAny (model cx.prog cx.w) A (call (.ref f) rs) Q E s
mutual
theorem VR.fz {sp : Addr} {F : PH} {μ ν : List Addr} : ∀ {v : V} {r : Value}, v.fz = true → VR sp F μ v r → VR sp F ν v r
 | .none, _, _, h => h
 | .bool _, _, _, h => h
 | .int _, _, _, h => h
 | .str _, _, _, h => h
 | .tup _, _, hz, h => ⟨h.1, h.2.elim fun a h => ⟨a, h.elim fun vs h => ⟨vs, h.1, h.2.1, VRs.fz hz h.2.2⟩⟩⟩
 | .lst _, _, hz, h => ⟨h.1, h.2.elim fun a h => ⟨a, h.elim fun vs h => ⟨vs, h.1, h.2.1, VRs.fz hz h.2.2⟩⟩⟩
 | .rng _ _ _, _, hz, h => by exact aH hz
 | .cell _, _, hz, h => by exact aH hz
 | .app _, _, hz, h => by exact aH hz
 | .spc, _, _, h => h
 | .con _, _, _, h => h
theorem VRs.fz {sp : Addr} {F : PH} {μ ν : List Addr} : ∀ {l : List V} {rs : List Value}, V.fz.fzs l = true → VRs sp F μ l rs → VRs sp F ν l rs
 | [], rs, _, h => by cases rs with
  | nil => exact h
  | cons => exact h.elim
 | v :: l, rs, hz, h => by cases rs with
  | nil => exact h.elim
  | cons =>
   have hz' := Bool.and_eq_true_iff.1 (show (v.fz && V.fz.fzs l) = true from hz)
   exact ⟨VR.fz hz'.1 h.1, VRs.fz hz'.2 h.2⟩
end
section
variable {cx : Cx} {A : Around} {Γ : List Str} {sc : List (Str × NameKind)} {env : Env} {h₀ : Heap} {F F' : PH} {μ : List Addr} {st : St}
theorem Ok.call {s s' : Shared} (k : Ok cx Γ sc env h₀ F μ st s.heap) (t : Tr cx.P F [] s F' [] s') (hz : ∀ a o, F' a = some o → s'.heap.get? a = some o) (hP : F' cx.P = Option.none) (tab : iS cx.P s'.heap) :
  Ok cx Γ sc env h₀ F' μ st s'.heap ∧ Tr cx.P F μ s F' μ s' := by
 have no : ∀ a, F a = Option.none → s.heap.get? a ≠ Option.none → F' a = Option.none := fun a h1 h2 => Classical.byContradiction fun q => (t.new a q).elim (fun z => z h1) h2
 have hk : ∀ a o, a ≠ cx.P → s.heap.get? a = some o → s'.heap.get? a = some o := fun a o h e => t.keep a o e (by simp) h
 obtain ⟨m, hm, hmv⟩ := k.ns
 refine ⟨⟨hz, no _ k.fL k.aliveL, fun n c hc => no _ (k.fC n c hc) (k.ca n c hc), fun a ha => no _ (k.fM a ha) (k.aliveM a ha), hP, fun a o e => t.le _ _ (k.gF a o e), fun a o e => hk a o (fun q => by rw [q, k.nP] at e; exact ab e) (k.keep a o e), k.nL, k.nC, k.nM, k.nP, k.nd, k.mL, k.mP, k.lP, k.cM,
  ⟨m, hm.at' fun o e => hk _ o k.lP e, fun x i v h1 h2 h3 => ?_⟩, fun x i h1 h2 => ?_, k.len, fun n c hc => t.alive c (k.ca n c hc), fun i a l h1 h2 => ?_, tab⟩, ⟨t.le, List.prefix_refl _, fun a o h _ h3 => t.keep a o h (by simp) h3, t.alive, t.new, fun a h => .inl h, t.os, t.gens⟩⟩
 ·obtain ⟨r, e, hv⟩ := hmv x i v h1 h2 h3
  exact ⟨r, e, hv.mono t.le (List.prefix_refl _)⟩
 ·obtain ⟨c, ov, e1, e2, e3⟩ := k.cl x i h1 h2
  have hc := k.cM x c (mem_of_lookup e1)
  exact ⟨c, ov, e1, cL e2 fun o e => hk _ o hc.2.2 e, fun v hv => by obtain ⟨r, e, z⟩ := e3 v hv; exact ⟨r, e, z.mono t.le (List.prefix_refl _)⟩⟩
 ·obtain ⟨h3, vs, ⟨o, n, e, h4⟩, h5⟩ := k.ct i a l h1 h2
  exact ⟨h3, vs, ⟨o, n, hk a o (fun q => k.mP (q ▸ List.mem_of_getElem? h1)) e, h4⟩, h5.mono t.le (List.prefix_refl _)⟩
theorem AT {n : Nat} {f : Addr} {b : Nat} (hr : j2 b A) (hf : ∀ args v, cx.fns n args v → kU cx f b args v) : cz cx A (.fn n) (.ref f) (· = []) := by
 intro Γ sc env h₀ F μ st s K Q E vs rs tl k vr htl hw q
 subst htl
 rw [List.append_nil]
 have hw' : oi vs = true ∧ ∃ v, cx.fns n vs v ∧ K v := by
  match vs, hw with
  | [], h => exact h
  | v :: r, h => exact h
 obtain ⟨hz, v, h1, h2⟩ := hw'
 refine hf vs v h1 A s F rs Q E hr (fun a o e => k.fz a o e) k.fP k.gF k.tab (VRs.fz hz vr) fun F' s' r t g1 g2 g3 vr' => ?_
 obtain ⟨k', t'⟩ := k.call t g1 g2 g3
 exact q v F' s' r h2 k' t' (vr'.mono (fun _ _ e => e) List.nil_prefix)
noncomputable def frz (F : PH) (μ : List Addr) (h : Heap) : PH := fun a => if F a ≠ Option.none then F a else if a ∈ μ then h.get? a else Option.none
theorem ja {F : PH} {μ : List Addr} {h : Heap} : PLe F (frz F μ h) := fun a o e => by unfold frz; rw [if_pos (by rw [e]; simp)]; exact e
theorem wb {F : PH} {μ : List Addr} {h : Heap} (hm : ∀ a ∈ μ, F a = Option.none) {a : Addr} (ha : a ∈ μ) : frz F μ h a = h.get? a := by
 unfold frz
 rw [if_neg (by rw [hm a ha]; simp), if_pos ha]
theorem mapM_cons {α β : Type} {f : α → Option β} {a : α} {r : List α} {l : List β} (h : (a :: r).mapM f = some l) : ∃ b l', f a = some b ∧ r.mapM f = some l' ∧ l = b :: l' := by
 rw [List.mapM_cons] at h
 cases h1 : f a with
 | none => rw [h1] at h; exact ab h
 | some b =>
  cases h2 : r.mapM f with
  | none => rw [h1, h2] at h; exact ab h
  | some l' => rw [h1, h2] at h; obtain rfl := Option.some.inj h; exact ⟨b, l', rfl, rfl, rfl⟩
theorem kq {h : Heap} (k : Ok cx Γ sc env h₀ F μ st h) : ∀ (n : Nat) {v u : V} {r : Value}, aq st.cells n v = some u → VR cx.sp F μ v r → VR cx.sp (frz F μ h) [] u r
 | 0, v, u, r, hf, hv => by exact ab hf
 | n + 1, v, u, r, hf, hv => by
  have list : ∀ {l : List V} {l' : List V} {rs : List Value}, l.mapM (aq st.cells n) = some l' → VRs cx.sp F μ l rs → VRs cx.sp (frz F μ h) [] l' rs ∧ l'.length = l.length := by
   intro l
   induction l with
   | nil => intro l' rs h1 h2; obtain rfl := Option.some.inj h1; obtain rfl := h2.nilI; exact ⟨trivial, rfl⟩
   | cons a l ih =>
    intro l' rs h1 h2
    obtain ⟨b, l2, g1, g2, rfl⟩ := mapM_cons h1
    obtain ⟨r1, rs1, rfl, v1, v2⟩ := h2.consI
    obtain ⟨g3, g4⟩ := ih g2 v2
    exact ⟨⟨kq k n g1 v1, g3⟩, by simp [g4]⟩
  unfold aq at hf
  split at hf
  ·rename_i hz
   obtain rfl := Option.some.inj hf
   exact (VR.fz (ν := []) hz hv).mono ja (List.prefix_refl _)
  ·split at hf
   ·rename_i i _
    split at hf
    ·rename_i l hl
     refine aL hf fun l' h1 eq2 => ?_; subst eq2
     obtain ⟨a, h2, rfl⟩ := hv
     obtain ⟨h3, vs, h4, h5⟩ := k.ct i a l h2 hl
     obtain ⟨h6, h7⟩ := list h1 h5
     have ha := List.mem_of_getElem? h2
     obtain ⟨o, m, g1, g2, g3, _⟩ := h4
     exact ⟨by rw [h7]; exact h3, a, vs, rfl, ⟨o, m, by rw [wb k.fM ha]; exact g1, g2, g3⟩, h6⟩
    ·exact ab hf
   ·rename_i l _
    refine aL hf fun l' h1 eq2 => ?_; subst eq2
    obtain ⟨h2, a, vs, rfl, h3, h4⟩ := hv
    obtain ⟨h6, h7⟩ := list h1 h4
    exact ⟨by rw [h7]; exact h2, a, vs, rfl, h3.mono ja, h6⟩
   ·rename_i l _
    refine aL hf fun l' h1 eq2 => ?_; subst eq2
    obtain ⟨h2, a, vs, rfl, h3, h4⟩ := hv
    obtain ⟨h6, h7⟩ := list h1 h4
    exact ⟨by rw [h7]; exact h2, a, vs, rfl, h3.mono ja, h6⟩
   ·exact ab hf
end
end Mine
namespace Mine
open PySem PySem.W PySem.Calls PyProof.Rows
noncomputable def eV (Γ ps : List Str) (vs : List V) : List (Option V) := (Γ.map fun x => (ps.zip vs).lookup x) ++ List.replicate 8 Option.none
theorem jb {Γ ps : List Str} {vs : List V} {x : Str} {i : Nat} (h : ah Γ x = some i) : (eV Γ ps vs)[i]? = some ((ps.zip vs).lookup x) := by
 have h1 := bY h
 have h2 := gU h
 unfold eV
 rw [List.getElem?_append_left (by simpa using h2), List.getElem?_map, h1]; rfl
theorem d7 {β : Type} : ∀ {l : List (Str × β)} {x : Str}, x ∉ l.map (·.1) → l.lookup x = Option.none
 | [], _, _ => rfl
 | (y, b) :: r, x, h => by
  simp only [List.map_cons, List.mem_cons, not_or] at h
  rw [List.lookup_cons]
  have : (x == y) = false := by simpa using h.1
  rw [this]
  exact d7 h.2
theorem lT (kindOf : Str → Option NameKind) : ∀ (l : List (Str × Value)) (m : Str → Option Value), (l.map (·.1)).Nodup → ∀ x, kindOf x = some .local → bindL kindOf l m x = (l.lookup x).or (m x)
 | [], m, _, x, _ => rfl
 | (y, v) :: r, m, hn, x, hx => by
  simp only [List.map_cons, List.nodup_cons] at hn
  rw [bindL, lT kindOf r _ hn.2 x hx, List.lookup_cons]
  by_cases q : x = y
  ·subst q
   rw [d7 hn.1]
   simp [hx]
  ·have : (x == y) = false := by simpa using q
   rw [this]
   by_cases hy : kindOf y = some .local
   ·simp [hy, q]
   ·simp [hy]
theorem lU (kindOf : Str → Option NameKind) : ∀ (l : List (Str × Value)) (m : Str → Option Value), (l.map (·.1)).Nodup → ∀ x, kindOf x ≠ some .local → PySem.bindC kindOf l m x = (l.lookup x).or (m x)
 | [], m, _, x, _ => rfl
 | (y, v) :: r, m, hn, x, hx => by
  simp only [List.map_cons, List.nodup_cons] at hn
  rw [PySem.bindC, lU kindOf r _ hn.2 x hx, List.lookup_cons]
  by_cases q : x = y
  ·subst q
   rw [d7 hn.1]
   simp [hx]
  ·have : (x == y) = false := by simpa using q
   rw [this]
   by_cases hy : kindOf y = some .local
   ·simp [hy]
   ·simp [hy, q]
theorem gu {sp : Addr} {F : PH} {μ : List Addr} : ∀ {ps : List Str} {vs : List V} {rs : List Value}, VRs sp F μ vs rs → ∀ {x : Str} {v : V}, (ps.zip vs).lookup x = some v → ∃ r, (ps.zip rs).lookup x = some r ∧ VR sp F μ v r
 | [], _, _, _, x, v, h => by simp at h
 | p :: ps, [], _, _, x, v, h => by simp at h
 | p :: ps, v0 :: vs, [], h0, x, v, h => h0.elim
 | p :: ps, v0 :: vs, r0 :: rs, ⟨h1, h2⟩, x, v, h => by
  rw [List.zip_cons_cons, List.lookup_cons] at h ⊢
  cases q : x == p with
  | true => rw [q] at h; obtain rfl := Option.some.inj h; exact ⟨r0, rfl, h1⟩
  | false => rw [q] at h; exact gu h2 h
structure gv (cx : Cx) (f : Addr) (body : List Stmt) (scope : Scope) (ps : List Str) (ar : Nat) (dfl : List V) : Prop where
 ob : ∃ o fd, cx.g.get? f = some o ∧ o.data = .func fd ∧ fd.body = .stmts body ∧ fd.scope = scope ∧ fd.closure = [] ∧ fd.globals = mainGlobals ∧ fd.builtins = builtinsNs ∧ cx.g.CodeRec fd.code fd.qualname ∧
  ∀ (F : PH), (∀ a o, cx.g.get? a = some o → F a = some o) → ∃ tl, VRs cx.sp F [] dfl tl ∧
   ∀ (rs : List Value) (A : Around) (s : Shared) (Q : List (Str × Value) → Shared → Prop) (E : Value → Shared → Prop), rs.length = ar → (∀ a o, cx.g.get? a = some o → s.heap.get? a = some o) → Q (ps.zip (rs ++ tl)) s → wpAny (model cx.prog cx.w) A (bindArgs fd ⟨rs, []⟩) Q E s
 lim : cx.g.NoLimit
 kind : scope.kind = .function
 co : scope.isCoroutine = false
 gen : scope.isGenerator = false
 psn : ps.Nodup
 psk : ∀ x ∈ ps, scope.names.lookup x = some .local ∨ scope.names.lookup x = some .cell
 nf : ∀ x k, (x, k) ∈ scope.names → k ≠ .free
 nn : (scope.names.map (·.1)).Nodup
 dot : ah (Γof scope) ".0" = Option.none
theorem dg : ∀ {names : List (Str × NameKind)} {n : Nat} {acc : List (Str × Addr)} {x : Str}, ((x, NameKind.cell) ∈ names ∨ ∃ c, (x, c) ∈ acc) → ∃ c, (x, c) ∈ cellsFrom n names acc
 | [], n, acc, x, h => by
  rcases h with h | h
  ·cases h
  ·exact h
 | (y, k) :: r, n, acc, x, h => by
  unfold cellsFrom
  rcases h with h | ⟨c, h⟩
  ·rcases List.mem_cons.mp h with e | h
   ·obtain ⟨e1, e2⟩ := Prod.mk.inj e
    subst e1 e2
    rw [if_pos (by decide)]
    exact dg (.inr ⟨n, List.mem_cons_self ..⟩)
   ·split
    ·exact dg (.inl h)
    ·exact dg (.inl h)
  ·split
   ·exact dg (.inr ⟨c, List.mem_cons_of_mem _ h⟩)
   ·exact dg (.inr ⟨c, h⟩)
set_option backward.match.sparseCases true in
theorem j3 {prog : Program} {w : World} {A : Around} {s : Shared} {R : Result → Shared → Prop} {a : Addr} {o : Obj} {fd : FuncData} {body : List Stmt} {vals : List Value} {binds : List (Str × Value)}
  (hroom : A.depth < recursionLimit) (ho : s.heap.get? a = some o) (hdata : o.data = .func fd) (hlim : s.heap.NoLimit) (hcd : s.heap.CodeRec fd.code fd.qualname)
  (hbody : fd.body = .stmts body) (hbind : ∀ Q E, Q binds s → wpAny (model prog w) A.in1 (bindArgs fd ⟨vals, []⟩) Q E s) (hclo : fd.closure = [])
  (hkind : ∀ x ∈ binds, fd.scope.names.lookup x.1 = some .local ∨ (fd.scope.names.lookup x.1 = some .cell ∧ ((cellsFrom (s.heap.objs.size + 1) fd.scope.names []).lookup x.1).isSome = true))
  (h : ∀ s₁, InCallC s (callEnvC fd s.heap.objs.size a).locals (bindL (callEnvC fd s.heap.objs.size a).kindOf binds fun _ => Option.none) (callEnvC fd s.heap.objs.size a).cells
    (PySem.bindC (callEnvC fd s.heap.objs.size a).kindOf binds fun _ => Option.none) s₁ →
   wpAny (model prog w) (A.deeper (callEnvC fd s.heap.objs.size a)) (execs body (callEnvC fd s.heap.objs.size a)) (fun f s' => R (.ok (.ret (match f with | .ret v => v | _ => .none))) s')
    (fun e s' => wpAny (model prog w) (A.deeper (callEnvC fd s.heap.objs.size a)) (leaving (callEnvC fd s.heap.objs.size a) e) (fun _ s'' => R (.error e) s'') (fun e' s'' => R (.error e') s'') s') s₁)
  (hco : fd.scope.isCoroutine = false) (hgen : fd.scope.isGenerator = false) (hk : fd.scope.kind = .function) :
  codeAny (model prog w) A (.call (.ref a) ⟨vals, []⟩) R s := by
 refine codeAny_call_function hroom ho hdata hco hgen hbody hcd ?_
 refine hbind _ _ ?_
 rw [hclo]
 refine wpAny_newFunctionEnv_cells hk hkind fun env he s' x => ?_
 subst he
 exact ⟨hlim.keeps x.toInCall.keep, codeAny_func (h s' x)⟩
theorem fK : ∀ {names : List (Str × NameKind)} {n : Nat} {acc : List (Str × Addr)}, (names.map (·.1)).Nodup → (acc.map (·.1)).Nodup → (∀ x, x ∈ names.map (·.1) → x ∉ acc.map (·.1)) → ((cellsFrom n names acc).map (·.1)).Nodup
 | [], n, acc, _, h, _ => h
 | (y, k) :: r, n, acc, h1, h2, h3 => by
  simp only [List.map_cons, List.nodup_cons] at h1
  unfold cellsFrom
  split
  ·refine fK h1.2 ?_ fun x hx => ?_
   ·simp only [List.map_cons, List.nodup_cons]
    exact ⟨h3 y (by simp), h2⟩
   ·simp only [List.map_cons, List.mem_cons, not_or]
    exact ⟨fun e => h1.1 (e ▸ hx), h3 x (by simp only [List.map_cons, List.mem_cons]; exact .inr hx)⟩
  ·exact fK h1.2 h2 fun x hx => h3 x (by simp only [List.map_cons, List.mem_cons]; exact .inr hx)
theorem fj {β : Type} : ∀ {l : List (Str × β)}, (l.map (·.1)).Nodup → ∀ {n : Str} {c : β}, (n, c) ∈ l → l.lookup n = some c
 | (y, b) :: r, h, n, c, hm => by
  simp only [List.map_cons, List.nodup_cons] at h
  rw [List.lookup_cons]
  rcases List.mem_cons.mp hm with e | hm
  ·obtain ⟨e1, e2⟩ := Prod.mk.inj e
   subst e1 e2
   simp
  ·have : (n == y) = false := by
    rw [beq_eq_false_iff_ne]
    intro q
    exact h.1 (List.mem_map.mpr ⟨(n, c), hm, q⟩)
   rw [this]
   exact fj h.2 hm
theorem AU {cx : Cx} {f : Addr} {fd : FuncData} {scope : Scope} {ps : List Str} {vs : List V} {rs : List Value} {s s₁ : Shared} {F : PH} (hsc : fd.scope = scope) (hps : ps.Nodup) (hnf : ∀ x k, (x, k) ∈ scope.names → k ≠ .free) (hnn : (scope.names.map (·.1)).Nodup)
  (hF : ∀ a o, F a = some o → s.heap.get? a = some o) (hP : F cx.P = Option.none) (hg : ∀ a o, cx.g.get? a = some o → F a = some o) (tab : iS cx.P s.heap) (vr : VRs cx.sp F [] vs rs)
  (x : InCallC s (callEnvC fd s.heap.objs.size f).locals (bindL (callEnvC fd s.heap.objs.size f).kindOf (ps.zip rs) fun _ => Option.none) (callEnvC fd s.heap.objs.size f).cells (PySem.bindC (callEnvC fd s.heap.objs.size f).kindOf (ps.zip rs) fun _ => Option.none) s₁) :
  Ok cx (Γof scope) scope.names (callEnvC fd s.heap.objs.size f) cx.g F [] ⟨eV (Γof scope) ps vs, []⟩ s₁.heap := by
 subst hsc
 have hk : ∀ a o, s.heap.get? a = some o → s₁.heap.get? a = some o := x.toInCall.keep
 have dead : ∀ a, s.heap.get? a = Option.none → F a = Option.none := fun a h => by
  cases e : F a with
  | none => rfl
  | some o => rw [hF _ _ e] at h; exact cn h
 have gdead : ∀ a, F a = Option.none → cx.g.get? a = Option.none := fun a h => by
  cases e : cx.g.get? a with
  | none => rfl
  | some o => rw [hg _ _ e] at h; exact cn h
 have big : ∀ a, s.heap.objs.size ≤ a → s.heap.get? a = Option.none := fun a h => by
  cases e : s.heap.get? a with
  | none => rfl
  | some o => exact absurd (Heap.lt_size e) (Nat.not_lt.mpr h)
 have cabove : ∀ n c, (n, c) ∈ (callEnvC fd s.heap.objs.size f).cells → s.heap.objs.size < c := x.above
 have cdead : ∀ n c, (n, c) ∈ (callEnvC fd s.heap.objs.size f).cells → s.heap.get? c = Option.none := fun n c h => big c (Nat.le_of_lt (cabove n c h))
 have hPa : s.heap.get? cx.P ≠ Option.none := by obtain ⟨p, e, _⟩ := tab; rw [e]; simp
 have cnd : ((callEnvC fd s.heap.objs.size f).cells.map (·.1)).Nodup := fK hnn (by simp) (fun x _ h => by simp at h)
 have zn : ∀ {rs : List Value}, ((ps.zip rs).map (·.1)).Nodup := fun {rs} => by
  have : ∀ {ps : List Str} {rs : List Value}, ps.Nodup → ((ps.zip rs).map (·.1)).Nodup := by
   intro ps
   induction ps with
   | nil => intro rs _; simp
   | cons p ps ih =>
    intro rs h
    cases rs with
    | nil => simp
    | cons r rs =>
     simp only [List.nodup_cons] at h
     simp only [List.zip_cons_cons, List.map_cons, List.nodup_cons]
     refine ⟨fun hm => h.1 ?_, ih h.2⟩
     obtain ⟨⟨a, b⟩, h1, h2⟩ := List.mem_map.mp hm
     subst h2
     exact (List.of_mem_zip h1).1
  exact this hps
 refine ⟨fun a o e => hk _ _ (hF a o e), dead _ (bu _), fun n c hc => dead _ (cdead n c hc), fun a ha => (by cases ha), hP, hg, fun a o e => hk _ _ (hF _ _ (hg a o e)), gdead _ (dead _ (bu _)), fun n c hc => gdead _ (dead _ (cdead n c hc)), fun a ha => (by cases ha), gdead _ hP, List.nodup_nil, (by simp), (by simp),
  fun q => hPa (by rw [← q]; exact bu _), fun n c hc => ⟨(by simp), fun q => Nat.lt_irrefl _ (by have := cabove n c hc; rw [q] at this; exact this), fun q => hPa (q ▸ cdead n c hc)⟩,
  ⟨_, x.toInCall.ns, fun y i v h1 h2 h3 => ?_⟩, fun y i h1 h2 => ?_, rfl, fun n c hc => ?_, fun i a l h1 h2 => (by simp at h1), ?_⟩
 ·rw [jb h2] at h3
  obtain ⟨r, h4, h5⟩ := gu vr (Option.some.inj h3)
  refine ⟨r, ?_, h5⟩
  rw [lT _ _ _ zn y h1, h4]; rfl
 ·have hcell : fd.scope.names.lookup y = some .cell := by
   rcases h1 with h1 | h1
   ·exact h1
   ·exact absurd rfl (hnf y _ (mem_of_lookup h1))
  obtain ⟨c, hc⟩ := dg (n := s.heap.objs.size + 1) (acc := []) (.inl (mem_of_lookup hcell))
  have hl : (callEnvC fd s.heap.objs.size f).cells.lookup y = some c := fj cnd hc
  refine ⟨c, _, hl, x.cell y c hl, fun v hv => ?_⟩
  rw [jb h2] at hv
  obtain ⟨r, h4, h5⟩ := gu vr (Option.some.inj hv)
  refine ⟨r, ?_, h5⟩
  have hne : (callEnvC fd s.heap.objs.size f).kindOf y ≠ some .local := fun e => by
   have : fd.scope.names.lookup y = some .local := e
   rw [hcell] at this; cases this
  rw [lU _ _ _ zn y hne, h4]; rfl
 ·have hl := fj cnd hc
  obtain ⟨o, e, _⟩ := x.cell n c hl
  rw [e]; simp
 ·obtain ⟨p, e, t⟩ := tab; exact ⟨p, hk _ _ e, t⟩
end Mine
namespace Mine
open PySem PySem.W PySem.Calls PyProof.Rows
theorem zw {cx : Cx} {sp : Bool} {f : Addr} {body : List Stmt} {scope : Scope} {ps : List Str} {ar b : Nat} {dfl vs : List V} {code : List S} {v : V} (D : gv cx f body scope ps ar dfl) (hcode : aO (cS sp 40 (Γof scope) scope.names) body = some code)
  (H : ∀ A, j2 b A → Hyp cx A sp) (hpc : sp = true → ∀ o fd, cx.g.get? f = some o → o.data = .func fd → fd.code = .ref cx.pc) (hlen : vs.length = ar)
  (hw : WSs cx.fns code (fun fl st => ∃ w n, fl = .ret w ∧ aq st.cells n w = some v) ⟨eV (Γof scope) ps (vs ++ dfl), []⟩) : kU cx f (b + 1) vs v := by
 intro A s F rs Q E hr hF hP hg tab vrs q
 obtain ⟨o, fd, h1, h2, h3, h4, h5, h6, h7, h8, h9⟩ := D.ob
 obtain ⟨tl, vtl, hb⟩ := h9 F hg
 obtain ⟨r1, r2, r3⟩ := hr
 have hgs : ∀ a o, cx.g.get? a = some o → s.heap.get? a = some o := fun a o e => hF _ _ (hg a o e)
 have vall : VRs cx.sp F [] (vs ++ dfl) (rs ++ tl) := vrs.append vtl
 subst h4
 refine wpAny_call (j3 (binds := ps.zip (rs ++ tl)) (BD r2) (hgs _ _ h1) h2 (D.lim.keeps hgs) (h8.keeps hgs) h3 (fun Q E hq => hb rs A.in1 s Q E (by rw [vrs.length, hlen]) hgs hq) h5 ?_ ?_ D.co D.gen D.kind)
 ·intro x hx
  have hm : x.1 ∈ ps := (List.of_mem_zip (show (x.1, x.2) ∈ ps.zip (rs ++ tl) from hx)).1
  rcases D.psk x.1 hm with hl | hl
  ·exact .inl hl
  ·refine .inr ⟨hl, ?_⟩
   obtain ⟨c, hc⟩ := dg (n := s.heap.objs.size + 1) (acc := []) (.inl (mem_of_lookup hl))
   obtain ⟨c', hc'⟩ := eF hc
   rw [hc']; rfl
 ·intro s₁ x
  have k := AU (f := f) (fd := fd) rfl D.psn D.nf D.nn hF hP hg tab vall x
  have henv : EnvOk (Γof fd.scope) fd.scope.names (callEnvC fd s.heap.objs.size f) := {
   kind := D.kind
   glob := h6
   bi := h7
   loc := fun y hy => hy
   cel := fun y hy _ => by
    rcases hy with hy | hy
    ·exact hy
    ·exact absurd rfl (D.nf y _ (mem_of_lookup hy))
   gl := fun y hy => hy
   apart := fun n n' c g1 g2 => name_of_addr x.apart g1 g2
   dot := D.dot }
  have hcc : sp = true → (callEnvC fd s.heap.objs.size f).code = .ref cx.pc := fun e => hpc e o fd h1 h2
  have hA : j2 b (A.deeper (callEnvC fd s.heap.objs.size f)) := ⟨r1, by show A.depth + 1 + b < _; exact BC r2, by show A.units + 3 + 60 * b + 100 < _; exact BB r3⟩
  have hS := gV (uL (H _ hA) 40) (h₀ := cx.g) henv hcc hcode
  refine hS F [] _ s₁ _ _ _ k hw fun fl st' F' μ' s' fw hfl k' t hf => ?_
  obtain ⟨w, n, rfl, hz⟩ := hfl
  obtain ⟨r, rfl, hv⟩ : ∃ r, fw = .ret r ∧ VR cx.sp F' μ' w r := hf
  have hk : ∀ a o, s.heap.get? a = some o → s₁.heap.get? a = some o := x.toInCall.keep
  have back : ∀ a, s₁.heap.get? a = Option.none → s.heap.get? a = Option.none := fun a e => by
   cases e2 : s.heap.get? a with
   | none => rfl
   | some o => rw [hk _ _ e2] at e; exact cn e
  have al : ∀ a, s.heap.get? a ≠ Option.none → s₁.heap.get? a ≠ Option.none := fun a h e => h (back a e)
  obtain ⟨h', tk, hs1⟩ := x.toInCall.same
  refine q (frz F' μ' s'.heap) s' r ⟨fun a o e => ja _ _ (t.le _ _ e), List.prefix_refl _, fun a o e _ hp => t.keep a o (hk a o e) (by simp) hp (fun e2 => ?_) (fun m hm => ?_), fun a e => t.alive a (al a e), fun a e => ?_, fun a e => .inl e, ?_, fun g => t.gens (by rw [hs1]; exact g)⟩ (fun a o e => ?_) ?_ k'.tab (kq k' n hz hv)
  ·have := Heap.lt_size e
   rw [e2] at this
   exact Nat.lt_irrefl _ this
  ·have g1 := x.above m a hm
   have g2 := Heap.lt_size e
   exact Nat.lt_irrefl _ (Nat.lt_trans g1 g2)
  ·unfold frz at e
   split at e
   ·rename_i q1
    exact (t.new a q1).imp id (back a)
   ·split at e
    ·rename_i q1
     exact .inr (back a ((t.newM a q1).resolve_left (by simp)))
    ·exact absurd rfl e
  ·rw [t.os, hs1]
  ·unfold frz at e
   split at e
   ·exact k'.fz _ _ e
   ·split at e
    ·exact e
    ·exact ab e
  ·unfold frz
   rw [if_neg (by rw [k'.fP]; simp), if_neg k'.mP]
end Mine
namespace Mine
open PySem PySem.W PySem.Calls PyProof.Rows Builtin Builtin.Str
structure CxT (cx : Cx) : Prop where
 hd : CodeHd cx.g cx.pc cx.P
 lim : cx.g.NoLimit
 mg : ∃ mg bm ob, cx.g.Ns mainGlobals mg ∧ mg "__builtins__" = some (.ref bm) ∧ bm ≠ builtinsNs ∧ cx.g.get? bm = some ob ∧ ob.cls = .type "module" ∧ ob.dict = some builtinsNs ∧ ob.data = .plain
section
variable {cx : Cx} {A : Around} {E : Value → Shared → Prop} {s : Shared} {env : Env}
theorem nG {prog : Program} {w : World} {o : Expr} {c d : Str} {c0 : Nat} {ap p r1 r2 : Pos} {k1 k2 : Nat} {Q : Value → Shared → Prop} (hb : attributeBase o "replace" env (eval o env) = eval o env) (hline : (ap.endLine == p.line) = true) (hc : c.cps = #[c0])
  (h : wpAny (model prog w) A (eval o env) (fun ov s₁ => ∃ (x : List Nat) (t : Tok), ov = .str ⟨x.toArray⟩ t ∧ x.contains c0 = false ∧ ∀ tk, Q (.str ⟨x.toArray⟩ t) { s₁ with toks := tk }) E s) :
  wpAny (model prog w) A (eval (.Call (.Attribute o "replace" ap) [.Constant (.str c) k1 r1, .Constant (.str d) k2 r2] [] p) env) Q E s := by
 obtain ⟨ca⟩ := c
 subst hc
 refine Call_method2 hb rfl hline (wpAny_mono h (fun ov s₁ h₁ => ?_) fun _ _ x => x)
 obtain ⟨x, t, rfl, h0, q⟩ := h₁
 refine ⟨"str", "str.replace", PySem.F.plainAttrs_str, PySem.F.slot_str_replace, PySem.F.type_str_replace, typeIs_str _ _ _, fun _ e => (nomatch e), dE rfl (spliced_cons (wpAny_Constant_str (spliced_cons (wpAny_Constant_str (spliced_nil ?_)))))⟩
 have e : (occurrences ⟨x.toArray⟩ ⟨[c0].toArray⟩ 0 (⟨x.toArray⟩ : Str).length ((⟨x.toArray⟩ : Str).length + 1)) = [] := by
  refine occ_nil_of_no _ _ _ fun i hi => ?_
  cases h : subAt ⟨x.toArray⟩ ⟨[c0].toArray⟩ i with
  | false => rfl
  | true =>
   have := (StrLaws.subAt_one ⟨x.toArray⟩ c0 i).mp ⟨hi, h⟩
   have h2 : c0 ∈ x := List.mem_of_getElem? (by simpa using this)
   rw [List.contains_eq_mem, decide_eq_false_iff_not] at h0
   exact absurd h2 h0
 have hc : ((occurrences ⟨x.toArray⟩ ⟨[c0].toArray⟩ 0 (⟨x.toArray⟩ : Str).length ((⟨x.toArray⟩ : Str).length + 1)).isEmpty || ((⟨[c0].toArray⟩ : Str).length == 0 && d.length == 0)) = true := by rw [e]; rfl
 refine call_gives PySem.F.slot_str_replace (typeIs_str _ _ _) PySem.F.entry_str_replace (PySem.F.args_str_replace_3 _ _ _)
  (gives_str_replace _ _ _ t _ _ fun h => by rw [hc] at h; exact gh h) ?_
 rw [if_pos hc]
 exact q _
theorem tw {M : Model} {c P : Addr} {ps : Array Value} {pos : Pos} {q : Str} {scope : Scope} {Q : Value → Shared → Prop} (hcode : env.code = .ref c) (C : CodeHd s.heap c P) (hP : s.heap.get? P = some (tabObj ps)) (ht : TriplesOk ps.toList)
  (k : ∀ code h' tk ps', Heap.ExtBut P s.heap h' → s.heap.objs.size ≤ h'.objs.size → h'.get? P = some (tabObj ps') → TriplesOk ps'.toList → Q code { s with heap := h', toks := tk }) : wpAny M A (genexprCode env pos q scope) Q E s := by
 cases hf : codeAmong pos ps.toList with
 | none =>
  refine wpAny_genexprCodeX hcode (C.code hP ht) (C.tab hP) hf fun c' h' tk hx hge hlt hcd hrec htb _ => ?_
  exact k _ _ _ _ hx (by omega) htb.2 (by rw [Array.toList_append]; exact TriplesOk_snoc _ _ _ _ ht)
 | some cv =>
  refine wpAny_genexprCode_hit hcode (C.code hP ht) hf ?_
  exact k cv s.heap s.toks ps (fun b o _ e => e) (Nat.le_refl _) hP ht
section
variable {cx : Cx} {A : Around} {Γ : List Str} {sc : List (Str × NameKind)} {env : Env} {h₀ : Heap}
theorem oU (s : Shared) : Keeps s s := ⟨s.heap, s.toks, rfl, fun _ _ e => e⟩
theorem qP (s : Shared) (tk tk' : Nat) : Keeps s { { s with toks := tk } with toks := tk' } := ⟨s.heap, tk', rfl, fun _ _ e => e⟩
theorem tx {m : List V} {l : List (List Nat)} (h : txts m = some l) : m = l.map V.str := by
 induction m generalizing l with
 | nil => obtain rfl := Option.some.inj h; rfl
 | cons v m ih => cases v with
  | str x =>
   obtain ⟨r, h1, rfl⟩ := Option.map_eq_some_iff.1 (show (txts m).map (x :: ·) = some l from h)
   rw [ih h1]; rfl
  | _ => exact ab h
theorem lV (n : Nat) : passing (fun _ => true) n 0 = List.range n := by
 unfold passing; rw [List.drop_zero]; exact List.filter_eq_self.2 fun _ _ => rfl
theorem wc (T : CxT cx) (hh : A.handled = Option.none) (hroom : A.depth < recursionLimit) (he : EnvOk Γ sc env) (hcode : env.code = .ref cx.pc)
  {sep : Str} {k0 : Nat} {p apos pos : Pos} {x src : Str} {q1 q2 q3 : Pos} {ap1 ap2 p1 p2 gp : Pos} {c1 d1 c2 d2 : Str} {k1 k2 k3 k4 : Nat} {r1 r2 r3 r4 : Pos} {scope : Scope} {i : Nat}
  (hline : (apos.endLine == pos.line) = true) (hl1 : ap1.endLine == p1.line) (hl2 : ap2.endLine == p2.line) (hc1 : c1.cps = #[92]) (hc2 : c2.cps = #[45]) (hx : x ≠ "__debug__") (hsrc : sc.lookup src = some .local) (hsd : src ≠ "__debug__") (hkind : scope.kind = .function) (hgen : scope.isGenerator = true) (hco : scope.isCoroutine = false) (hsep : sep.cps.size ≤ 100)
  (hx0 : x ≠ ".0") (hxl : scope.names.lookup x = some .local) (h0 : scope.names.lookup (".0" : Str) = some .local) (hall : ∀ y ∈ scope.names, y.2 = .local) (hi : ah Γ src = some i) :
   SE cx A Γ sc env h₀ (eval (.Call (.Attribute (.Constant (.str sep) k0 p) "join" apos) [.GeneratorExp (.Call (.Attribute (.Call (.Attribute (.Name x q1) "replace" ap1) [.Constant (.str c1) k1 r1, .Constant (.str d1) k2 r2] [] p1) "replace" ap2) [.Constant (.str c2) k3 r3, .Constant (.str d2) k4 r4] [] p2)
    [⟨.Name x q2, .Name src q3, [], 0⟩] scope gp] [] pos) env) (.jgen sep.cps.toList i) := by
 intro F μ st s K Q E k hw q
 obtain ⟨v, hv, hw⟩ := fS hw
 obtain ⟨l, hl, hw⟩ := dR hw
 simp only [Option.bind_eq_some_iff] at hl
 obtain ⟨m, hm1, hm2⟩ := hl
 obtain ⟨hno, hlen, hK⟩ := hw
 have hsrc' : (src == ("__debug__" : Str)) = false := by simpa using hsd
 have hxd : (x == ("__debug__" : Str)) = false := by simpa using hx
 obtain ⟨mg, bm, ob, hmg, hbm, hne, hbo, hcls, hdict, hdata⟩ := T.mg
 refine Call_method1 rfl rfl hline (wpAny_Constant_str ?_)
 refine ⟨"str", "str.join", PySem.F.plainAttrs_str, PySem.F.slot_str_join, PySem.F.type_str_join, typeIs_str _ _ _, fun _ e => (nomatch e), dE rfl (spliced_cons ?_)⟩
 have kk : Ok cx Γ sc env h₀ F μ st ({ s with toks := s.toks + 1 } : Shared).heap := k
 refine wpAny_GeneratorExp_walksQ hh hco (closureFor_none fun y hy e => by rw [hall y hy] at e; cases e) (fun y hy e => by rw [hall y hy] at e; cases e) h0 hxl hkind hroom ?_ (fun _ => rfl)
 refine ql he (.inl hsrc) hi hsrc' F μ st { s with toks := s.toks + 1 } (fun w st' => w = v ∧ st' = st) _ E kk (hW hv ⟨rfl, rfl⟩) fun w st' F1 μ1 s1 r hw1 kk1 t1 vr => ?_
 obtain ⟨rfl, rfl⟩ := hw1
 obtain ⟨hml, a, vs, rfl, h3, h4⟩ := kk1.asL vr hm1
 obtain ⟨h5, h6⟩ := h4.txts hm2
 have hm := tx hm2
 subst hm
 have hlv : vs.length = l.length := by have := h4.length; simpa using this
 have ha : a < s1.heap.objs.size := by obtain ⟨o, n, e, _⟩ := h3; exact Heap.lt_size e
 have hga : ∀ a o, cx.g.get? a = some o → s1.heap.get? a = some o := fun a o e => kk1.fz _ _ (kk1.gF _ _ e)
 have hgP : ∀ a o, cx.g.get? a = some o → a ≠ cx.P := fun a o e q => by
  have := kk1.gF a o e
  rw [q, kk1.fP] at this; cases this
 obtain ⟨ps, hP, ht⟩ := kk1.tab
 have hPlt := Heap.lt_size hP
 refine wpAny_pyIter_list h3.list ?_
 have up : ∀ b o, s1.heap.get? b = some o → (s1.heap.push { cls := .type "list_iterator", data := .fields #[.ref a, .int 0 0] }).get? b = some o := fun b o e => Heap.get?_push_of_some _ e
 refine ⟨T.lim.keeps fun b o e => up b o (hga b o e), tw hcode (T.hd.keeps fun b o e => up b o (hga b o e)) (up _ _ hP) ht fun code h3' tk3 ps3 hx3 hsz3 hP3 ht3 => ?_⟩
 rw [Heap.size_push] at hsz3
 have up3 : ∀ b o, b ≠ cx.P → s1.heap.get? b = some o → h3'.get? b = some o := fun b o hb e => hx3 b o hb (up b o e)
 have g3 : ∀ b o, cx.g.get? b = some o → h3'.get? b = some o := fun b o e => up3 b o (hgP b o e) (hga b o e)
 rw [he.glob, he.bi]
 refine wpAny_builtinsFor (hmg.keeps g3) hbm hne (g3 _ _ hbo) hcls hdict hdata ?_
 have hcs : cStatics < s1.heap.objs.size := by obtain ⟨_, ⟨o, _, _, e, _⟩, _⟩ := T.lim; exact Heap.lt_size (hga _ _ e)
 have haP : a ≠ cx.P := fun e => by
  obtain ⟨o, n, e1, e2, _⟩ := h3
  rw [e, hP] at e1; obtain rfl := Option.some.inj e1; exact absurd e2 (by simp)
 have hIP : s1.heap.objs.size ≠ cx.P := Nat.ne_of_gt hPlt
 refine ⟨s1.heap.objs.size, [s1.heap.objs.size, a], [s1.heap.objs.size], vs.toArray.size, fun i v => vs.toArray[i]? = some v, _, fun _ => true, fun i y => ∃ (z : List Nat) (t : Tok), l[i]? = some z ∧ y = .str ⟨z.toArray⟩ t, rfl,
  fun A' hA => Walks.list hA s1.heap.objs.size a (Nat.ne_of_lt ha) vs.toArray, ⟨?_, ?_⟩, ?_, T.lim.keeps g3, ?_, ?_, ?_⟩
 ·exact ⟨_, hx3 _ _ hIP (Heap.get?_push_size _ rfl), rfl, rfl⟩
 ·obtain ⟨o, n, e1, e2, e3⟩ := h3
  exact ⟨o, up3 _ _ haP e1, e2, n, e3⟩
 ·intro b hb
  simp only [List.mem_cons, List.not_mem_nil, or_false] at hb
  show b < h3'.objs.size
  rcases hb with rfl | rfl
  ·exact hsz3
  ·exact Nat.lt_trans ha hsz3
 ·intro hb
  simp only [List.mem_cons, List.not_mem_nil, or_false] at hb
  exact absurd hb (Nat.ne_of_lt hcs)
 ·intro href hhref
  refine ⟨fun A' E' j v s₂ m₂ hA' hPj hns hmx hk => ?_, fun A' E' j v s₂ m₂ hA' hPj _ hns hmx hk => ?_⟩
  ·exact wpAny_pure ⟨rfl, oU _⟩
  ·have hj : vs[j]? = some v := by simpa using hPj
   have hjl : j < l.length := by rw [← hlv]; exact (List.getElem?_eq_some_iff.1 hj).1
   have hz : l[j]? = some l[j] := List.getElem?_eq_getElem hjl
   have hmem := List.getElem_mem hjl
   generalize l[j] = z at hz hmem
   obtain ⟨r, e1, hzl, t, e2⟩ := h4.get (k := j) (v := .str z) (by rw [List.getElem?_map, hz]; rfl)
   rw [hj] at e1; obtain rfl := Option.some.inj e1
   subst e2
   have hn := List.all_eq_true.1 hno z hmem
   rw [Bool.and_eq_true, Bool.not_eq_true', Bool.not_eq_true'] at hn
   refine nG rfl hl2 hc2 (nG rfl hl1 hc1 (wpAny_Name (wpAny_loadName_local hkind hxl hns hmx ⟨z, t, rfl, hn.1, fun tk => ⟨z, t, rfl, hn.2, fun tk' => ⟨⟨z, t, hz, rfl⟩, qP _ _ _⟩⟩⟩) hxd))
 ·intro a' h5' tk gs hgb hag hsz5 hk5 W hat
  refine spliced_nil ?_
  rw [lV] at W
  refine SC.joinGen (x := sep) W.in4_2 (fun i s' st => st.1.typeIs) hat ?_ (by simp) (fun j v ⟨i, _, z, t, _, e⟩ => ⟨_, _, e⟩) (fun s' lt hmv hacc => ?_) ?_
  ·intro b hb
   show b < h5'.objs.size
   rw [hsz5]
   rcases List.mem_cons.1 hb with rfl | hb
   ·exact Nat.lt_succ_self _
   ·rcases List.mem_cons.1 hb with rfl | hb
    ·exact Nat.lt_succ_of_lt hag
    ·exact Nat.lt_succ_of_lt (Nat.lt_trans (List.mem_range.1 hb) hag)
  ·have hlt : lt.map (·.1) = l.map fun x => (⟨x.toArray⟩ : Str) := by
    apply List.ext_getElem?
    intro j
    have hsz : lt.length = l.length := by
     have := hacc.1
     rw [List.length_range] at this
     simpa [strValues, hlv] using this
    by_cases hj : j < l.length
    ·have hj' : j < lt.length := hsz ▸ hj
     obtain ⟨i', hi', z, t, hz, hv'⟩ := hacc.2 j (.str lt[j].1 lt[j].2) (by simp [strValues, List.getElem?_eq_getElem hj'])
     have hij : i' = j := by
      obtain ⟨h1, h2⟩ := List.getElem?_eq_some_iff.1 hi'
      simpa using h2.symm
     subst hij
     injection hv' with h1 _
     rw [List.getElem?_map, List.getElem?_map, hz, List.getElem?_eq_getElem hj']
     simp [h1]
    ·rw [List.getElem?_eq_none (by simpa [hsz] using Nat.le_of_not_lt hj), List.getElem?_eq_none (by simpa using Nat.le_of_not_lt hj)]
   rw [hlt]
   refine ⟨joinOk_of ?_, fun t' tk' => ?_⟩
   ·rw [List.length_map, List.map_map]
    have e : (l.map ((fun x => x.length) ∘ fun x => (⟨x.toArray⟩ : Str))).sum = (l.map (·.length)).sum := by
     congr 1
    rw [e]
    have hsl : sep.length ≤ 100 := hsep
    cases l with
    | nil => simp
    | cons x r =>
     have := fg sep.cps.toList (x :: r) (by simp)
     have e2 : sep.cps.toList.length = sep.length := by simp [Str.length]
     rw [e2] at this
     have e5 : ((List.map (fun x => (⟨x.toArray⟩ : Str)) (x :: r)).length) = (x :: r).length := by simp
     generalize (x :: r).length * sep.length = pr at *
     have hlen' : (bf sep.cps.toList (x :: r)).length ≤ 1000000 := hlen
     exact BE this hlen' hsl e2
   ·have es : sep = ⟨sep.cps.toList.toArray⟩ := (eO sep).symm
    rw [es, jY]
    have keepAll : ∀ b o, s1.heap.get? b = some o → b ≠ cx.P → s'.heap.get? b = some o := fun b o e hb => by
     have hlt' := Heap.lt_size e
     refine hmv.heap b o ?_ (hk5 _ _ (up3 b o hb e))
     intro hm
     rcases List.mem_cons.1 hm with h | hm
     ·exact absurd h (Nat.ne_of_lt (Nat.lt_trans hlt' hsz3))
     ·simp only [List.mem_cons, List.not_mem_nil, or_false] at hm
      exact absurd hm (Nat.ne_of_lt hlt')
    have hPs : s'.heap.get? cx.P = some (tabObj ps3) := by
     refine hmv.heap _ _ ?_ (hk5 _ _ hP3)
     intro hm
     rcases List.mem_cons.1 hm with h | hm
     ·exact absurd h (Nat.ne_of_lt (Nat.lt_trans hPlt hsz3))
     ·simp only [List.mem_cons, List.not_mem_nil, or_false] at hm
      exact absurd hm (Nat.ne_of_lt hPlt)
    have tr0 : Tr cx.P F1 [] s1 F1 [] { s' with toks := tk' } := ⟨fun _ _ e => e, List.prefix_refl _, fun b o e _ hb => keepAll b o e hb, fun b hb => by
      by_cases hbP : b = cx.P
      ·rw [hbP]; show s'.heap.get? cx.P ≠ _; rw [hPs]; simp
      ·cases e : s1.heap.get? b with
       | none => exact absurd e hb
       | some o => show s'.heap.get? b ≠ _; rw [keepAll b o e hbP]; simp, fun _ e => .inl e, fun _ e => .inl e, hmv.os, fun g => AllBare.moved (AllBare.push g hgb) hmv.gens⟩
    obtain ⟨kf, tf⟩ := kk1.call tr0 (fun b o e => keepAll b o (kk1.fz _ _ e) (fun hb => by rw [hb, kk1.fP] at e; exact ab e)) kk1.fP ⟨ps3, hPs, ht3⟩
    exact q _ _ _ _ _ _ hK kf ((Tr.trans Tr.tok t1).trans tf) ⟨hlen, t', rfl⟩
  ·rw [List.length_range]
   have : vs.toArray.size = l.length := by simpa using hlv
   rw [this]
   have h7 : (l.map V.str).length ≤ lim := hml
   rw [List.length_map] at h7
   exact bo h7
end
end
end Mine
namespace Mine
open PySem PySem.W PySem.Calls PyProof.Rows Builtin Builtin.Str
noncomputable def subCode : Array Nat := #[14, 14, 4, 1, 1, 9, 0, 64, 0, 1342177280, 0, 0, 0, 0, 0, 17, 0, 13, 11, 9, 0, 64, 0, 1342177280, 0, 0, 0, 0, 0, 17, 1, 1]
theorem ops14 : Sre.ops[14]? = some .INFO := by kernel_rfl
theorem zx : ∀ c, c < 256 → c ≠ 38 → c ≠ 124 → c ≠ 126 → (subCode.getD (5 + (1 + c / 32)) 0).testBit (c % 32) = false := by decide +kernel
theorem tz (c : Nat) (seen : Sre.Seen) : Sre.inSet subCode c 32 5 true seen = if (decide (c < 256) && (subCode.getD (5 + (1 + c / 32)) 0).testBit (c % 32)) = true then .ok (true, seen.add 9) else .ok (false, (seen.add 9).add 0) := by kernel_rfl
theorem m3 (m : Sre.M) (f s : Nat) (seen : Sre.Seen) : Sre.M.admitted m (f + 1) s seen = if s ≥ m.lim then .ok (.none, seen) else (match Sre.inSet m.code (m.text.getD s 0) m.code.size 5 true seen with
 | .ok (true, seen) => .ok (some s, seen)
 | .ok (false, seen) => Sre.M.admitted m f (s + 1) seen
 | .error e => .error e) := by kernel_rfl
theorem tA (c : Nat) (h : (c != 38 && c != 124 && c != 126) = true) (seen : Sre.Seen) : ∃ seen', Sre.inSet subCode c 32 5 true seen = .ok (false, seen') := by
 have hb : (decide (c < 256) && (subCode.getD (5 + (1 + c / 32)) 0).testBit (c % 32)) = false := by
  simp only [Bool.and_eq_true, bne_iff_ne] at h
  by_cases h256 : c < 256
  ·rw [zx c h256 h.1.1 h.1.2 h.2, Bool.and_false]
  ·rw [decide_eq_false h256, Bool.false_and]
 exact ⟨_, (tz c seen).trans (if_neg (by rw [hb]; exact Bool.noConfusion))⟩
theorem iv (m : Sre.M) (hc : m.code = subCode) (h : ∀ k, k < m.lim → (m.text.getD k 0 != 38 && m.text.getD k 0 != 124 && m.text.getD k 0 != 126) = true) : ∀ (fuel s : Nat) (seen : Sre.Seen), ∃ seen', Sre.M.admitted m fuel s seen = .ok (.none, seen')
 | 0, s, seen => ⟨seen, rfl⟩
 | fuel + 1, s, seen => by
  rw [m3]
  by_cases hs : s ≥ m.lim
  ·rw [if_pos hs]; exact ⟨seen, rfl⟩
  ·rw [if_neg hs, hc]
   obtain ⟨seen', e⟩ := tA (m.text.getD s 0) (h s (Nat.lt_of_not_le hs)) seen
   have e2 : Sre.inSet subCode (m.text.getD s 0) subCode.size 5 true seen = .ok (false, seen') := e
   rw [e2]
   exact iv m hc h fuel (s + 1) seen'
noncomputable def j4 (text : Array Nat) : Sre.M :=
 { code := subCode, text, lim := text.size, start := 0, pc := 15, pos := 0, handed := 0, marks := Array.replicate 2 none, mustAdvance := false, seen := ({} : Sre.Seen).add 14 }
theorem qQ (text : Array Nat) : Sre.forSearch subCode text 1 0 text.size false = if (decide (0 > text.size) || decide (text.size - 0 < 1)) = true then (j4 text).say false else ({ j4 text with lastStart := text.size } : Sre.M).attemptFrom 0 true := by kernel_rfl
theorem qR (m : Sre.M) (h1 : m.outcome.isSome = false) (h2 : m.answer = some false) (h3 : m.frames = []) : (m.runFor 4).outcome = some .failed := by
 have e : m.step = { m with outcome := some .failed } := by
  unfold Sre.M.step
  rw [h1, h2, h3]; rfl
 show (if m.outcome.isSome then m else Sre.M.runFor 3 m.step).outcome = _
 rw [h1, e]; rfl
theorem qS (text : Array Nat) (h : ∀ k, k < text.size → (text.getD k 0 != 38 && text.getD k 0 != 124 && text.getD k 0 != 126) = true) : ((Sre.forSearch subCode text 1 0 text.size false).runFor 4).outcome = some .failed := by
 rw [qQ]
 split
 ·exact qR _ rfl rfl rfl
 ·have hf : Sre.M.hasFirstSet ({ j4 text with lastStart := text.size } : Sre.M) = true := by kernel_rfl
  unfold Sre.M.attemptFrom
  rw [hf]
  obtain ⟨seen', e⟩ := iv ({ j4 text with lastStart := text.size } : Sre.M) rfl h (({ j4 text with lastStart := text.size } : Sre.M).lim + 1 - 0) 0 ({ j4 text with lastStart := text.size } : Sre.M).seen
  rw [e]
  exact qR _ rfl rfl rfl
section
variable {M : Model} {A : Around} {E : Value → Shared → Prop} {s : Shared}
theorem m4 {m : Sre.M} {Q : Option Sre.M → Shared → Prop} (h : (m.runFor 4).outcome = some .failed) (q : Q none s) : wpAny M A (Builtin.Re.reRunToEnd m) Q E s := by
 unfold Builtin.Re.reRunToEnd
 have e : Builtin.Re.reDrive (2 ^ 64) m = pure (m.runFor 4) := by
  show Builtin.Re.reDrive (18446744073709551615 + 1) m = _
  unfold Builtin.Re.reDrive
  show (if (m.runFor 4).outcome.isSome then _ else _) = _
  rw [h]; rfl
 rw [e]
 refine wpAny_bind (wpAny_pure ?_)
 refine wpAny_bind (wpAny_forIn_list _ (fun _ _ s' => s' = s) _ (fun x rest b s' hs => ?_) (fun b s' hs => ?_) _ _ rfl)
 ·subst hs
  split
  ·exact wpAny_bind (wpAny_rule (wpAny_pure rfl))
  ·exact wpAny_pure rfl
 ·subst hs
  rw [h]
  exact wpAny_pure q
end
end Mine
namespace Mine
open PySem PySem.W PySem.Calls PyProof.Rows Builtin Builtin.Str
theorem j5 : PlainAttrs "re.Pattern" :=
 ⟨⟨"object.__getattribute__", by rw [typeLookup_type, builtinLookup_eq_fast]; kernel_rfl, by decide +kernel⟩, by rw [typeLookup_type, builtinLookup_eq_fast]; kernel_rfl⟩
theorem slot_pat_sub : Slot "re.Pattern" "sub" "re.Pattern.sub" :=
 .of (owner := "re.Pattern") (n := "sub") (by rw [typeLookup_type, builtinLookup_eq_fast]; kernel_rfl) (by decide +kernel) (by decide +kernel) (by decide +kernel)
  (by first | exact .inl (by decide +kernel) | exact .inr (by decide +kernel)) (by rw [isSubtype_type]; kernel_rfl)
theorem lW : typeOf (.builtin "re.Pattern.sub") = pure (.type "method_descriptor") := by show builtinType _ = _; rw [builtinType_eq_fast]; kernel_rfl
theorem kM : entryFor table "re.Pattern.sub" = some Builtin.«re.Pattern.sub» := entryFor_of_tree (by kernel_rfl)
theorem j6 : entryFor table "re.Pattern.sub.loop" = some Builtin.«re.Pattern.sub.loop» := entryFor_of_tree (by kernel_rfl)
theorem lX (a b c : Value) : argsOk "re.Pattern.sub" ⟨[a, b, c], []⟩ := by unfold argsOk; kernel_rfl
theorem wd : typeLookup (.type "function") "__call__" = pure (some (.builtin "function.__call__")) := by rw [typeLookup_type, builtinLookup_eq_fast]; kernel_rfl
theorem oV : isSubtype (.type "str") (.type "bytearray") = pure false := by rw [isSubtype_type]; kernel_rfl
theorem qT (a b : Value) : Builtin.Re.reNamed "re.Pattern.sub" "sub" ["repl", "string", "count"] 2 [a, b] [] = pure [some a, some b, none] := by kernel_rfl
theorem jc : plainId "re.Pattern.sub.loop" = true := by decide +kernel
structure PatAt (h : Heap) (p : Addr) : Prop where
 obj : ∃ o fs cl oc vs n, h.get? p = some o ∧ o.cls = .type "re.Pattern" ∧ o.dict = none ∧ o.data = .fields fs ∧ fs.getD 5 .none = .ref cl ∧ h.get? cl = some oc ∧ oc.data = .seq vs n ∧
  (vs.map Builtin.Re.reRawOf).map (·.toNat) = subCode ∧ Builtin.Re.reRawNat (fs.getD 6 .none) = 0 ∧ Builtin.Re.reRawNat (fs.getD 2 .none) = 1
theorem PatAt.keeps {h h' : Heap} {p : Addr} (x : PatAt h p) (hk : ∀ a o, h.get? a = some o → h'.get? a = some o) : PatAt h' p := by
 obtain ⟨o, fs, cl, oc, vs, n, a, b, c, d, e, f, g⟩ := x.obj
 exact ⟨o, fs, cl, oc, vs, n, hk _ _ a, b, c, d, e, hk _ _ f, g⟩
section
variable {M : Model} {A : Around} {E : Value → Shared → Prop} {s : Shared}
theorem gW {p : Addr} {x : Str} {t : Tok} {Q : Builtin.Re.ReTarget → Shared → Prop} (hp : PatAt s.heap p)
  (q : Q { pattern := .ref p, string := .str x t, code := subCode, text := x.cps, kind := 0, groups := 1, pos := 0, lim := x.cps.size } s) : wpAny M A (Builtin.Re.reWholeTarget (.ref p) (.str x t)) Q E s := by
 obtain ⟨o, fs, cl, oc, vs, n, a, b, c, d, e, f, g, h1, h2, h3⟩ := hp.obj
 unfold Builtin.Re.reWholeTarget
 refine wpAny_bind (wpAny_fieldsOf a d ?_)
 refine wpAny_bind (wpAny_pure (a := (x.cps, 0)) ?_)
 dsimp only
 rw [h2]
 refine wpAny_bind (wpAny_pure (a := PUnit.unit) ?_)
 rw [e]
 unfold Builtin.Re.reRawItems
 refine wpAny_bind (wpAny_bind (wpAny_seqItems f g (wpAny_pure ?_)))
 refine wpAny_pure ?_
 rw [h3]
 have hh : (((some vs).getD #[]).map Builtin.Re.reRawOf).map (·.toNat) = subCode := h1
 rw [hh]
 exact q
end
end Mine
namespace Mine
open PySem PySem.W PySem.Calls PyProof.Rows Builtin Builtin.Str
section
variable {M : Model} {prog : Program} {w : World} {A : Around} {E : Value → Shared → Prop} {s : Shared}
theorem fN {text : Array Nat} {b e : Nat} {y : Array Nat} {Q : Value → Shared → Prop} (hy : text.extract b e = y) (hs : y.size ≤ sizeLine) (q : Q (.str ⟨y⟩ s.toks) { s with toks := s.toks + 1 }) : wpAny M A (Builtin.Re.reSlice text 0 b e) Q E s := by
 unfold Builtin.Re.reSlice
 rw [if_pos (by rfl), hy]
 exact wpAny_mkStr q hs
theorem tC {p f L : Addr} {x : List Nat} {t : Tok} {R : Result → Shared → Prop} (hp : PatAt s.heap p) (hL : s.heap.get? L = some { cls := .type "list", data := .seq #[] })
  (hx : x.all (fun c => c != 38 && c != 124 && c != 126) = true) (hlen : x.length ≤ lim)
  (q : ∀ h' tk t', (∀ a o, a ≠ L → s.heap.get? a = some o → h'.get? a = some o) → (∀ a, s.heap.get? a ≠ none → h'.get? a ≠ none) → R (.ok (.ret (.str ⟨x.toArray⟩ t'))) { s with heap := h', toks := tk }) :
  wpAny (model prog w) A.in1 (Builtin.«re.Pattern.sub.loop» ⟨[.ref p, .str ⟨x.toArray⟩ t, .ref f, rawInt 1, rawInt 0, rawInt 0, rawInt 0, rawInt 0, .bool false, .ref L, .bool false], []⟩)
   (fun fin s' => match fin with | .done f => R (.ok f) s' | .again c' => c'.quiet = true ∧ codeAny (model prog w) A c' R s') (fun e s' => R (.error e) s') s := by
 unfold Builtin.«re.Pattern.sub.loop»
 dsimp only [rawInt]
 refine wpAny_bind (gW hp ?_)
 dsimp only
 have hno : ((Sre.forSearch subCode x.toArray 1 0 x.toArray.size false).runFor 4).outcome = some .failed := by
  refine qS _ fun k hk => ?_
  have hk' : k < x.length := by simpa using hk
  have := List.all_eq_true.1 hx (x[k]) (List.getElem_mem hk')
  simpa [Array.getD, hk'] using this
 refine wpAny_bind (m4 hno ?_)
 dsimp only
 have hex : (⟨x.toArray⟩ : Str).cps.extract 0 (⟨x.toArray⟩ : Str).cps.size = x.toArray := by simp
 have hlen' := bo hlen
 have hsl : x.toArray.size ≤ sizeLine := by simpa using hlen'
 by_cases hz : (0 : Int).toNat < (⟨x.toArray⟩ : Str).cps.size
 ·rw [if_pos hz]
  refine wpAny_bind (fN hex hsl ?_)
  refine wpAny_bind (wpAny_updateSeq hL rfl ?_)
  refine wpAny_bind (fN (y := #[]) (by simp) (by decide) ?_)
  have hl : ∀ (t' : Tok), ∃ n, (s.heap.update L (Obj.mapSeq fun v => v.push (.str ⟨x.toArray⟩ t'))).get? L = some { cls := .type "list", data := .seq #[.str ⟨x.toArray⟩ t'] n } := fun t' => by
   exact ⟨1, Heap.get?_update_self (h := s.heap) (a := L) (Obj.mapSeq fun v => v.push (.str ⟨x.toArray⟩ t')) hL rfl⟩
  obtain ⟨n, hl⟩ := hl s.toks
  refine wpAny_bind (wpAny_seqItems hl rfl ?_)
  rw [if_neg (by simp)]
  refine wpAny_bind (join_list ⟨_, hl, rfl, _, rfl⟩ (ys := [⟨x.toArray⟩]) ?_ ?_ fun t' tk => ?_)
  ·exact .cons _ _ .nil
  ·simp only [List.map_cons, List.map_nil, List.sum_cons, List.sum_nil, List.length_cons, List.length_nil]
   show x.toArray.size + 0 + _ ≤ _
   have h0 : (⟨#[]⟩ : Str).length = 0 := rfl
   rw [h0]
   unfold lim at hlen
   simp
   exact BF hlen
  ·have e : Txt.join ⟨#[]⟩ [(⟨x.toArray⟩ : Str)] = ⟨x.toArray⟩ := jY [] [x]
   rw [e]
   refine wpAny_pure (q _ _ _ (fun a o ha e => ?_) fun a ha => ?_)
   ·exact (Heap.get?_update_other _ _ (Ne.symm ha)).trans e
   ·by_cases haL : a = L
    ·rw [haL]; show (s.heap.update L _).get? L ≠ _; rw [hl]; simp
    ·show (s.heap.update L _).get? a ≠ _; rw [Heap.get?_update_other _ _ (Ne.symm haL)]; exact ha
 ·rw [if_neg hz]
  refine wpAny_bind (fN (y := #[]) (by simp) (by decide) ?_)
  refine wpAny_bind (wpAny_seqItems hL rfl ?_)
  have hx0 : x = [] := by
   cases x with
   | nil => rfl
   | cons a r => exact absurd (by simp) hz
  subst hx0
  rw [if_pos (by rfl)]
  refine wpAny_bind (wpAny_pure ?_)
  exact wpAny_pure (q _ _ _ (fun a o _ e => e) fun a e => e)
set_option backward.match.sparseCases true in
theorem zy {p f : Addr} {x : List Nat} {t : Tok} {Q : Value → Shared → Prop} (hp : PatAt s.heap p) (hf : ∃ o, s.heap.get? f = some o ∧ o.cls = .type "function")
  (hx : x.all (fun c => c != 38 && c != 124 && c != 126) = true) (hlen : x.length ≤ lim)
  (q : ∀ h' tk t', (∀ a o, s.heap.get? a = some o → h'.get? a = some o) → Q (.str ⟨x.toArray⟩ t') { s with heap := h', toks := tk }) :
  wpAny (model prog w) A (call (.builtin "re.Pattern.sub") [.ref p, .ref f, .str ⟨x.toArray⟩ t]) Q E s := by
 have hT : s.TypeIs (.ref p) "re.Pattern" := by
  obtain ⟨o, fs, cl, oc, vs, n, a, b, c⟩ := hp.obj
  exact ⟨o, a, b⟩
 refine wpAny_call (codeAny_call_builtin slot_pat_sub.plain kM (slot_pat_sub.check _ _ _ _ _ _ _ _ hT (lX _ _ _) ?_))
 unfold Builtin.«re.Pattern.sub» Builtin.Re.reSubstitute
 dsimp only
 rw [qT]
 refine wpAny_bind (wpAny_pure ?_)
 dsimp only
 refine wpAny_bind (wpAny_pure ?_)
 obtain ⟨o, hf1, hf2⟩ := hf
 refine wpAny_bind (wpAny_specialOf (T := "function") ⟨o, hf1, hf2⟩ wd ?_)
 refine wpAny_bind (wpAny_pure ?_)
 refine wpAny_bind (wpAny_pure (a := (Value.ref f, 1)) ?_)
 dsimp only
 refine wpAny_bind (wpAny_holding (gW hp ?_))
 rw [if_pos (by rfl)]
 refine wpAny_bind ?_
 unfold Builtin.Re.reNotHeld
 refine wpAny_bind (wpAny_isInstance (T := "str") (typeIs_str _ _ _) oV ?_)
 refine wpAny_pure ?_
 refine wpAny_bind (wpAny_newList ?_)
 refine wpAny_pure ⟨plainId_quiet jc _, codeAny_builtin j6 ?_⟩
 rw [Around.under_plainId jc]
 have up : ∀ a o, s.heap.get? a = some o → (s.heap.push { cls := .type "list", data := .seq #[] }).get? a = some o := fun a o e => Heap.get?_push_of_some _ e
 refine tC (R := fun r s' => match r with | .ok (.ret v) => Q v s' | .ok _ => False | .error e => E e s') (s := { s with heap := s.heap.push { cls := .type "list", data := .seq #[] } }) (hp.keeps up) (Heap.get?_push_size _ rfl) hx hlen fun h' tk t' hk ha => ?_
 exact q h' tk t' fun a o e => hk a o (Nat.ne_of_lt (Heap.lt_size e)) (up a o e)
end
end Mine
namespace Mine
open PySem PySem.W PySem.Calls PyProof.Rows Builtin Builtin.Str
section
variable {cx : Cx} {A : Around} {Γ : List Str} {sc : List (Str × NameKind)} {env : Env} {h₀ : Heap}
theorem zz (T : CxT cx) (he : EnvOk Γ sc env) (hcode : env.code = .ref cx.pc) {F : PH} {μ : List Addr} {st : St} {s : Shared} (k : Ok cx Γ sc env h₀ F μ st s.heap)
  {ar : Arguments} {b : Expr} {scope : Scope} {lp : Pos} {Q E : Value → Shared → Prop} (hd : defaultsOf ar env = ([], [])) (hfree : ∀ y ∈ scope.names, y.2 ≠ .free)
  (q : ∀ s' f o, Ok cx Γ sc env h₀ F μ st s'.heap → Tr cx.P F μ s F μ s' → s'.heap.get? f = some o → o.cls = .type "function" → s.heap.get? f = none → Q (.ref f) s') :
  wpAny (model cx.prog cx.w) A (eval (.Lambda ar b scope lp) env) Q E s := by
 obtain ⟨mg, bm, ob, hmg, hbm, hne, hbo, hcls, hdict, hdata⟩ := T.mg
 have hga : ∀ a o, cx.g.get? a = some o → s.heap.get? a = some o := fun a o e => k.fz _ _ (k.gF _ _ e)
 have hgP : ∀ a o, cx.g.get? a = some o → a ≠ cx.P := fun a o e q => by
  have := k.gF a o e
  rw [q, k.fP] at this; cases this
 obtain ⟨ps, hP, ht⟩ := k.tab
 have hbG : bm ≠ mainGlobals := fun q => by
  obtain ⟨o, es, ep, e, hd, _⟩ := hmg
  rw [q, e] at hbo; cases hbo; rw [hd] at hdata; cases hdata
 have hmP : mainGlobals ≠ cx.P := by
  obtain ⟨o, es, ep, e, hd, _⟩ := hmg
  exact hgP _ _ e
 have hB : s.heap.BuiltinsAt mg cx.P := ⟨bm, ob, hbm, hne, hbG, hgP _ _ hbo, hga _ _ hbo, hcls, hdict, hdata⟩
 have hPlt := Heap.lt_size hP
 have fin : ∀ (h' : Heap) (tk : Tok) (o : Obj) (ps' : Array Value), Heap.ExtBut cx.P s.heap h' → s.heap.objs.size ≤ h'.objs.size → h'.get? cx.P = some (tabObj ps') → TriplesOk ps'.toList → o.isFreed = false → o.cls = .type "function" →
   Q (.ref h'.objs.size) { s with heap := h'.push o, toks := tk } := fun h' tk o ps' hx hsz hP' ht' hof hoc => by
  have hk : ∀ a o', a ≠ cx.P → s.heap.get? a = some o' → (h'.push o).get? a = some o' := fun a o' ha e => Heap.get?_push_of_some _ (hx a o' ha e)
  have tr0 : Tr cx.P F [] s F [] { s with heap := h'.push o, toks := tk } := ⟨fun _ _ e => e, List.prefix_refl _, fun a o' e _ ha => hk a o' ha e, fun a ha => by
    by_cases haP : a = cx.P
    ·rw [haP]; show (h'.push o).get? cx.P ≠ _; rw [Heap.get?_push_of_some _ hP']; simp
    ·cases e : s.heap.get? a with
     | none => exact absurd e ha
     | some o' => show (h'.push o).get? a ≠ _; rw [hk a o' haP e]; simp, fun _ e => .inl e, fun _ e => .inl e, rfl, fun g => g⟩
  obtain ⟨kf, tf⟩ := k.call tr0 (fun a o' e => hk a o' (fun hb => by rw [hb, k.fP] at e; exact ab e) (k.fz _ _ e)) k.fP ⟨ps', Heap.get?_push_of_some _ hP', ht'⟩
  exact q _ _ o kf tf (Heap.get?_push_size _ hof) hoc (Heap.get?_none_of_le hsz)
 refine kla_eval hd ?_
 have hcl : closureFor scope env = pure [] := closureFor_none hfree
 cases hf : codeAmong lp ps.toList with
 | none =>
  refine kla_makeFunction (mg := mg) hcl he.glob (hmg.keeps hga) hcode (T.hd.keeps hga) hP ht hf hmP hB fun c' ctv h' tk hx hge hlt hrec htb => ?_
  exact fin h' tk _ _ hx (BG hlt hge) htb (by rw [Array.toList_append]; exact TriplesOk_snoc _ _ _ _ ht) rfl rfl
 | some cv =>
  refine kla_makeFunctionHit (mg := mg) hcl he.glob (hmg.keeps hga) hcode (T.hd.keeps hga) hP ht hf hB fun ctv h' tk hk hsz => ?_
  exact fin h' tk _ ps (fun a o _ e => hk a o e) hsz (hk _ _ hP) ht rfl rfl
theorem zA (T : CxT cx) (he : EnvOk Γ sc env) (hcode : env.code = .ref cx.pc) {pt : Addr} (hpt : aZ cx "_twin_re_1" (.ref pt)) (hpo : PatAt cx.g pt)
  {q1 apos pos lp : Pos} {ar : Arguments} {b : Expr} {scope : Scope} {a : Expr} {x : X} (hline : (apos.endLine == pos.line) = true) (hsc : sc.lookup ("_twin_re_1" : Str) = some .globalImplicit) (hfine : d4 a)
  (hd : ar.defaults = []) (hkd : ar.kw_defaults = []) (hfree : ∀ y ∈ scope.names, y.2 ≠ .free) (ha : SE cx A Γ sc env h₀ (eval a env) x) :
   SE cx A Γ sc env h₀ (eval (.Call (.Attribute (.Name "_twin_re_1" q1) "sub" apos) [.Lambda ar b scope lp, a] [] pos) env) (.sub x) := by
 intro F μ st s K Q E k hw q
 have hga : ∀ {s : Shared} {F μ st}, Ok cx Γ sc env h₀ F μ st s.heap → ∀ a o, cx.g.get? a = some o → s.heap.get? a = some o := fun k a o e => k.fz _ _ (k.gF _ _ e)
 refine Call_method2 rfl (by show (false, _) :: starEach [a] env = _; rw [hfine.star]; rfl) hline ?_
 refine hpt env A s q1 _ _ he.kind he.glob he.bi (he.gl _ hsc) (hga k) ?_
 have hT : s.TypeIs (.ref pt) "re.Pattern" := by
  obtain ⟨o, fs, cl, oc, vs, n, a, b, c⟩ := (hpo.keeps (hga k)).obj
  exact ⟨o, a, b⟩
 refine ⟨"re.Pattern", "re.Pattern.sub", j5, slot_pat_sub, lW, hT, fun a e => ?_, dE rfl (spliced_cons ?_)⟩
 ·(injection e with e; subst e)
  obtain ⟨o, fs, cl, oc, vs, n, a, b, c, _⟩ := (hpo.keeps (hga k)).obj
  exact ⟨o, a, c⟩
 have hdd : defaultsOf ar env = ([], []) := by
  obtain ⟨_, _, _, _, _, _, _⟩ := ar
  simp only at hd hkd
  subst hd hkd
  rfl
 refine zz T he hcode k hdd hfree fun s1 f o k1 t1 hf hfc hfn => ?_
 refine spliced_cons (ha F μ st s1 _ _ E k1 hw fun v st' F2 μ2 s2 r hv k2 t2 vr => ?_)
 obtain ⟨xs, rfl, hxs, hK⟩ := u7 hv
 obtain ⟨hlen, t, rfl⟩ := vr
 have hfμ : f ∉ μ := fun hm => k.aliveM f hm hfn
 have hfP : f ≠ cx.P := fun e => k.aliveP (e ▸ hfn)
 refine spliced_nil (zy (hpo.keeps (hga k2)) ⟨o, t2.keep _ _ hf hfμ hfP, hfc⟩ hxs hlen fun h' tk t' hk => ?_)
 have tr0 : Tr cx.P F2 [] s2 F2 [] { s2 with heap := h', toks := tk } := ⟨fun _ _ e => e, List.prefix_refl _, fun a o e _ _ => hk a o e, fun a ha => by
  cases e : s2.heap.get? a with
  | none => exact absurd e ha
  | some o' => show h'.get? a ≠ _; rw [hk a o' e]; simp, fun _ e => .inl e, fun _ e => .inl e, rfl, fun g => g⟩
 obtain ⟨ps, hP, ht⟩ := k2.tab
 obtain ⟨kf, tf⟩ := k2.call tr0 (fun a o e => hk a o (k2.fz _ _ e)) k2.fP ⟨ps, hk _ _ hP, ht⟩
 exact q _ _ _ _ _ _ hK kf ((t1.trans t2).trans tf) ⟨hlen, t', rfl⟩
end
end Mine
namespace Mine
open PySem
noncomputable def c3 : List S := [S.assign 1 (X.call G.object []), S.assign 2 (X.call (G.fn 2) [X.loc 0, X.loc 1, X.cst (V.str [46])]), S.ret (X.call (G.fn 3) [X.loc 2, X.loc 1])]
theorem AV : bs 3 = some c3 := by kernel_rfl
noncomputable def c6 : List S := [S.ite (X.call G.isStr [X.loc 0]) [S.ret (X.meth Mt.translate (X.loc 0) [X.glo Gv.special])] [S.bad]]
theorem AW : bs 6 = some c6 := by kernel_rfl
noncomputable def jd : X := (X.call G.range [X.bin Operator.Sub (X.call G.len [X.loc 10]) (X.cst (V.int (1))), X.cst (V.int (0)), (X.cst (V.int (1))).neg])
noncomputable def je : List S := [S.ite ((((X.loc 10).idx (X.bin Operator.Sub (X.loc 11) (X.cst (V.int (1))))).idx (X.cst (V.int (1))).neg).cmp CmpOp.Gt (((X.loc 10).idx (X.loc 11)).idx (X.cst (V.int (0))))) [S.setidx (X.loc 10) (X.bin Operator.Sub (X.loc 11) (X.cst (V.int (1)))) (X.bin Operator.Add (((X.loc 10).idx (X.bin Operator.Sub (X.loc 11) (X.cst (V.int (1))))).slc none (some (X.cst (V.int (1))).neg)) (((X.loc 10).idx (X.loc 11)).slc (some (X.cst (V.int (1)))) none)), S.del (X.loc 10) (X.loc 11)] []]
noncomputable def Gr : S := .for 11 jd je
noncomputable def eP : X := (X.cst (V.bool true))
noncomputable def eQ : List S := [S.assign 11 (X.meth Mt.find (X.loc 0) [X.cst (V.str [45]), X.loc 11, X.loc 8]), S.ite ((X.loc 11).cmp CmpOp.Lt (X.cst (V.int (0)))) [S.brk] [], S.expr (X.meth Mt.append (X.loc 10) [(X.loc 0).slc (some (X.loc 5)) (some (X.loc 11))]), S.assign 5 (X.bin Operator.Add (X.loc 11) (X.cst (V.int (1)))), S.assign 11 (X.bin Operator.Add (X.loc 11) (X.cst (V.int (3))))]
noncomputable def Gs : S := .whl eP eQ
noncomputable def bF : X := (((X.loc 8).cmp CmpOp.Lt (X.loc 6)).and (((X.loc 0).idx (X.loc 8)).cmp CmpOp.NotEq (X.cst (V.str [93]))))
noncomputable def cA : List S := [S.assign 8 (X.bin Operator.Add (X.loc 8) (X.cst (V.int (1))))]
noncomputable def Gu : S := .whl bF cA
noncomputable def bc : X := ((X.loc 5).cmp CmpOp.Lt (X.loc 6))
noncomputable def bg : List S := [S.assign 7 ((X.loc 0).idx (X.loc 5)), S.assign 5 (X.bin Operator.Add (X.loc 5) (X.cst (V.int (1)))), S.ite ((X.loc 7).cmp CmpOp.Eq (X.cst (V.str [42]))) [S.ite ((X.loc 3).not.or (((X.loc 3).idx (X.cst (V.int (1))).neg).cmp CmpOp.IsNot (X.loc 1))) [S.expr (X.cadd 4 (X.loc 1))] []] [S.ite ((X.loc 7).cmp CmpOp.Eq (X.cst (V.str [63]))) [S.expr (X.cadd 4 (X.loc 2))] [S.ite ((X.loc 7).cmp CmpOp.Eq (X.cst (V.str [91]))) [S.assign 8 (X.loc 5), S.ite (((X.loc 8).cmp CmpOp.Lt (X.loc 6)).and (((X.loc 0).idx (X.loc 8)).cmp CmpOp.Eq (X.cst (V.str [33])))) [S.assign 8 (X.bin Operator.Add (X.loc 8) (X.cst (V.int (1))))] [], S.ite (((X.loc 8).cmp CmpOp.Lt (X.loc 6)).and (((X.loc 0).idx (X.loc 8)).cmp CmpOp.Eq (X.cst (V.str [93])))) [S.assign 8 (X.bin Operator.Add (X.loc 8) (X.cst (V.int (1))))] [], Gu, S.ite ((X.loc 8).cmp CmpOp.GtE (X.loc 6)) [S.expr (X.cadd 4 (X.cst (V.str [92, 91])))] [S.assign 9 ((X.loc 0).slc (some (X.loc 5)) (some (X.loc 8))), S.ite ((X.cst (V.str [45])).cmp CmpOp.NotIn (X.loc 9)) [S.assign 9 (X.meth Mt.replace (X.loc 9) [X.cst (V.str [92]), X.cst (V.str [92, 92])])] [S.assign 10 X.new0, S.assign 11 ((((X.loc 0).idx (X.loc 5)).cmp CmpOp.Eq (X.cst (V.str [33]))).ite (X.bin Operator.Add (X.loc 5) (X.cst (V.int (2)))) (X.bin Operator.Add (X.loc 5) (X.cst (V.int (1))))), Gs, S.assign 12 ((X.loc 0).slc (some (X.loc 5)) (some (X.loc 8))), S.ite (X.loc 12) [S.expr (X.meth Mt.append (X.loc 10) [X.loc 12])] [S.bad], Gr, S.assign 9 (X.jgen [45] 10)], S.assign 9 (X.loc 9).sub, S.assign 5 (X.bin Operator.Add (X.loc 8) (X.cst (V.int (1)))), S.ite (X.loc 9).not [S.expr (X.cadd 4 (X.cst (V.str [40, 63, 33, 41])))] [S.ite ((X.loc 9).cmp CmpOp.Eq (X.cst (V.str [33]))) [S.expr (X.cadd 4 (X.cst (V.str [46])))] [S.ite (((X.loc 9).idx (X.cst (V.int (0)))).cmp CmpOp.Eq (X.cst (V.str [33]))) [S.assign 9 (X.bin Operator.Add (X.cst (V.str [94])) ((X.loc 9).slc (some (X.cst (V.int (1)))) none))] [S.ite (((X.loc 9).idx (X.cst (V.int (0)))).cmp CmpOp.In (X.tup [X.cst (V.str [94]), X.cst (V.str [91])])) [S.assign 9 (X.bin Operator.Add (X.cst (V.str [92])) (X.loc 9))] []], S.expr (X.cadd 4 (X.fstr [X.cst (V.str [91]), X.loc 9, X.cst (V.str [93])]))]]]] [S.expr (X.cadd 4 (X.call (G.fn 1) [X.loc 7]))]]]]
noncomputable def Gw : S := .whl bc bg
noncomputable def c8 : List S := [S.assign 3 X.new0, S.assign 4 (X.loc 3).attr, S.tuple [5, 6] (X.tup [X.cst (V.int (0)), X.call G.len [X.loc 0]]), Gw, S.assert ((X.loc 5).cmp CmpOp.Eq (X.loc 6)), S.ret (X.loc 3)]
theorem AX : bs 8 = some c8 := by kernel_rfl
noncomputable def kW : X := (((X.loc 4).cmp CmpOp.Lt (X.loc 5)).and (((X.loc 0).idx (X.loc 4)).cmp CmpOp.IsNot (X.loc 1)))
noncomputable def oW : List S := [S.expr (X.meth Mt.append (X.loc 6) [(X.loc 0).idx (X.loc 4)]), S.aug 4 Operator.Add (X.cst (V.int (1)))]
noncomputable def Gx : S := .whl kW oW
noncomputable def gw : X := ((X.loc 4).cmp CmpOp.Lt (X.loc 5))
noncomputable def jf : List S := [S.assert (((X.loc 0).idx (X.loc 4)).cmp CmpOp.Is (X.loc 1)), S.aug 4 Operator.Add (X.cst (V.int (1))), S.ite ((X.loc 4).cmp CmpOp.Eq (X.loc 5)) [S.expr (X.cadd 3 (X.cst (V.str [46, 42]))), S.brk] [], S.assert (((X.loc 0).idx (X.loc 4)).cmp CmpOp.IsNot (X.loc 1)), S.assign 6 X.new0, Gx, S.assign 6 (X.meth Mt.join (X.cst (V.str [])) [X.loc 6]), S.ite ((X.loc 4).cmp CmpOp.Eq (X.loc 5)) [S.expr (X.cadd 3 (X.cst (V.str [46, 42]))), S.expr (X.cadd 3 (X.loc 6))] [S.expr (X.cadd 3 (X.fstr [X.cst (V.str [40, 63, 62, 46, 42, 63]), X.loc 6, X.cst (V.str [41])]))]]
noncomputable def Gy : S := .whl gw jf
noncomputable def kX : X := (((X.loc 4).cmp CmpOp.Lt (X.loc 5)).and (((X.loc 0).idx (X.loc 4)).cmp CmpOp.IsNot (X.loc 1)))
noncomputable def oX : List S := [S.expr (X.cadd 3 ((X.loc 0).idx (X.loc 4))), S.aug 4 Operator.Add (X.cst (V.int (1)))]
noncomputable def Gz : S := .whl kX oX
noncomputable def c9 : List S := [S.assign 2 X.new0, S.assign 3 (X.loc 2).attr, S.tuple [4, 5] (X.tup [X.cst (V.int (0)), X.call G.len [X.loc 0]]), Gz, Gy, S.assert ((X.loc 4).cmp CmpOp.Eq (X.loc 5)), S.assign 2 (X.meth Mt.join (X.cst (V.str [])) [X.loc 2]), S.ret (X.fstr [X.cst (V.str [40, 63, 115, 58]), X.loc 2, X.cst (V.str [41, 92, 90])])]
theorem AY : bs 9 = some c9 := by kernel_rfl
noncomputable def c23 : List S := [S.ret (X.call G.chr [X.call G.int16 [(X.loc 0).slc (some (X.cst (V.int (1)))) (some (X.cst (V.int (3))))]])]
theorem zB : bs 23 = some c23 := by kernel_rfl
noncomputable def c24 : List S := [S.ret ((X.glo Gv.quopri).idx (X.call G.ord [X.loc 0]))]
theorem zC : bs 24 = some c24 := by kernel_rfl
noncomputable def jg : X := ((X.loc 4).cmp CmpOp.Lt (X.loc 5))
noncomputable def lY : List S := [S.assign 6 ((X.loc 3).idx (X.loc 4)), S.ite ((X.loc 6).cmp CmpOp.NotEq (X.cst (V.str [61]))) [S.aug 2 Operator.Add (X.loc 6), S.aug 4 Operator.Add (X.cst (V.int (1)))] [S.ite ((X.bin Operator.Add (X.loc 4) (X.cst (V.int (1)))).cmp CmpOp.Eq (X.loc 5)) [S.aug 4 Operator.Add (X.cst (V.int (1))), S.cont] [S.ite (((X.bin Operator.Add (X.loc 4) (X.cst (V.int (2)))).cmp CmpOp.Lt (X.loc 5)).and ((((X.loc 3).idx (X.bin Operator.Add (X.loc 4) (X.cst (V.int (1))))).cmp CmpOp.In (X.glo Gv.hexdigits)).and (((X.loc 3).idx (X.bin Operator.Add (X.loc 4) (X.cst (V.int (2))))).cmp CmpOp.In (X.glo Gv.hexdigits)))) [S.aug 2 Operator.Add (X.call (G.fn 4) [(X.loc 3).slc (some (X.loc 4)) (some (X.bin Operator.Add (X.loc 4) (X.cst (V.int (3)))))]), S.aug 4 Operator.Add (X.cst (V.int (3)))] [S.aug 2 Operator.Add (X.loc 6), S.aug 4 Operator.Add (X.cst (V.int (1)))]]], S.ite ((X.loc 4).cmp CmpOp.Eq (X.loc 5)) [S.aug 2 Operator.Add (X.loc 1)] []]
noncomputable def AZ : S := .whl jg lY
noncomputable def qU : X := (X.meth Mt.splitlines (X.loc 0) [])
noncomputable def qV : List S := [S.assign 3 (X.meth Mt.rstrip (X.loc 3) []), S.ite (X.loc 3).not [S.aug 2 Operator.Add (X.loc 1), S.cont] [], S.assign 4 (X.cst (V.int (0))), S.assign 5 (X.call G.len [X.loc 3]), AZ]
noncomputable def A0 : S := .for 3 qU qV
noncomputable def c28 : List S := [S.ite (X.loc 0).not [S.ret (X.loc 0)] [], S.assign 2 (X.cst (V.str [])), A0, S.ite ((((X.loc 0).idx (X.cst (V.int (1))).neg).cmp CmpOp.NotIn (X.cst (V.str [13, 10]))).and (X.meth Mt.endswith (X.loc 2) [X.loc 1])) [S.assign 2 ((X.loc 2).slc none (some (X.call G.len [X.loc 1]).neg))] [], S.ret (X.loc 2)]
theorem zD : bs 28 = some c28 := by kernel_rfl
noncomputable def c30 : List S := [S.assign 1 (X.bin Operator.Mod (X.loc 0) (X.cst (V.int (6)))), S.assign 2 (X.bin Operator.Mod (X.bin Operator.FloorDiv (X.loc 0) (X.cst (V.int (6)))) (X.cst (V.int (16)))), S.assign 3 (X.bin Operator.Mod (X.bin Operator.FloorDiv (X.loc 0) (X.cst (V.int (96)))) (X.cst (V.int (16)))), S.ite ((X.loc 1).cmp CmpOp.Eq (X.cst (V.int (0)))) [S.ret (X.tup [X.cst (V.str [63]), X.comp false 6 (X.loc 6) (X.call G.range [X.cst (V.int (16))]) []])] [], S.ite ((X.loc 1).cmp CmpOp.Eq (X.cst (V.int (1)))) [S.ret (X.tup [(X.cst (V.str [48, 49, 50, 51, 52, 53, 54, 55, 56, 57, 65, 66, 67, 68, 69, 70])).idx (X.loc 2), X.lst [X.loc 2]])] [], S.assign 4 (X.bin Operator.Add (X.bin Operator.Add ((X.cst (V.str [48, 49, 50, 51, 52, 53, 54, 55, 56, 57, 65, 66, 67, 68, 69, 70])).idx (X.loc 2)) (((X.loc 1).cmp CmpOp.Lt (X.cst (V.int (4)))).ite (X.cst (V.str [45])) (X.cst (V.str [])))) ((X.cst (V.str [48, 49, 50, 51, 52, 53, 54, 55, 56, 57, 65, 66, 67, 68, 69, 70])).idx (X.loc 3))), S.assign 5 (X.comp false 6 (X.loc 6) (X.call G.range [X.cst (V.int (16))]) [((X.loc 1).cmp CmpOp.Lt (X.cst (V.int (4)))).ite ((X.loc 2).cmp2 CmpOp.LtE (X.loc 6) CmpOp.LtE (X.loc 3)) (((X.loc 6).cmp CmpOp.Eq (X.loc 2)).or ((X.loc 6).cmp CmpOp.Eq (X.loc 3)))]), S.ite ((X.bin Operator.Mod (X.loc 1) (X.cst (V.int (2)))).cmp CmpOp.Eq (X.cst (V.int (0)))) [S.ret (X.tup [X.bin Operator.Add (X.bin Operator.Add (X.cst (V.str [91])) (X.loc 4)) (X.cst (V.str [93])), X.loc 5])] [], S.ret (X.tup [X.bin Operator.Add (X.bin Operator.Add (X.cst (V.str [91, 33])) (X.loc 4)) (X.cst (V.str [93])), X.comp false 6 (X.loc 6) (X.call G.range [X.cst (V.int (16))]) [(X.loc 6).cmp CmpOp.NotIn (X.loc 5)]])]
theorem zE : bs 30 = some c30 := by kernel_rfl
noncomputable def qW : X := (X.loc 2)
noncomputable def f0 : List S := [S.assign 6 (X.bin Operator.Mod (X.bin Operator.FloorDiv (X.loc 1) (X.cst (V.int (8)))) (X.cst (V.int (256)))), S.ite ((X.bin Operator.Mod (X.loc 1) (X.cst (V.int (8)))).cmp CmpOp.Lt (X.cst (V.int (2)))) [S.aug 3 Operator.Add (X.bin Operator.Mult (X.cst (V.str [42])) (X.bin Operator.Add (X.cst (V.int (1))) (X.bin Operator.Mod (X.loc 1) (X.cst (V.int (8)))))), S.expr (X.meth Mt.append (X.loc 4) [X.new0]), S.expr (X.meth Mt.extend (X.loc 5) [(X.lst [X.bin Operator.Mod (X.bin Operator.FloorDiv (X.loc 1) (X.cst (V.int (24)))) (X.cst (V.int (256))), X.cst (V.int (10))]).slc none (some (X.bin Operator.Mod (X.bin Operator.FloorDiv (X.loc 1) (X.cst (V.int (8)))) (X.cst (V.int (3)))))])] [S.ite ((X.bin Operator.Mod (X.loc 1) (X.cst (V.int (8)))).cmp CmpOp.Eq (X.cst (V.int (2)))) [S.aug 3 Operator.Add (X.call (G.fn 5) [X.call G.chr [X.loc 6]]), S.expr (X.meth Mt.append ((X.loc 4).idx (X.cst (V.int (1))).neg) [X.tup [X.lst [X.bin Operator.FloorDiv (X.loc 6) (X.cst (V.int (16)))], X.lst [X.bin Operator.Mod (X.loc 6) (X.cst (V.int (16)))]]]), S.expr (X.meth Mt.append (X.loc 5) [X.loc 6])] [S.tuple [7, 8] (X.call (G.fn 7) [X.bin Operator.Mod (X.bin Operator.Mult (X.bin Operator.FloorDiv (X.loc 1) (X.cst (V.int (8)))) (X.cst (V.int (37)))) (X.cst (V.int (1536)))]), S.tuple [9, 10] (X.call (G.fn 7) [X.bin Operator.Mod (X.bin Operator.Add (X.bin Operator.FloorDiv (X.loc 1) (X.cst (V.int (12288)))) (X.bin Operator.Mult (X.loc 1) (X.cst (V.int (53))))) (X.cst (V.int (1536)))]), S.aug 3 Operator.Add (X.bin Operator.Add (X.bin Operator.Add (X.cst (V.str [61])) (X.loc 7)) (X.loc 9)), S.expr (X.meth Mt.append ((X.loc 4).idx (X.cst (V.int (1))).neg) [X.tup [X.loc 8, X.loc 10]]), S.ite (((X.loc 8).cmp CmpOp.NotEq X.new0).and ((X.loc 10).cmp CmpOp.NotEq X.new0)) [S.assign 6 (X.bin Operator.Add (X.bin Operator.Mult (X.cst (V.int (16))) ((X.loc 8).idx (X.bin Operator.Mod (X.bin Operator.FloorDiv (X.loc 1) (X.cst (V.int (9)))) (X.call G.len [X.loc 8])))) ((X.loc 10).idx (X.bin Operator.Mod (X.bin Operator.FloorDiv (X.loc 1) (X.cst (V.int (11)))) (X.call G.len [X.loc 10]))))] [], S.expr (X.meth Mt.append (X.loc 5) [X.loc 6])]]]
noncomputable def uM : S := .for 1 qW f0
noncomputable def c31 : List S := [S.assign 2 (X.comp false 11 (X.bin Operator.Mod (X.loc 11) (X.cst (V.int (100000000)))) ((X.loc 0).slc none (some (X.cst (V.int (5))))) []), S.ite ((X.call G.len [X.loc 2]).cmp CmpOp.Lt (X.cst (V.int (3)))) [S.assign 2 (X.bin Operator.Add (X.loc 2) (X.lst [X.cst (V.int (65)), X.cst (V.int (13)), X.cst (V.int (8))]))] [], S.assign 3 (X.cst (V.str [])), S.assign 4 X.new1, S.assign 5 X.new0, uM, S.ite ((X.call G.len [X.loc 4]).cmp CmpOp.Gt (X.cst (V.int (1)))) [S.assign 4 (X.bin Operator.Add (X.bin Operator.Add (X.lst [(X.loc 4).idx (X.cst (V.int (0)))]) (X.comp false 11 (X.loc 11) ((X.loc 4).slc (some (X.cst (V.int (1)))) (some (X.cst (V.int (1))).neg)) [(X.loc 11).cmp CmpOp.NotEq X.new0])) (X.lst [(X.loc 4).idx (X.cst (V.int (1))).neg]))] [], S.ret (X.tup [X.loc 3, X.loc 4, X.loc 5])]
theorem zF : bs 31 = some c31 := by kernel_rfl
noncomputable def aF : X := ((X.loc 3).cmp CmpOp.Lt (X.bin Operator.Sub (X.call G.len [X.loc 0]) (X.cst (V.int (3)))))
noncomputable def au : List S := [S.ite ((((X.loc 0).slc (some (X.loc 3)) (some (X.bin Operator.Add (X.loc 3) (X.cst (V.int (6)))))).cmp CmpOp.Eq (X.cst (V.str [40, 63, 62, 46, 42, 63]))).and (X.loc 2).not) [S.expr (X.meth Mt.append (X.loc 1) [X.new0]), S.assign 2 (X.cst (V.bool true)), S.aug 3 Operator.Add (X.cst (V.int (6)))] [S.ite ((X.loc 2).and ((((X.loc 0).slc (some (X.loc 3)) (some (X.bin Operator.Add (X.loc 3) (X.cst (V.int (3)))))).cmp CmpOp.Eq (X.cst (V.str [41, 46, 42]))).or (((X.loc 0).slc (some (X.loc 3)) (some (X.bin Operator.Add (X.loc 3) (X.cst (V.int (4)))))).cmp CmpOp.Eq (X.cst (V.str [41, 40, 63, 62]))))) [S.assign 2 (X.cst (V.bool false)), S.aug 3 Operator.Add (X.cst (V.int (1)))] [S.ite ((((X.loc 0).slc (some (X.loc 3)) (some (X.bin Operator.Add (X.loc 3) (X.cst (V.int (2)))))).cmp CmpOp.Eq (X.cst (V.str [46, 42]))).and (X.loc 2).not) [S.expr (X.meth Mt.append (X.loc 1) [X.new0]), S.aug 3 Operator.Add (X.cst (V.int (2)))] [S.ite (((X.loc 0).slc (some (X.loc 3)) (some (X.bin Operator.Add (X.loc 3) (X.cst (V.int (4)))))).cmp CmpOp.Eq (X.cst (V.str [40, 63, 33, 41]))) [S.expr (X.meth Mt.append ((X.loc 1).idx (X.cst (V.int (1))).neg) [X.tup [X.cst (V.bool false), X.new0]]), S.aug 3 Operator.Add (X.cst (V.int (4)))] [S.ite (((X.loc 0).idx (X.loc 3)).cmp CmpOp.Eq (X.cst (V.str [46]))) [S.expr (X.meth Mt.append ((X.loc 1).idx (X.cst (V.int (1))).neg) [X.tup [X.cst (V.bool true), X.new0]]), S.aug 3 Operator.Add (X.cst (V.int (1)))] [S.ite ((((X.loc 0).idx (X.loc 3)).cmp CmpOp.Eq (X.cst (V.str [91]))).and ((X.cst (V.str [93])).cmp CmpOp.In ((X.loc 0).slc (some (X.loc 3)) none))) [S.assign 4 (X.meth Mt.find (X.loc 0) [X.cst (V.str [93]), X.loc 3]), S.assign 5 ((X.loc 0).slc (some (X.bin Operator.Add (X.loc 3) (X.cst (V.int (1))))) (some (X.loc 4))), S.assign 6 (((X.loc 5).slc none (some (X.cst (V.int (1))))).cmp CmpOp.Eq (X.cst (V.str [94]))), S.assign 5 ((X.loc 6).ite ((X.loc 5).slc (some (X.cst (V.int (1)))) none) (X.loc 5)), S.ite (((X.loc 5).cmp CmpOp.Eq (X.cst (V.str []))).or ((((X.loc 5).slc (some (X.cst (V.int (1)))) (some (X.cst (V.int (2))))).cmp CmpOp.Eq (X.cst (V.str [45]))).and (((X.loc 5).slc none (some (X.cst (V.int (1))))).cmp CmpOp.Gt ((X.loc 5).slc (some (X.cst (V.int (2)))) none)))) [S.ret X.new0] [], S.ite (((X.loc 5).slc (some (X.cst (V.int (1)))) (some (X.cst (V.int (2))))).cmp CmpOp.Eq (X.cst (V.str [45]))) [S.expr (X.meth Mt.append ((X.loc 1).idx (X.cst (V.int (1))).neg) [X.tup [X.loc 6, X.lst [X.tup [(X.loc 5).slc none (some (X.cst (V.int (1)))), (X.loc 5).slc (some (X.cst (V.int (2)))) none]]]])] [S.expr (X.meth Mt.append ((X.loc 1).idx (X.cst (V.int (1))).neg) [X.tup [X.loc 6, X.comp false 7 (X.tup [X.loc 7, X.loc 7]) (X.loc 5) []]])], S.assign 3 (X.bin Operator.Add (X.loc 4) (X.cst (V.int (1))))] [S.ite (((X.loc 0).idx (X.loc 3)).cmp CmpOp.In (X.cst (V.str [40, 41, 42, 43, 63, 91, 93, 123, 125, 124, 94, 36, 92]))) [S.ret X.new0] [S.expr (X.meth Mt.append ((X.loc 1).idx (X.cst (V.int (1))).neg) [X.tup [X.cst (V.bool false), X.lst [X.tup [(X.loc 0).idx (X.loc 3), (X.loc 0).idx (X.loc 3)]]]]), S.aug 3 Operator.Add (X.cst (V.int (1)))]]]]]]]]
noncomputable def A3 : S := .whl aF au
noncomputable def c32 : List S := [S.ite ((((X.loc 0).slc none (some (X.cst (V.int (4))))).cmp CmpOp.NotEq (X.cst (V.str [40, 63, 115, 58]))).or (((X.loc 0).slc (some (X.cst (V.int (3))).neg) none).cmp CmpOp.NotEq (X.cst (V.str [41, 92, 90])))) [S.ret X.new0] [], S.assign 1 X.new1, S.assign 2 (X.cst (V.bool false)), S.assign 3 (X.cst (V.int (4))), A3, S.ret ((X.loc 2).ite X.new0 (X.loc 1))]
theorem zG : bs 32 = some c32 := by kernel_rfl
noncomputable def qX : X := (X.call G.range [X.call G.len [X.loc 0]])
noncomputable def lZ : List S := [S.tuple [4, 5] ((X.loc 0).idx (X.loc 3)), S.ite (((X.comp true 6 (X.cst (V.int (1))) (X.loc 5) [(X.loc 6).cmp2 CmpOp.LtE ((X.loc 1).idx (X.bin Operator.Add (X.loc 2) (X.loc 3))) CmpOp.LtE (X.loc 7)]).cmp CmpOp.NotEq X.new0).cmp CmpOp.Eq (X.loc 4)) [S.ret (X.cst (V.bool false))] []]
noncomputable def A4 : S := .for 3 qX lZ
noncomputable def c33 : List S := [S.ite ((X.bin Operator.Add (X.loc 2) (X.call G.len [X.loc 0])).cmp CmpOp.Gt (X.call G.len [X.loc 1])) [S.ret (X.cst (V.bool false))] [], A4, S.ret (X.cst (V.bool true))]
theorem zH : bs 33 = some c33 := by kernel_rfl
noncomputable def jh : X := (((X.bin Operator.Add (X.loc 5) (X.call G.len [X.loc 4])).cmp CmpOp.LtE (X.call G.len [X.loc 1])).and (X.call (G.fn 10) [X.loc 4, X.loc 1, X.loc 5]).not)
noncomputable def l3 : List S := [S.aug 5 Operator.Add (X.cst (V.int (1)))]
noncomputable def A5 : S := .whl jh l3
noncomputable def qY : X := ((X.loc 0).slc (some (X.cst (V.int (1)))) (some (X.cst (V.int (1))).neg))
noncomputable def l4 : List S := [S.assign 5 (X.loc 2), A5, S.ite ((X.bin Operator.Add (X.loc 5) (X.call G.len [X.loc 4])).cmp CmpOp.Gt (X.call G.len [X.loc 1])) [S.ret (X.cst V.none)] [], S.expr (X.meth Mt.append (X.loc 3) [(X.loc 1).slc (some (X.loc 2)) (some (X.loc 5))]), S.assign 2 (X.bin Operator.Add (X.loc 5) (X.call G.len [X.loc 4]))]
noncomputable def A6 : S := .for 4 qY l4
noncomputable def c34 : List S := [S.ite (X.call (G.fn 10) [(X.loc 0).idx (X.cst (V.int (0))), X.loc 1, X.cst (V.int (0))]).not [S.ret (X.cst V.none)] [], S.ite ((X.call G.len [X.loc 0]).cmp CmpOp.Eq (X.cst (V.int (1)))) [S.ret (((X.call G.len [(X.loc 0).idx (X.cst (V.int (0)))]).cmp CmpOp.Eq (X.call G.len [X.loc 1])).ite X.new0 (X.cst V.none))] [], S.assign 2 (X.call G.len [(X.loc 0).idx (X.cst (V.int (0)))]), S.assign 3 X.new0, A6, S.assign 6 (X.bin Operator.Sub (X.call G.len [X.loc 1]) (X.call G.len [(X.loc 0).idx (X.cst (V.int (1))).neg])), S.ite (((X.loc 6).cmp CmpOp.Lt (X.loc 2)).or (X.call (G.fn 10) [(X.loc 0).idx (X.cst (V.int (1))).neg, X.loc 1, X.loc 6]).not) [S.ret (X.cst V.none)] [], S.ret (X.bin Operator.Add (X.loc 3) (X.lst [(X.loc 1).slc (some (X.loc 2)) (some (X.loc 6))]))]
theorem zI : bs 34 = some c34 := by kernel_rfl
noncomputable def qZ : X := (X.call G.range [X.call G.len [X.loc 0]])
noncomputable def l5 : List S := [S.ite (((X.bin Operator.FloorDiv ((X.loc 1).idx (X.bin Operator.Add (X.loc 2) (X.loc 3))) (X.cst (V.int (16)))).cmp CmpOp.NotIn (((X.loc 0).idx (X.loc 3)).idx (X.cst (V.int (0))))).or ((X.bin Operator.Mod ((X.loc 1).idx (X.bin Operator.Add (X.loc 2) (X.loc 3))) (X.cst (V.int (16)))).cmp CmpOp.NotIn (((X.loc 0).idx (X.loc 3)).idx (X.cst (V.int (1)))))) [S.ret (X.cst (V.bool false))] []]
noncomputable def A7 : S := .for 3 qZ l5
noncomputable def c35 : List S := [S.ite (((X.loc 2).cmp CmpOp.Lt (X.cst (V.int (0)))).or ((X.bin Operator.Add (X.loc 2) (X.call G.len [X.loc 0])).cmp CmpOp.Gt (X.call G.len [X.loc 1]))) [S.ret (X.cst (V.bool false))] [], A7, S.ret (X.cst (V.bool true))]
theorem zJ : bs 35 = some c35 := by kernel_rfl
noncomputable def q0 : X := ((X.loc 0).slc (some (X.cst (V.int (1)))) (some (X.cst (V.int (1))).neg))
noncomputable def l6 : List S := [S.assign 6 (X.call G.min [X.comp false 7 (X.loc 7) (X.call G.range [X.loc 5, X.call G.len [X.loc 1]]) [X.call (G.fn 12) [X.loc 3, X.loc 1, X.loc 7]]]), S.expr (X.meth Mt.append (X.loc 4) [(X.loc 1).slc (some (X.loc 5)) (some (X.loc 6))]), S.assign 5 (X.bin Operator.Add (X.loc 6) (X.call G.len [X.loc 3]))]
noncomputable def A8 : S := .for 3 q0 l6
noncomputable def q4 : X := (X.loc 0).mid
noncomputable def l7 : List S := [S.assign 2 (X.call G.max [X.bin Operator.Add (X.lst [(X.cst (V.int (1))).neg]) (X.comp false 7 (X.loc 7) (X.call G.range [X.bin Operator.Add (X.bin Operator.Sub (X.loc 2) (X.call G.len [X.loc 3])) (X.cst (V.int (1)))]) [X.call (G.fn 12) [X.loc 3, X.loc 1, X.loc 7]])])]
noncomputable def A9 : S := .for 3 q4 l7
noncomputable def c36 : List S := [S.ite (X.call (G.fn 12) [(X.loc 0).idx (X.cst (V.int (0))), X.loc 1, X.cst (V.int (0))]).not [S.ret (X.cst V.none)] [], S.ite ((X.call G.len [X.loc 0]).cmp CmpOp.Eq (X.cst (V.int (1)))) [S.ret (((X.call G.len [(X.loc 0).idx (X.cst (V.int (0)))]).cmp CmpOp.Eq (X.call G.len [X.loc 1])).ite X.new0 (X.cst V.none))] [], S.assign 2 (X.bin Operator.Sub (X.call G.len [X.loc 1]) (X.call G.len [(X.loc 0).idx (X.cst (V.int (1))).neg])), S.ite (X.call (G.fn 12) [(X.loc 0).idx (X.cst (V.int (1))).neg, X.loc 1, X.loc 2]).not [S.ret (X.cst V.none)] [], A9, S.ite ((X.loc 2).cmp CmpOp.Lt (X.call G.len [(X.loc 0).idx (X.cst (V.int (0)))])) [S.ret (X.cst V.none)] [], S.assign 4 X.new0, S.assign 5 (X.call G.len [(X.loc 0).idx (X.cst (V.int (0)))]), A8, S.ret (X.bin Operator.Add (X.loc 4) (X.lst [(X.loc 1).slc (some (X.loc 5)) (some (X.bin Operator.Sub (X.call G.len [X.loc 1]) (X.call G.len [(X.loc 0).idx (X.cst (V.int (1))).neg])))]))]
theorem zK : bs 36 = some c36 := by kernel_rfl
noncomputable def q5 : X := (X.lst [X.loc 3, (X.loc 3).slc (some (X.cst (V.int (1)))) none, (X.loc 3).rev])
noncomputable def ji : List S := [S.assign 6 (X.call (G.fn 11) [X.loc 4, X.meth Mt.join (X.cst (V.str [])) [X.comp false 8 (X.call (G.fn 5) [X.call G.chr [X.loc 8]]) (X.loc 5) []]]), S.assign 7 (X.call (G.fn 13) [X.loc 2, X.loc 5]), S.ite (((X.loc 6).cmp CmpOp.Is (X.cst V.none)).cmp CmpOp.NotEq ((X.loc 7).cmp CmpOp.Is (X.cst V.none))) [S.ret (X.cst (V.bool false))] [], S.ite (((X.loc 7).cmp CmpOp.IsNot (X.cst V.none)).and ((X.comp false 8 (X.call (G.fn 6) [X.loc 8]) (X.loc 6) []).cmp CmpOp.NotEq (X.comp false 8 (X.meth Mt.join (X.cst (V.str [])) [X.comp false 9 (X.call G.chr [X.loc 9]) (X.loc 8) []]) (X.loc 7) []))) [S.ret (X.cst (V.bool false))] []]
noncomputable def Ba : S := .for 5 q5 ji
noncomputable def c37 : List S := [S.tuple [1, 2, 3] (X.call (G.fn 8) [X.loc 0]), S.assign 4 (X.call (G.fn 9) [X.call (G.fn 0) [X.loc 1]]), S.ite ((X.loc 4).cmp CmpOp.Eq X.new0) [S.ret (X.cst (V.bool false))] [], Ba, S.ret (X.cst (V.bool true))]
theorem zL : bs 37 = some c37 := by kernel_rfl
end Mine
namespace Mine
open PySem
section
variable {fns : Fns} {cs cs' : List (List V)} {K : V → Prop} {KS : V → St → Prop} {KB : Bool → St → Prop} {KL : List V → St → Prop} {Q : Fl → St → Prop} {st : St} {loc : List (Option V)} {r b c : List S} {t a e x y z : X} {es : List X}
noncomputable def tD (v : V) (K : V → Prop) : Prop := kO v fun i => K (.int (-i))
noncomputable def l8 (v : V) (K : List Nat → Prop) : Prop := kQ v K
noncomputable def oY (v : V) (K : V → Prop) : Prop := kP v fun k => K (.app k)
noncomputable def jk (cs : List (List V)) (v : V) (K : List V → Prop) : Prop := cu (aE cs v) K
noncomputable def oZ (v : V) (P : Prop) : Prop := uq v P
noncomputable def pd (v : V) (K : List V → Prop) : Prop := uo v K
noncomputable def pe (o : Option (List (Option V))) (K : List (Option V) → Prop) : Prop := cu o K
noncomputable def gx (v : V) (K : List V → Prop) : Prop := cu (cw v) K
noncomputable def up (P : Prop) : Prop := (fun (_ : Fns → List S → (Fl → St → Prop) → St → Prop) => P) WSs
noncomputable def kSt (KS : V → St → Prop) (st : St) : V → Prop := fun v => up (KS v st)
noncomputable def gX (KB : Bool → St → Prop) (st : St) : Bool → Prop := fun v => up (KB v st)
noncomputable def tE (KS : V → St → Prop) (st : St) : Bool → Prop := fun c => up (KS (.bool c) st)
noncomputable def kCs (KS : V → St → Prop) (st : St) : V → List (List V) → Prop := fun r cs => up (KS r ⟨st.loc, cs⟩)
noncomputable def zM (KS : V → St → Prop) : V → St → Prop := fun v st => tD v (kSt KS st)
noncomputable def pf (op : Operator) (v : V) (KS : V → St → Prop) : V → St → Prop := fun w st => dx st.cells op v w (kSt KS st)
noncomputable def zN (fns : Fns) (op : Operator) (y : X) (KS : V → St → Prop) : V → St → Prop := fun v st => WE fns y (pf op v KS) st
noncomputable def ph (fns : Fns) (x y : X) (KS : V → St → Prop) : Bool → St → Prop := fun c st => if c = true then WE fns x KS st else WE fns y KS st
noncomputable def jl (op : CmpOp) (v : V) (KS : V → St → Prop) : V → St → Prop := fun w st => ae (aR st.cells op v w) (tE KS st)
noncomputable def zO (fns : Fns) (op : CmpOp) (y : X) (KS : V → St → Prop) : V → St → Prop := fun v st => WE fns y (jl op v KS) st
noncomputable def jm (op : CmpOp) (v : V) (KB : Bool → St → Prop) : V → St → Prop := fun w st => ae (aR st.cells op v w) (gX KB st)
noncomputable def zP (fns : Fns) (op : CmpOp) (y : X) (KB : Bool → St → Prop) : V → St → Prop := fun v st => WE fns y (jm op v KB) st
noncomputable def uN (g : G) (fns : Fns) (KS : V → St → Prop) : List V → St → Prop := fun vs st => bB fns st.cells g vs (kSt KS st)
noncomputable def l9 (m : Mt) (v : V) (KS : V → St → Prop) : List V → St → Prop := fun vs st => bL st.cells m v vs (kCs KS st)
noncomputable def uO (fns : Fns) (m : Mt) (es : List X) (KS : V → St → Prop) : V → St → Prop := fun v st => dC m v = true ∧ WEs fns es (l9 m v KS) st
noncomputable def pj (k : Nat) (KS : V → St → Prop) : V → St → Prop := fun v st => bL st.cells .append (.cell k) [v] (kCs KS st)
noncomputable def uP (KS : V → St → Prop) : V → St → Prop := fun v st => oY v (kSt KS st)
noncomputable def pk (v : V) (KS : V → St → Prop) : V → St → Prop := fun j st => eX st.cells v j (kSt KS st)
noncomputable def zQ (fns : Fns) (y : X) (KS : V → St → Prop) : V → St → Prop := fun v st => WE fns y (pk v KS) st
noncomputable def pl (v : V) (a : Option V) (KS : V → St → Prop) : Option V → St → Prop := fun b st => gP st.cells v a b (kSt KS st)
noncomputable def pn (fns : Fns) (hi : Option X) (v : V) (KS : V → St → Prop) : Option V → St → Prop := fun a st => WO fns hi (pl v a KS) st
noncomputable def zR (fns : Fns) (lo hi : Option X) (KS : V → St → Prop) : V → St → Prop := fun v st => WO fns lo (pn fns hi v KS) st
noncomputable def po (KS : V → St → Prop) (st : St) : List V → Prop := fun l => KS (.lst l.reverse) st
noncomputable def zS (KS : V → St → Prop) : V → St → Prop := fun v st => jk st.cells v (po KS st)
noncomputable def pp (KS : V → St → Prop) (st : St) : List V → Prop := fun l => KS (.lst ((l.take (l.length - 1)).drop 1).reverse) st
noncomputable def zT (KS : V → St → Prop) : V → St → Prop := fun v st => jk st.cells v (pp KS st)
noncomputable def zU (KS : V → St → Prop) : List V → St → Prop := fun vs st => up (KS (.lst vs) st)
noncomputable def zV (KS : V → St → Prop) : List V → St → Prop := fun vs st => up (KS (.tup vs) st)
noncomputable def pq (KS : V → St → Prop) (st : St) : List Nat → Prop := fun x => x.all (fun c => c != 38 && c != 124 && c != 126) = true ∧ KS (.str x) st
noncomputable def zW (KS : V → St → Prop) : V → St → Prop := fun v st => l8 v (pq KS st)
noncomputable def kF2 (fns : Fns) (es : List X) (acc : List Nat) (KS : V → St → Prop) (st : St) : List Nat → Prop := fun x => WF fns es (acc ++ x) KS st
noncomputable def kF (fns : Fns) (es : List X) (acc : List Nat) (KS : V → St → Prop) : V → St → Prop := fun v st => l8 v (kF2 fns es acc KS st)
noncomputable def pu (v : V) (KL : List V → St → Prop) : List V → St → Prop := fun vs st => up (KL (v :: vs) st)
noncomputable def kEs (fns : Fns) (es : List X) (KL : List V → St → Prop) : V → St → Prop := fun v st => WEs fns es (pu v KL) st
noncomputable def uQ (K : Option V → St → Prop) : V → St → Prop := fun v st => up (K (some v) st)
noncomputable def tF (fns : Fns) (y : X) (KB : Bool → St → Prop) : Bool → St → Prop := fun c st => if c = true then WT fns y KB st else KB false st
noncomputable def tOr (fns : Fns) (y : X) (KB : Bool → St → Prop) : Bool → St → Prop := fun c st => if c = true then KB true st else WT fns y KB st
noncomputable def zX (KB : Bool → St → Prop) : Bool → St → Prop := fun c st => up (KB (!c) st)
noncomputable def tG (fns : Fns) (x y : X) (KB : Bool → St → Prop) : Bool → St → Prop := fun c st => if c = true then WT fns x KB st else WT fns y KB st
noncomputable def kTr (KB : Bool → St → Prop) (st : St) : V → Prop := fun v => ae (bE st.cells v) (gX KB st)
noncomputable def uR (g : G) (fns : Fns) (KB : Bool → St → Prop) : List V → St → Prop := fun vs st => bB fns st.cells g vs (kTr KB st)
noncomputable def tH (KB : Bool → St → Prop) (st : St) : V → List (List V) → Prop := fun r cs => ae (bE cs r) (gX KB ⟨st.loc, cs⟩)
noncomputable def ma (m : Mt) (v : V) (KB : Bool → St → Prop) : List V → St → Prop := fun vs st => bL st.cells m v vs (tH KB st)
noncomputable def uS (fns : Fns) (m : Mt) (es : List X) (KB : Bool → St → Prop) : V → St → Prop := fun v st => dC m v = true ∧ WEs fns es (ma m v KB) st
noncomputable def tI (fns : Fns) (es : List X) (KB : Bool → St → Prop) : Bool → St → Prop := fun c st => if c = true then WTs fns es KB st else KB false st
noncomputable def pv (KS : V → St → Prop) (fns : Fns) (op' : CmpOp) (w : V) (z : X) (st : St) : Bool → Prop := fun o => if o = true then WE fns z (jl op' w KS) st else KS (.bool false) st
noncomputable def tJ (fns : Fns) (op op' : CmpOp) (v : V) (z : X) (KS : V → St → Prop) : V → St → Prop := fun w st => ae (aR st.cells op v w) (pv KS fns op' w z st)
noncomputable def kC2 (fns : Fns) (op op' : CmpOp) (y z : X) (KS : V → St → Prop) : V → St → Prop := fun v st => WE fns y (tJ fns op op' v z KS) st
noncomputable def pw (KB : Bool → St → Prop) (fns : Fns) (op' : CmpOp) (w : V) (z : X) (st : St) : Bool → Prop := fun o => if o = true then WE fns z (jm op' w KB) st else KB false st
noncomputable def tK (fns : Fns) (op op' : CmpOp) (v : V) (z : X) (KB : Bool → St → Prop) : V → St → Prop := fun w st => ae (aR st.cells op v w) (pw KB fns op' w z st)
noncomputable def tC2 (fns : Fns) (op op' : CmpOp) (y z : X) (KB : Bool → St → Prop) : V → St → Prop := fun v st => WE fns y (tK fns op op' v z KB) st
theorem zY {i k : Nat} (e : loc[i]? = some (some (.app k))) (h : WE fns a (pj k KS) ⟨loc, cs⟩) : WE fns (.cadd i a) KS ⟨loc, cs⟩ := hW e h
theorem zZ (h : KS (.cell cs.length) ⟨loc, cs ++ [[]]⟩) : WE fns .new0 KS ⟨loc, cs⟩ := h
theorem z0 (h : KL [] st) : WEs fns [] KL st := h
theorem z1 (h : KB true st) : WTs fns [] KB st := h
theorem md : ∀ (b : List S) (st : St), WSs fns b (fun f st => dX f (WSs fns r Q st) (Q f st)) st = WSs fns (b ++ r) Q st
 | [], st => rfl
 | s :: b, st => by
  have : (fun (f : Fl) (st : St) => dX f (WSs fns b (fun f st => dX f (WSs fns r Q st) (Q f st)) st) (dX f (WSs fns r Q st) (Q f st))) = fun f st => dX f (WSs fns (b ++ r) Q st) (Q f st) := by
   funext f st
   cases f with
   | next => exact md b st
   | _ => rfl
  exact congrArg (fun K => WS fns s K st) this
noncomputable def me (fns : Fns) (r : List S) (Q : Fl → St → Prop) : Fl → St → Prop := fun f st => dX f (WSs fns r Q st) (Q f st)
theorem z2 {s : S} (h : WSs fns (s :: (b ++ r)) Q st) : WSs fns (s :: b ++ r) Q st := h
noncomputable def kIf (fns : Fns) (b c r : List S) (Q : Fl → St → Prop) : Bool → St → Prop := fun x st => if x = true then WSs fns (b ++ r) Q st else WSs fns (c ++ r) Q st
theorem ss_ite (h : WT fns t (kIf fns b c r Q) st) : WSs fns (.ite t b c :: r) Q st := by
 have : (fun (x : Bool) (st : St) => if x = true then WSs fns b (fun f st => dX f (WSs fns r Q st) (Q f st)) st else WSs fns c (fun f st => dX f (WSs fns r Q st) (Q f st)) st) = kIf fns b c r Q := by
  funext x st
  rw [md, md]; rfl
 show WT fns t (fun (x : Bool) (st : St) => if x = true then WSs fns b (fun f st => dX f (WSs fns r Q st) (Q f st)) st else WSs fns c (fun f st => dX f (WSs fns r Q st) (Q f st)) st) st
 rw [this]
 exact h
noncomputable def z3 (Q : Fl → St → Prop) : V → St → Prop := fun v st => up (Q (.ret v) st)
noncomputable def z4 (fns : Fns) (i : Nat) (r : List S) (Q : Fl → St → Prop) : V → St → Prop := fun v st => WSs fns r Q ⟨st.loc.set i (some v), st.cells⟩
noncomputable def pz (fns : Fns) (r : List S) (Q : Fl → St → Prop) (cs : List (List V)) : List (Option V) → Prop := fun loc => WSs fns r Q ⟨loc, cs⟩
noncomputable def pF (fns : Fns) (is : List Nat) (r : List S) (Q : Fl → St → Prop) (st : St) : List V → Prop := fun vs => pe (eB is vs st.loc) (pz fns r Q st.cells)
noncomputable def z5 (fns : Fns) (is : List Nat) (r : List S) (Q : Fl → St → Prop) : V → St → Prop := fun v st => pd v (pF fns is r Q st)
noncomputable def pG (fns : Fns) (i : Nat) (r : List S) (Q : Fl → St → Prop) (st : St) : V → Prop := fun v => WSs fns r Q ⟨st.loc.set i (some v), st.cells⟩
noncomputable def pH (fns : Fns) (i : Nat) (op : Operator) (v : V) (r : List S) (Q : Fl → St → Prop) : V → St → Prop := fun y st => lh op v y (pG fns i r Q st)
noncomputable def z6 (fns : Fns) (i : Nat) (op : Operator) (e : X) (r : List S) (Q : Fl → St → Prop) (st : St) : V → Prop := fun v => WE fns e (pH fns i op v r Q) st
noncomputable def uT (fns : Fns) (r : List S) (Q : Fl → St → Prop) : V → St → Prop := fun v st => oZ v (WSs fns r Q st)
noncomputable def dO (fns : Fns) (i : Nat) (b : List S) : V → (Fl → St → Prop) → St → Prop := fun x Q st => WSs fns b Q ⟨st.loc.set i (some x), st.cells⟩
noncomputable def z7 (fns : Fns) (r : List S) (Q : Fl → St → Prop) : Bool → St → Prop := fun c st => c = true ∧ WSs fns r Q st
theorem jn {w j : V} {k : Nat} {jj : Int} {l : List V} {K : Nat → Int → List V → Prop} (h : w = .cell k ∧ j = .int jj ∧ cs[k]? = some l ∧ 0 ≤ jj ∧ jj < l.length ∧ K k jj l) : jL cs w j K := by
 obtain ⟨rfl, rfl, e, h⟩ := h
 show cu cs[k]? _
 rw [e]; exact h
theorem kr {o i : X} {e : X} (h : WE fns e (fun v st => WE fns o (fun w st => WE fns i (fun j st => jL st.cells w j fun k jj l => WSs fns r Q ⟨st.loc, st.cells.set k (l.set jj.toNat v)⟩) st) st) st) : WSs fns (.setidx o i e :: r) Q st := h
theorem q6 {o i : X} (h : WE fns o (fun w st => WE fns i (fun j st => jL st.cells w j fun k jj l => WSs fns r Q ⟨st.loc, st.cells.set k (l.eraseIdx jj.toNat)⟩) st) st) : WSs fns (.del o i :: r) Q st := h
theorem bN (n : Nat) (h : aC (WT fns t) (WSs fns b) (me fns r Q) n st) : WSs fns (.whl t b :: r) Q st := ⟨n, h⟩
noncomputable def pI (fns : Fns) (i : Nat) (b r : List S) (Q : Fl → St → Prop) (st : St) : List V → Prop := fun items => items.length ≤ lim ∧ cf (dO fns i b) (me fns r Q) items st
noncomputable def z8 (fns : Fns) (i : Nat) (b r : List S) (Q : Fl → St → Prop) : V → St → Prop := fun v st => gx v (pI fns i b r Q st)
theorem cQ {i : Nat} {it : X} (h : WE fns it (z8 fns i b r Q) st) : WSs fns (.for i it b :: r) Q st := h
noncomputable def j7 (fns : Fns) (t : X) (b : List S) (Q : Fl → St → Prop) (n : Nat) : Fl → St → Prop := fun f st => kR f (aC (WT fns t) (WSs fns b) Q n st) fun f => Q f st
noncomputable def tL (fns : Fns) (t : X) (b : List S) (Q : Fl → St → Prop) (n : Nat) : Bool → St → Prop := fun c st => if c = true then WSs fns b (j7 fns t b Q n) st else Q .next st
theorem ad {n : Nat} (h : WT fns t (tL fns t b Q n) st) : aC (WT fns t) (WSs fns b) Q (n + 1) st := h
noncomputable def jo (bd : V → (Fl → St → Prop) → St → Prop) (Q : Fl → St → Prop) (r : List V) : Fl → St → Prop := fun f st => kR f (cf bd Q r st) fun f => Q f st
theorem cy {bd : V → (Fl → St → Prop) → St → Prop} (h : Q .next st) : cf bd Q [] st := h
theorem bV {i : Nat} {v : V} {l : List V} (h : WSs fns b (jo (dO fns i b) Q l) ⟨loc.set i (some v), cs⟩) : cf (dO fns i b) Q (v :: l) ⟨loc, cs⟩ := h
section
variable {P : Prop} {KI : Bool → Prop} {i j : Int} {u v : List Nat} {k : Nat}
theorem bh {α : Type} {o : Option α} {K : α → Prop} {x : α} (e : o = some x) (h : K x) : onO o K := by rw [e]; exact h
theorem GA {l : List V} {K : List V → Prop} (h : K l) : pd (.tup l) K := h
theorem bk (h : u.length + v.length ≤ lim ∧ K (.str (u ++ v))) : dx cs .Add (.str u) (.str v) K := h
theorem jp {l m : List V} (h : l.length + m.length ≤ lim ∧ K (.lst (l ++ m))) : dx cs .Add (.lst l) (.lst m) K := h
theorem q7 {l m : List V} (e : cs[k]? = some l) (h : l.length + m.length ≤ lim ∧ K (.lst (l ++ m))) : dx cs .Add (.cell k) (.lst m) K := bh (o := aE cs (.cell k)) e h
theorem uU (h : j ≠ 0 ∧ K (.int (i.fmod j))) : dx cs .Mod (.int i) (.int j) K := h
theorem Bb (h : j ≠ 0 ∧ j.natAbs < 1073741824 ∧ K (.int (i.fdiv j))) : dx cs .FloorDiv (.int i) (.int j) K := h
theorem uV (h : small i ∧ small j ∧ K (.int (i * j))) : dx cs .Mult (.int i) (.int j) K := h
theorem z9 (h : 1 ≤ i ∧ small i ∧ u.length * i.toNat ≤ lim ∧ K (.str (List.replicate i.toNat u).flatten)) : dx cs .Mult (.str u) (.int i) K := h
theorem gY (h : u.length + v.length ≤ lim ∧ K (.str (u ++ v))) : lh .Add (.str u) (.str v) K := h
theorem ie {n : Nat} (h : KI (v.contains n)) : ae (aR cs .In (.str [n]) (.str v)) KI := h
theorem c_in2 {w : List Nat} (h : KI ([v, w].contains u)) : ae (aR cs .In (.str u) (.tup [.str v, .str w])) KI := by
 match u, h with
 | [], h => exact h
 | [_], h => exact h
 | _ :: _ :: _, h => exact h
theorem q8 {v : V} {p : Bool} (e : isV v .none = some p) (h : KI p) : ae (aR cs .Is v .none) KI := by unfold aR; rw [e]; exact h
theorem we {v : V} {p : Bool} (e : isV v .none = some p) (h : KI (!p)) : ae (aR cs .IsNot v .none) KI := by unfold aR; rw [e]; exact h
theorem gy {n : Addr} (h : KI true) : ae (aR cs .IsNot (.str u) (.con (.ref n))) KI := h
theorem q9 (n : Addr) : isV (.con (.ref n)) (.con (.ref n)) = some true := if_pos rfl
theorem nH {n : Addr} (h : KI true) : ae (aR cs .Is (.con (.ref n)) (.con (.ref n))) KI := by show ae (isV (.con (.ref n)) (.con (.ref n))) KI; rw [q9]; exact h
theorem iG {n : Addr} (h : KI false) : ae (aR cs .IsNot (.con (.ref n)) (.con (.ref n))) KI := by show ae ((isV (.con (.ref n)) (.con (.ref n))).map not) KI; rw [q9]; exact h
theorem pJ {a b : V} {l : List V} (e1 : aE cs a = some l) (e : aE cs b = some []) : eqL cs a b = some l.isEmpty := by
 unfold eqL
 rw [e1, e]
 cases l <;> rfl
theorem pK {l : List V} (e : cs[k]? = some []) (h : KI (!l.isEmpty)) : ae (aR cs .NotEq (.lst l) (.cell k)) KI := by
 show ae ((eqL cs (.lst l) (.cell k)).map not) KI
 rw [pJ (a := .lst l) (b := .cell k) (l := l) rfl e]; exact h
theorem Bc {l : List V} (e : cs[k]? = some []) (h : KI l.isEmpty) : ae (aR cs .Eq (.lst l) (.cell k)) KI := by
 show ae (eqL cs (.lst l) (.cell k)) KI
 rw [pJ (a := .lst l) (b := .cell k) (l := l) rfl e]; exact h
theorem Bd {l : List V} {k' : Nat} (e' : cs[k']? = some l) (e : cs[k]? = some []) (h : KI (!l.isEmpty)) : ae (aR cs .NotEq (.cell k') (.cell k)) KI := by
 show ae ((eqL cs (.cell k') (.cell k)).map not) KI
 rw [pJ (a := .cell k') (b := .cell k) (l := l) e' e]; exact h
theorem r_b {p : Bool} (h : KI p) : ae (bE cs (.bool p)) KI := h
theorem r_c {l : List V} (e : cs[k]? = some l) (h : KI (!l.isEmpty)) : ae (bE cs (.cell k)) KI := by
 unfold bE; simp only [aE, e]; exact h
theorem bj {l : List V} (h : K (.int l.length)) : bB fns cs .len [.lst l] K := h
theorem f7 {l : List V} (e : cs[k]? = some l) (h : K (.int l.length)) : bB fns cs .len [.cell k] K := bh (o := aE cs (.cell k)) e h
theorem jq (h : small j ∧ K (.rng 0 j 1)) : bB fns cs .range [.int j] K := h
theorem Aa (h : small i ∧ small j ∧ K (.rng i j 1)) : bB fns cs .range [.int i, .int j] K := h
theorem jr {c : Int} (h : small i ∧ small j ∧ c = -1 ∧ K (.rng i j (-1))) : bB fns cs .range [.int i, .int j, .int c] K := h
theorem kY (h : 0 ≤ i ∧ i < 256 ∧ K (.str [i.toNat])) : bB fns cs .chr [.int i] K := h
theorem wg {a b x y : Nat} (ha : cF a = some x) (hb : cF b = some y) (h : K (.int ((16 * x + y : Nat) : Int))) : bB fns cs .int16 [.str [a, b]] K := bh (o := cF a) ha (bh (o := cF b) hb h)
theorem GB {c : Nat} {K : V → List (List V) → Prop} (hc : ag c = true) (h : K (.str [c]) cs) : bL cs .translate (.str [c]) [.spc] K := ⟨hc, h⟩
theorem Be (h : ∀ a, K (.con (.ref a))) : bB fns cs .object [] K := h
theorem dz {n : Nat} {args : List V} (h : oi args = true ∧ ∃ v, fns n args v ∧ K v) : bB fns cs (.fn n) args K := h
theorem aK {v : V} {l : List V} {K : V → List (List V) → Prop} (e : cs[k]? = some l) (h : l.length < lim ∧ K .none (cs.set k (l ++ [v]))) : bL cs .append (.cell k) [v] K := bh (o := cs[k]?) e h
theorem Bf {l m : List V} {K : V → List (List V) → Prop} (e : cs[k]? = some l) (h : l.length + m.length ≤ lim ∧ K .none (cs.set k (l ++ m))) : bL cs .extend (.cell k) [.lst m] K := bh (o := cs[k]?) e h
theorem i_s {n : Nat} {c : Nat} (e : u[n]? = some c) (h : K (.str [c])) : eX cs (.str u) (.int n) K := by
 have hi : n < u.length := (List.getElem?_eq_some_iff.1 e).1
 have h2 : cY u.length (n : Int) = some n := by
  unfold cY
  rw [if_pos (Int.natCast_nonneg n), if_pos (Int.ofNat_lt.2 hi), Int.toNat_natCast]
 exact bh (o := cY u.length n) h2 (bh (o := u[n]?) e h)
theorem i_q {n : Nat} {o v : V} {l : List V} (ho : iQ cs o = some l) (e : l[n]? = some v) (h : K v) : jJ cs o (n : Int) K := by
 have hi : n < l.length := (List.getElem?_eq_some_iff.1 e).1
 have h2 : cY l.length (n : Int) = some n := by
  unfold cY
  rw [if_pos (Int.natCast_nonneg n), if_pos (Int.ofNat_lt.2 hi), Int.toNat_natCast]
 exact bh ho (bh h2 (bh e h))
theorem i_l {n : Nat} {v : V} {l : List V} (e : l[n]? = some v) (h : K v) : eX cs (.lst l) (.int n) K := i_q (cs := cs) (o := .lst l) rfl e h
theorem i_t {n : Nat} {v : V} {l : List V} (e : l[n]? = some v) (h : K v) : eX cs (.tup l) (.int n) K := i_q (cs := cs) (o := .tup l) rfl e h
theorem i_c {n : Nat} {v : V} {l : List V} (h1 : cs[k]? = some l) (e : l[n]? = some v) (h : K v) : eX cs (.cell k) (.int n) K := i_q (o := .cell k) (l := l) h1 e h
theorem nI {α : Type} (l : List α) (v : α) : cY (l ++ [v]).length (-1) = some l.length := by simp [cY]; exact BM
theorem Ab {o v : V} {l : List V} (ho : iQ cs o = some (l ++ [v])) (h : K v) : jJ cs o (-1) K := bh ho (bh (nI l v) (bh List.getElem?_concat_length h))
theorem mf {v : V} {l : List V} (h : K v) : eX cs (.lst (l ++ [v])) (.int (-1)) K := Ab (cs := cs) (o := .lst (l ++ [v])) rfl h
theorem eH {v : V} {l : List V} (h1 : cs[k]? = some (l ++ [v])) (h : K v) : eX cs (.cell k) (.int (-1)) K := Ab (o := .cell k) h1 h
theorem mh {n : Nat} (h : K (.str [n])) : eX cs (.str (u ++ [n])) (.int (-1)) K := bh (o := cY (u ++ [n]).length (-1)) (nI u n) (bh (o := (u ++ [n])[u.length]?) List.getElem?_concat_length h)
noncomputable def eC (o : Option Int) : Prop := ∀ i, o = some i → small i
theorem aD {a b : Option V} {p q : Option Int} (ha : dy a = some p) (hb : dy b = some q) (hp : eC p) (hq : eC q) (h : K (.str (cut u p q))) : gP cs (.str u) a b K := bh (o := dy a) ha (bh (o := dy b) hb ⟨hp, hq, h⟩)
theorem iH {a b : Option V} {l : List V} {p q : Option Int} (ha : dy a = some p) (hb : dy b = some q) (hp : eC p) (hq : eC q) (h : K (.lst (cut l p q))) : gP cs (.lst l) a b K := bh (o := dy a) ha (bh (o := dy b) hb ⟨hp, hq, h⟩)
theorem GC {a b : Option V} {l : List V} {p q : Option Int} (e : cs[k]? = some l) (ha : dy a = some p) (hb : dy b = some q) (hp : eC p) (hq : eC q) (h : K (.lst (cut l p q))) : gP cs (.cell k) a b K := bh (o := dy a) ha (bh (o := dy b) hb (bh (o := aE cs (.cell k)) e ⟨hp, hq, h⟩))
end
noncomputable def ci (l : List (Option V)) (i : Nat) (K : V → Prop) : Prop := eJ l i K
theorem GD {l : List (Option V)} {i : Nat} {v : V} {K : V → Prop} (e : l[i]? = some (some v)) (h : K v) : ci l i K := hW e h
theorem Ac {l : List (Option V)} {i : Nat} {K : V → Prop} (h : ci l i K) : ∃ v, l[i]? = some (some v) ∧ K v := fS h
noncomputable def kL (KS : V → St → Prop) (st : St) : V → Prop := fun v => KS v st
noncomputable def tM (v : V) (K : Nat → Prop) : Prop := oj v K
theorem ap_k {k : Nat} {K : Nat → Prop} (h : K k) : tM (.app k) K := h
noncomputable def tN (fns : Fns) (a : X) (KS : V → St → Prop) (st : St) : Nat → Prop := fun k => WE fns a (pj k KS) st
noncomputable def kCa (fns : Fns) (a : X) (KS : V → St → Prop) (st : St) : V → Prop := fun v => tM v (tN fns a KS st)
theorem e_cadd1 {i : Nat} (h : ci loc i (kCa fns a KS ⟨loc, cs⟩)) : WE fns (.cadd i a) KS ⟨loc, cs⟩ := by
 obtain ⟨v, e, h⟩ := Ac h
 cases v with
 | app k => exact zY e h
 | _ => exact False.elim h
theorem rk {m : Mt} {v : V} {P : Prop} (e : dC m v = true) (h : P) : dC m v = true ∧ P := ⟨e, h⟩
theorem af {c : Bool} {A B : Prop} (h : c = true) (a : A) : if c = true then A else B := by rw [if_pos h]; exact a
theorem ai {c : Bool} {A B : Prop} (h : c = false) (b : B) : if c = true then A else B := by rw [if_neg (by rw [h]; decide)]; exact b
theorem dh {c : Bool} {A B : Prop} (a : c = true → A) (b : c = false → B) : if c = true then A else B := by
 cases h : c
 ·exact ai rfl (b h)
 ·exact af rfl (a h)
theorem bZ {v : V} {l : List V} {K : List V → Prop} (e : cw v = some l) (h : K l) : gx v K := by unfold gx; rw [e]; exact h
theorem cN {n : Nat} (h : n < 1000000000) : small n := ⟨BL h, BK h⟩
theorem bw {i : Int} (h : -1000000000 < i ∧ i < 1000000000) : small i := ⟨BJ h, BH h⟩
theorem aA : eC Option.none := fun _ h => by cases h
theorem aa {i : Int} (h : -1000000000 < i ∧ i < 1000000000) : eC (some i) := fun _ e => by cases e; exact bw h
noncomputable def ba (v : V) : Fl → St → Prop := fun fl st => ∃ w n, fl = .ret w ∧ aq st.cells n w = some v
theorem aB {v : V} (hv : v.fz = true) : ba v (.ret v) st := ⟨v, 1, rfl, by simp [aq, hv]⟩
end
section
variable {fns : Fns} {cs cs' : List (List V)} {K : V → Prop} {KS : V → St → Prop} {KB : Bool → St → Prop} {KL : List V → St → Prop} {Q : Fl → St → Prop} {st : St} {loc : List (Option V)} {r b c : List S} {t a e x y z : X} {es : List X} {P : Prop} {KI : Bool → Prop} {i j : Int} {u v : List Nat} {k : Nat}
theorem y_e_cst {v : V} : (WE fns (.cst v) KS st) = (KS v st) := rfl
theorem y_e_glo {g : Gv} : (WE fns (.glo g) KS st) = (KS (gi g) st) := rfl
theorem y_e_neg : (WE fns (.neg a) KS st) = (WE fns a (zM KS) st) := rfl
theorem y_x_neg {v : V} : (zM KS v st) = (tD v (kSt KS st)) := rfl
theorem y_e_bin {op} : (WE fns (.bin op x y) KS st) = (WE fns x (zN fns op y KS) st) := rfl
theorem y_x_bin {op} {v : V} : (zN fns op y KS v st) = (WE fns y (pf op v KS) st) := rfl
theorem y_x_bin2 {op} {v w : V} : (pf op v KS w ⟨loc, cs⟩) = (dx cs op v w (kSt KS ⟨loc, cs⟩)) := rfl
theorem y_x_st {v : V} : (kSt KS st v) = (KS v st) := rfl
theorem y_x_stb {p : Bool} : (gX KB st p) = (KB p st) := rfl
theorem y_x_boo {p : Bool} : (tE KS st p) = (KS (.bool p) st) := rfl
theorem y_x_cs {v : V} : (kCs KS ⟨loc, cs⟩ v cs') = (KS v ⟨loc, cs'⟩) := rfl
theorem y_e_ite : (WE fns (.ite t x y) KS st) = (WT fns t (ph fns x y KS) st) := rfl
theorem x_iteet {p : Bool} (e : p = true) (h : WE fns x KS st) : ph fns x y KS p st := af e h
theorem x_iteef {p : Bool} (e : p = false) (h : WE fns y KS st) : ph fns x y KS p st := ai e h
theorem y_e_cmp {op} : (WE fns (.cmp x op y) KS st) = (WE fns x (zO fns op y KS) st) := rfl
theorem y_x_cmp {op} {v : V} : (zO fns op y KS v st) = (WE fns y (jl op v KS) st) := rfl
theorem y_x_cmp2 {op} {v w : V} : (jl op v KS w ⟨loc, cs⟩) = (ae (aR cs op v w) (tE KS ⟨loc, cs⟩)) := rfl
theorem y_e_call {g : G} : (WE fns (.call g es) KS st) = (WEs fns es (uN g fns KS) st) := rfl
theorem y_x_call {g : G} {vs : List V} : (uN g fns KS vs ⟨loc, cs⟩) = (bB fns cs g vs (kSt KS ⟨loc, cs⟩)) := rfl
theorem y_e_meth {m : Mt} : (WE fns (.meth m x es) KS st) = (WE fns x (uO fns m es KS) st) := rfl
theorem y_x_meth {m : Mt} {v : V} : (uO fns m es KS v st) = (dC m v = true ∧ WEs fns es (l9 m v KS) st) := rfl
theorem y_x_meth2 {m : Mt} {v : V} {vs : List V} : (l9 m v KS vs ⟨loc, cs⟩) = (bL cs m v vs (kCs KS ⟨loc, cs⟩)) := rfl
theorem y_x_app {k : Nat} {v : V} : (pj k KS v ⟨loc, cs⟩) = (bL cs .append (.cell k) [v] (kCs KS ⟨loc, cs⟩)) := rfl
theorem y_e_attr : (WE fns (.attr a) KS st) = (WE fns a (uP KS) st) := rfl
theorem y_x_attr {v : V} : (uP KS v st) = (oY v (kSt KS st)) := rfl
theorem y_e_idx : (WE fns (.idx x y) KS st) = (WE fns x (zQ fns y KS) st) := rfl
theorem y_x_idx {v : V} : (zQ fns y KS v st) = (WE fns y (pk v KS) st) := rfl
theorem y_x_idx2 {v j : V} : (pk v KS j ⟨loc, cs⟩) = (eX cs v j (kSt KS ⟨loc, cs⟩)) := rfl
theorem y_e_slc {lo hi} : (WE fns (.slc x lo hi) KS st) = (WE fns x (zR fns lo hi KS) st) := rfl
theorem y_x_slc {lo hi} {v : V} : (zR fns lo hi KS v st) = (WO fns lo (pn fns hi v KS) st) := rfl
theorem y_x_slc1 {hi} {v : V} {p : Option V} : (pn fns hi v KS p st) = (WO fns hi (pl v p KS) st) := rfl
theorem y_x_slc2 {v : V} {p q : Option V} : (pl v p KS q ⟨loc, cs⟩) = (gP cs v p q (kSt KS ⟨loc, cs⟩)) := rfl
theorem y_e_rev : (WE fns (.rev x) KS st) = (WE fns x (zS KS) st) := rfl
theorem y_x_rev {v : V} : (zS KS v ⟨loc, cs⟩) = (jk cs v (po KS ⟨loc, cs⟩)) := rfl
theorem y_x_rev2 {l : List V} : (po KS st l) = (KS (.lst l.reverse) st) := rfl
theorem y_e_mid : (WE fns (.mid x) KS st) = (WE fns x (zT KS) st) := rfl
theorem y_x_mid {v : V} : (zT KS v ⟨loc, cs⟩) = (jk cs v (pp KS ⟨loc, cs⟩)) := rfl
theorem y_x_mid2 {l : List V} : (pp KS st l) = (KS (.lst ((l.take (l.length - 1)).drop 1).reverse) st) := rfl
theorem y_e_lst : (WE fns (.lst es) KS st) = (WEs fns es (zU KS) st) := rfl
theorem y_x_lst {vs : List V} : (zU KS vs st) = (KS (.lst vs) st) := rfl
theorem y_e_tup : (WE fns (.tup es) KS st) = (WEs fns es (zV KS) st) := rfl
theorem y_x_tpl {vs : List V} : (zV KS vs st) = (KS (.tup vs) st) := rfl
theorem y_e_new0 : (WE fns .new0 KS ⟨loc, cs⟩) = (KS (.cell cs.length) ⟨loc, cs ++ [[]]⟩) := rfl
theorem y_e_new1 : (WE fns .new1 KS ⟨loc, cs⟩) = (KS (.cell (cs.length + 1)) ⟨loc, cs ++ [[], [.cell cs.length]]⟩) := rfl
theorem y_e_fstr : (WE fns (.fstr es) KS st) = (WF fns es [] KS st) := rfl
theorem y_e_sub : (WE fns (.sub a) KS st) = (WE fns a (zW KS) st) := rfl
theorem y_x_sub {v : V} : (zW KS v st) = (l8 v (pq KS st)) := rfl
theorem y_x_sub2 {p : List Nat} : (pq KS st p) = (p.all (fun c => c != 38 && c != 124 && c != 126) = true ∧ KS (.str p) st) := rfl
theorem y_e_cmp2 {op op'} : (WE fns (.cmp2 x op y op' z) KS st) = (WE fns x (kC2 fns op op' y z KS) st) := rfl
theorem y_x_c2 {op op'} {v : V} : (kC2 fns op op' y z KS v st) = (WE fns y (tJ fns op op' v z KS) st) := rfl
theorem y_x_c2a {op op'} {v w : V} : (tJ fns op op' v z KS w ⟨loc, cs⟩) = (ae (aR cs op v w) (pv KS fns op' w z ⟨loc, cs⟩)) := rfl
theorem x_c2bt {op'} {w : V} {p : Bool} (e : p = true) (h : WE fns z (jl op' w KS) st) : pv KS fns op' w z st p := af e h
theorem x_c2bf {op'} {w : V} {p : Bool} (e : p = false) (h : KS (.bool false) st) : pv KS fns op' w z st p := ai e h
theorem y_f_nil {acc : List Nat} : (WF fns [] acc KS st) = (acc.length ≤ lim ∧ KS (.str acc) st) := rfl
theorem y_f_cons {acc : List Nat} : (WF fns (a :: es) acc KS st) = (WE fns a (kF fns es acc KS) st) := rfl
theorem y_x_f {acc : List Nat} {v : V} : (kF fns es acc KS v st) = (l8 v (kF2 fns es acc KS st)) := rfl
theorem y_x_f2 {acc p : List Nat} : (kF2 fns es acc KS st p) = (WF fns es (acc ++ p) KS st) := rfl
theorem y_es_nil : (WEs fns [] KL st) = (KL [] st) := rfl
theorem y_es_cons : (WEs fns (e :: es) KL st) = (WE fns e (kEs fns es KL) st) := rfl
theorem y_x_es {v : V} : (kEs fns es KL v st) = (WEs fns es (pu v KL) st) := rfl
theorem y_x_cons {v : V} {vs : List V} : (pu v KL vs st) = (KL (v :: vs) st) := rfl
theorem y_o_none {K : Option V → St → Prop} : (WO fns Option.none K st) = (K Option.none st) := rfl
theorem y_o_some {K : Option V → St → Prop} : (WO fns (some a) K st) = (WE fns a (uQ K) st) := rfl
theorem y_x_some {K : Option V → St → Prop} {v : V} : (uQ K v st) = (K (some v) st) := rfl
theorem y_t_and : (WT fns (.and x y) KB st) = (WT fns x (tF fns y KB) st) := rfl
theorem x_andt {p : Bool} (e : p = true) (h : WT fns y KB st) : tF fns y KB p st := af e h
theorem x_andf {p : Bool} (e : p = false) (h : KB false st) : tF fns y KB p st := ai e h
theorem y_t_or : (WT fns (.or x y) KB st) = (WT fns x (tOr fns y KB) st) := rfl
theorem x_ort {p : Bool} (e : p = true) (h : KB true st) : tOr fns y KB p st := af e h
theorem x_orf {p : Bool} (e : p = false) (h : WT fns y KB st) : tOr fns y KB p st := ai e h
theorem y_t_not : (WT fns (.not x) KB st) = (WT fns x (zX KB) st) := rfl
theorem y_x_not {p : Bool} : (zX KB p st) = (KB (!p) st) := rfl
theorem y_t_ite : (WT fns (.ite t x y) KB st) = (WT fns t (tG fns x y KB) st) := rfl
theorem x_titet {p : Bool} (e : p = true) (h : WT fns x KB st) : tG fns x y KB p st := af e h
theorem x_titef {p : Bool} (e : p = false) (h : WT fns y KB st) : tG fns x y KB p st := ai e h
theorem y_t_cmp {op} : (WT fns (.cmp x op y) KB st) = (WE fns x (zP fns op y KB) st) := rfl
theorem y_x_tcmp {op} {v : V} : (zP fns op y KB v st) = (WE fns y (jm op v KB) st) := rfl
theorem y_x_tcmp2 {op} {v w : V} : (jm op v KB w ⟨loc, cs⟩) = (ae (aR cs op v w) (gX KB ⟨loc, cs⟩)) := rfl
theorem y_t_cmp2 {op op'} : (WT fns (.cmp2 x op y op' z) KB st) = (WE fns x (tC2 fns op op' y z KB) st) := rfl
theorem y_x_t2 {op op'} {v : V} : (tC2 fns op op' y z KB v st) = (WE fns y (tK fns op op' v z KB) st) := rfl
theorem y_x_t2a {op op'} {v w : V} : (tK fns op op' v z KB w ⟨loc, cs⟩) = (ae (aR cs op v w) (pw KB fns op' w z ⟨loc, cs⟩)) := rfl
theorem x_t2bt {op'} {w : V} {p : Bool} (e : p = true) (h : WE fns z (jm op' w KB) st) : pw KB fns op' w z st p := af e h
theorem x_t2bf {op'} {w : V} {p : Bool} (e : p = false) (h : KB false st) : pw KB fns op' w z st p := ai e h
theorem y_t_cst {v : V} : (WT fns (.cst v) KB ⟨loc, cs⟩) = (ae (bE cs v) (gX KB ⟨loc, cs⟩)) := rfl
theorem y_t_call {g : G} : (WT fns (.call g es) KB st) = (WEs fns es (uR g fns KB) st) := rfl
theorem y_x_tcall {g : G} {vs : List V} : (uR g fns KB vs ⟨loc, cs⟩) = (bB fns cs g vs (kTr KB ⟨loc, cs⟩)) := rfl
theorem y_x_tr {v : V} : (kTr KB ⟨loc, cs⟩ v) = (ae (bE cs v) (gX KB ⟨loc, cs⟩)) := rfl
theorem y_t_meth {m : Mt} : (WT fns (.meth m x es) KB st) = (WE fns x (uS fns m es KB) st) := rfl
theorem y_x_tmeth {m : Mt} {v : V} : (uS fns m es KB v st) = (dC m v = true ∧ WEs fns es (ma m v KB) st) := rfl
theorem y_x_tmeth2 {m : Mt} {v : V} {vs : List V} : (ma m v KB vs ⟨loc, cs⟩) = (bL cs m v vs (tH KB ⟨loc, cs⟩)) := rfl
theorem y_x_trc {v : V} : (tH KB ⟨loc, cs⟩ v cs') = (ae (bE cs' v) (gX KB ⟨loc, cs'⟩)) := rfl
theorem y_ts_nil : (WTs fns [] KB st) = (KB true st) := rfl
theorem y_ts_cons : (WTs fns (a :: es) KB st) = (WT fns a (tI fns es KB) st) := rfl
theorem x_allt {p : Bool} (e : p = true) (h : WTs fns es KB st) : tI fns es KB p st := af e h
theorem x_allf {p : Bool} (e : p = false) (h : KB false st) : tI fns es KB p st := ai e h
theorem y_ss_c {s : S} : (WSs fns (s :: b ++ r) Q st) = (WSs fns (s :: (b ++ r)) Q st) := rfl
theorem y_ss_n : (WSs fns ([] ++ r) Q st) = (WSs fns r Q st) := rfl
theorem y_ss_nil : (WSs fns [] Q st) = (Q .next st) := rfl
theorem x_ift {p : Bool} (e : p = true) (h : WSs fns (b ++ r) Q st) : kIf fns b c r Q p st := af e h
theorem x_iff {p : Bool} (e : p = false) (h : WSs fns (c ++ r) Q st) : kIf fns b c r Q p st := ai e h
theorem y_x_ret {v : V} : (z3 Q v st) = (Q (.ret v) st) := rfl
theorem y_x_asg {i : Nat} {v : V} : (z4 fns i r Q v ⟨loc, cs⟩) = (WSs fns r Q ⟨loc.set i (some v), cs⟩) := rfl
theorem y_x_tup3 : (pz fns r Q cs loc) = (WSs fns r Q ⟨loc, cs⟩) := rfl
theorem y_x_tup2 {is : List Nat} {vs : List V} : (pF fns is r Q ⟨loc, cs⟩ vs) = (pe (eB is vs loc) (pz fns r Q cs)) := rfl
theorem y_x_tup {is : List Nat} {v : V} : (z5 fns is r Q v st) = (pd v (pF fns is r Q st)) := rfl
theorem y_x_asgs {i : Nat} {v : V} : (pG fns i r Q ⟨loc, cs⟩ v) = (WSs fns r Q ⟨loc.set i (some v), cs⟩) := rfl
theorem y_x_aug2 {i : Nat} {op} {v w : V} : (pH fns i op v r Q w st) = (lh op v w (pG fns i r Q st)) := rfl
theorem y_x_aug {i : Nat} {op} {v : V} : (z6 fns i op e r Q st v) = (WE fns e (pH fns i op v r Q) st) := rfl
theorem y_x_expr {v : V} : (uT fns r Q v st) = (oZ v (WSs fns r Q st)) := rfl
theorem y_x_ast {p : Bool} : (z7 fns r Q p st) = (p = true ∧ WSs fns r Q st) := rfl
theorem y_ss_ret : (WSs fns (.ret e :: r) Q st) = (WE fns e (z3 Q) st) := rfl
theorem y_ss_assign {i : Nat} : (WSs fns (.assign i e :: r) Q st) = (WE fns e (z4 fns i r Q) st) := rfl
theorem y_ss_tuple {is : List Nat} : (WSs fns (.tuple is e :: r) Q st) = (WE fns e (z5 fns is r Q) st) := rfl
theorem y_ss_expr : (WSs fns (.expr e :: r) Q st) = (WE fns e (uT fns r Q) st) := rfl
theorem y_x_for2 {i : Nat} {l : List V} : (pI fns i b r Q st l) = (l.length ≤ lim ∧ cf (dO fns i b) (me fns r Q) l st) := rfl
theorem y_x_for {i : Nat} {v : V} : (z8 fns i b r Q v st) = (gx v (pI fns i b r Q st)) := rfl
theorem y_ss_brk : (WSs fns (.brk :: r) Q st) = (Q .brk st) := rfl
theorem y_ss_cont : (WSs fns (.cont :: r) Q st) = (Q .cont st) := rfl
theorem y_ss_assert : (WSs fns (.assert t :: r) Q st) = (WT fns t (z7 fns r Q) st) := rfl
theorem y_then_next : (me fns r Q .next st) = (WSs fns r Q st) := rfl
theorem y_then_ret {v : V} : (me fns r Q (.ret v) st) = (Q (.ret v) st) := rfl
theorem x_whlt {n : Nat} {p : Bool} (e : p = true) (h : WSs fns b (j7 fns t b Q n) st) : tL fns t b Q n p st := af e h
theorem x_whlf {n : Nat} {p : Bool} (e : p = false) (h : Q .next st) : tL fns t b Q n p st := ai e h
theorem y_turn_next {n : Nat} : (j7 fns t b Q n .next st) = (aC (WT fns t) (WSs fns b) Q n st) := rfl
theorem y_turn_cont {n : Nat} : (j7 fns t b Q n .cont st) = (aC (WT fns t) (WSs fns b) Q n st) := rfl
theorem y_turn_brk {n : Nat} : (j7 fns t b Q n .brk st) = (Q .next st) := rfl
theorem y_turn_ret {n : Nat} {v : V} : (j7 fns t b Q n (.ret v) st) = (Q (.ret v) st) := rfl
theorem y_fturn_next {bd : V → (Fl → St → Prop) → St → Prop} {l : List V} : (jo bd Q l .next st) = (cf bd Q l st) := rfl
theorem y_fturn_cont {bd : V → (Fl → St → Prop) → St → Prop} {l : List V} : (jo bd Q l .cont st) = (cf bd Q l st) := rfl
theorem y_fturn_ret {bd : V → (Fl → St → Prop) → St → Prop} {l : List V} {v : V} : (jo bd Q l (.ret v) st) = (Q (.ret v) st) := rfl
theorem y_n_i : (tD (.int i) K) = (K (.int (-i))) := rfl
theorem y_s_s {K : List Nat → Prop} : (l8 (.str u) K) = (K u) := rfl
theorem y_a_c : (oY (.cell k) K) = (K (.app k)) := rfl
theorem y_l_l {l : List V} {K : List V → Prop} : (jk cs (.lst l) K) = (K l) := rfl
theorem y_no_n : (oZ .none P) = (P) := rfl
theorem y_tu_t {l : List V} {K : List V → Prop} : (pd (.tup l) K) = (K l) := rfl
theorem y_se_2 {i1 i2 : Nat} {v1 v2 : V} {K : List (Option V) → Prop} : (pe (eB [i1, i2] [v1, v2] loc) K) = (K ((loc.set i1 (some v1)).set i2 (some v2))) := rfl
theorem y_se_3 {i1 i2 i3 : Nat} {v1 v2 v3 : V} {K : List (Option V) → Prop} : (pe (eB [i1, i2, i3] [v1, v2, v3] loc) K) = (K (((loc.set i1 (some v1)).set i2 (some v2)).set i3 (some v3))) := rfl
theorem y_b_add : (dx cs .Add (.int i) (.int j) K) = (K (.int (i + j))) := rfl
theorem y_b_sub : (dx cs .Sub (.int i) (.int j) K) = (K (.int (i - j))) := rfl
theorem y_g_add : (lh .Add (.int i) (.int j) K) = (K (.int (i + j))) := rfl
theorem y_c_eq : (ae (aR cs .Eq (.int i) (.int j)) KI) = (KI (decide (i = j))) := rfl
theorem y_c_ne : (ae (aR cs .NotEq (.int i) (.int j)) KI) = (KI (!decide (i = j))) := rfl
theorem y_c_lt : (ae (aR cs .Lt (.int i) (.int j)) KI) = (KI (decide (i < j))) := rfl
theorem y_c_gt : (ae (aR cs .Gt (.int i) (.int j)) KI) = (KI (decide (j < i))) := rfl
theorem y_c_le : (ae (aR cs .LtE (.int i) (.int j)) KI) = (KI (!decide (j < i))) := rfl
theorem y_c_ge : (ae (aR cs .GtE (.int i) (.int j)) KI) = (KI (!decide (i < j))) := rfl
theorem y_c_eqs : (ae (aR cs .Eq (.str u) (.str v)) KI) = (KI (decide (u = v))) := rfl
theorem y_c_nes : (ae (aR cs .NotEq (.str u) (.str v)) KI) = (KI (!decide (u = v))) := rfl
theorem y_c_gts : (ae (aR cs .Gt (.str u) (.str v)) KI) = (KI (decide (v < u))) := rfl
theorem y_c_les : (ae (aR cs .LtE (.str u) (.str v)) KI) = (KI (!decide (v < u))) := rfl
theorem y_c_eqb {p q : Bool} : (ae (aR cs .Eq (.bool p) (.bool q)) KI) = (KI (p == q)) := rfl
theorem y_c_neb {p q : Bool} : (ae (aR cs .NotEq (.bool p) (.bool q)) KI) = (KI (!(p == q))) := rfl
theorem y_c_in1 {n : Nat} : (ae (aR cs .In (.str [n]) (.str v)) KI) = (KI (v.contains n)) := rfl
theorem y_c_nin1 {n : Nat} : (ae (aR cs .NotIn (.str [n]) (.str v)) KI) = (KI (!v.contains n)) := rfl
theorem y_r_b {p : Bool} : (ae (bE cs (.bool p)) KI) = (KI p) := rfl
theorem y_r_s : (ae (bE cs (.str u)) KI) = (KI (!u.isEmpty)) := rfl
theorem y_k_len_s : (bB fns cs .len [.str u] K) = (K (.int u.length)) := rfl
theorem y_k_len_l {l : List V} : (bB fns cs .len [.lst l] K) = (K (.int l.length)) := rfl
theorem y_k_ord {n : Nat} : (bB fns cs .ord [.str [n]] K) = (K (.int n)) := rfl
theorem y_k_isstr : (bB fns cs .isStr [.str u] K) = (K (.bool true)) := rfl
theorem y_e_loc1 {i : Nat} : (WE fns (.loc i) KS ⟨loc, cs⟩) = (ci loc i (kSt KS ⟨loc, cs⟩)) := rfl
theorem y_t_loc1 {i : Nat} : (WT fns (.loc i) KB ⟨loc, cs⟩) = (ci loc i (kTr KB ⟨loc, cs⟩)) := rfl
theorem y_ss_aug1 {i : Nat} {op} : (WSs fns (.aug i op e :: r) Q ⟨loc, cs⟩) = (ci loc i (z6 fns i op e r Q ⟨loc, cs⟩)) := rfl
theorem y_x_ca2 {k : Nat} : (tN fns a KS st k) = (WE fns a (pj k KS) st) := rfl
theorem y_x_ca {v : V} : (kCa fns a KS st v) = (tM v (tN fns a KS st)) := rfl
theorem y_l0 {v : V} {tl : List (Option V)} : ci (some v :: tl) 0 K = K v := rfl
theorem y_l1 {a0 : Option V} {v : V} {tl : List (Option V)} : ci (a0 :: some v :: tl) 1 K = K v := rfl
theorem y_l2 {a0 a1 : Option V} {v : V} {tl : List (Option V)} : ci (a0 :: a1 :: some v :: tl) 2 K = K v := rfl
theorem y_l3 {a0 a1 a2 : Option V} {v : V} {tl : List (Option V)} : ci (a0 :: a1 :: a2 :: some v :: tl) 3 K = K v := rfl
theorem y_l4 {a0 a1 a2 a3 : Option V} {v : V} {tl : List (Option V)} : ci (a0 :: a1 :: a2 :: a3 :: some v :: tl) 4 K = K v := rfl
theorem y_l5 {a0 a1 a2 a3 a4 : Option V} {v : V} {tl : List (Option V)} : ci (a0 :: a1 :: a2 :: a3 :: a4 :: some v :: tl) 5 K = K v := rfl
theorem y_l6 {a0 a1 a2 a3 a4 a5 : Option V} {v : V} {tl : List (Option V)} : ci (a0 :: a1 :: a2 :: a3 :: a4 :: a5 :: some v :: tl) 6 K = K v := rfl
theorem y_l7 {a0 a1 a2 a3 a4 a5 a6 : Option V} {v : V} {tl : List (Option V)} : ci (a0 :: a1 :: a2 :: a3 :: a4 :: a5 :: a6 :: some v :: tl) 7 K = K v := rfl
theorem y_l8 {a0 a1 a2 a3 a4 a5 a6 a7 : Option V} {v : V} {tl : List (Option V)} : ci (a0 :: a1 :: a2 :: a3 :: a4 :: a5 :: a6 :: a7 :: some v :: tl) 8 K = K v := rfl
theorem y_l9 {a0 a1 a2 a3 a4 a5 a6 a7 a8 : Option V} {v : V} {tl : List (Option V)} : ci (a0 :: a1 :: a2 :: a3 :: a4 :: a5 :: a6 :: a7 :: a8 :: some v :: tl) 9 K = K v := rfl
theorem y_l10 {a0 a1 a2 a3 a4 a5 a6 a7 a8 a9 : Option V} {v : V} {tl : List (Option V)} : ci (a0 :: a1 :: a2 :: a3 :: a4 :: a5 :: a6 :: a7 :: a8 :: a9 :: some v :: tl) 10 K = K v := rfl
theorem y_l11 {a0 a1 a2 a3 a4 a5 a6 a7 a8 a9 a10 : Option V} {v : V} {tl : List (Option V)} : ci (a0 :: a1 :: a2 :: a3 :: a4 :: a5 :: a6 :: a7 :: a8 :: a9 :: a10 :: some v :: tl) 11 K = K v := rfl
theorem y_l12 {a0 a1 a2 a3 a4 a5 a6 a7 a8 a9 a10 a11 : Option V} {v : V} {tl : List (Option V)} : ci (a0 :: a1 :: a2 :: a3 :: a4 :: a5 :: a6 :: a7 :: a8 :: a9 :: a10 :: a11 :: some v :: tl) 12 K = K v := rfl
theorem y_l13 {a0 a1 a2 a3 a4 a5 a6 a7 a8 a9 a10 a11 a12 : Option V} {v : V} {tl : List (Option V)} : ci (a0 :: a1 :: a2 :: a3 :: a4 :: a5 :: a6 :: a7 :: a8 :: a9 :: a10 :: a11 :: a12 :: some v :: tl) 13 K = K v := rfl
theorem y_l14 {a0 a1 a2 a3 a4 a5 a6 a7 a8 a9 a10 a11 a12 a13 : Option V} {v : V} {tl : List (Option V)} : ci (a0 :: a1 :: a2 :: a3 :: a4 :: a5 :: a6 :: a7 :: a8 :: a9 :: a10 :: a11 :: a12 :: a13 :: some v :: tl) 14 K = K v := rfl
theorem y_l15 {a0 a1 a2 a3 a4 a5 a6 a7 a8 a9 a10 a11 a12 a13 a14 : Option V} {v : V} {tl : List (Option V)} : ci (a0 :: a1 :: a2 :: a3 :: a4 :: a5 :: a6 :: a7 :: a8 :: a9 :: a10 :: a11 :: a12 :: a13 :: a14 :: some v :: tl) 15 K = K v := rfl
theorem y_l16 {a0 a1 a2 a3 a4 a5 a6 a7 a8 a9 a10 a11 a12 a13 a14 a15 : Option V} {v : V} {tl : List (Option V)} : ci (a0 :: a1 :: a2 :: a3 :: a4 :: a5 :: a6 :: a7 :: a8 :: a9 :: a10 :: a11 :: a12 :: a13 :: a14 :: a15 :: some v :: tl) 16 K = K v := rfl
end
section
variable {fns : Fns} {cs cs' : List (List V)} {K : V → Prop} {KS : V → St → Prop} {KB : Bool → St → Prop} {KL : List V → St → Prop} {Q : Fl → St → Prop} {st : St} {loc : List (Option V)} {r b c : List S} {x : V} {es : List X} {P : Prop} {KI : Bool → Prop} {i j : Int} {u v : List Nat} {k : Nat}
noncomputable def pL (K' : Option V → List (List V) → Prop) : V → St → Prop := fun y st => K' (some y) st.cells
noncomputable def pM (fns : Fns) (elt : X) (K' : Option V → List (List V) → Prop) : Bool → St → Prop := fun b st => if b = true then WE fns elt (pL K') st else K' Option.none st.cells
noncomputable def ew (fns : Fns) (slot : Nat) (elt : X) (ifs : List X) (loc : List (Option V)) : V → (Option V → List (List V) → Prop) → List (List V) → Prop := fun x K' cs => WTs fns ifs (pM fns elt K') ⟨loc.set slot (some x), cs⟩
noncomputable def tO (KS : V → St → Prop) (loc : List (Option V)) : List V → List (List V) → Prop := fun l cs => KS (.lst l) ⟨loc, cs⟩
noncomputable def mi (fns : Fns) (slot : Nat) (elt : X) (ifs : List X) (KS : V → St → Prop) (st : St) : List V → Prop := fun items => items.length ≤ lim ∧ bC (ew fns slot elt ifs st.loc) items [] (tO KS st.loc) st.cells
noncomputable def uW (fns : Fns) (slot : Nat) (elt : X) (ifs : List X) (KS : V → St → Prop) : V → St → Prop := fun v st => gx v (mi fns slot elt ifs KS st)
theorem y_comp {slot : Nat} {elt iter : X} {ifs : List X} : WE fns (.comp false slot elt iter ifs) KS st = WE fns iter (uW fns slot elt ifs KS) st := rfl
theorem y_kcomp {slot : Nat} {elt : X} {ifs : List X} {v : V} : uW fns slot elt ifs KS v st = gx v (mi fns slot elt ifs KS st) := rfl
theorem y_kcompi {slot : Nat} {elt : X} {ifs : List X} {l : List V} : mi fns slot elt ifs KS ⟨loc, cs⟩ l = (l.length ≤ lim ∧ bC (ew fns slot elt ifs loc) l [] (tO KS loc) cs) := rfl
theorem y_cend {l : List V} : tO KS loc l cs = KS (.lst l) ⟨loc, cs⟩ := rfl
theorem y_cturn {slot : Nat} {elt : X} {ifs : List X} {K' : Option V → List (List V) → Prop} : ew fns slot elt ifs loc x K' cs = WTs fns ifs (pM fns elt K') ⟨loc.set slot (some x), cs⟩ := rfl
theorem y_keltv {K' : Option V → List (List V) → Prop} : pL K' x ⟨loc, cs⟩ = K' (some x) cs := rfl
theorem x_keltt {elt : X} {K' : Option V → List (List V) → Prop} {p : Bool} (e : p = true) (h : WE fns elt (pL K') ⟨loc, cs⟩) : pM fns elt K' p ⟨loc, cs⟩ := af e h
theorem x_keltf {elt : X} {K' : Option V → List (List V) → Prop} {p : Bool} (e : p = false) (h : K' Option.none cs) : pM fns elt K' p ⟨loc, cs⟩ := ai e h
end
end Mine
namespace Mine
open PySem
local macro_rules | `(tactic| k_inBlock) => do
  let f := fun (s : String) => (s.splitOn " ").toArray.map fun s => Lean.mkIdent (.str `Mine s)
  let ls := f "y_e_cst y_e_glo y_e_neg y_x_neg y_e_bin y_x_bin y_x_bin2 y_x_st y_x_stb y_x_boo y_x_cs y_e_ite y_e_cmp y_x_cmp y_x_cmp2 y_e_call y_x_call y_e_meth y_x_meth y_x_meth2 y_x_app y_e_attr y_x_attr y_e_idx y_x_idx y_x_idx2 y_e_slc y_x_slc y_x_slc1 y_x_slc2 y_e_rev y_x_rev y_x_rev2 y_e_mid y_x_mid y_x_mid2 y_e_lst y_x_lst y_e_tup y_x_tpl y_e_new0 y_e_new1 y_e_fstr y_e_sub y_x_sub y_x_sub2 y_e_cmp2 y_x_c2 y_x_c2a y_f_nil y_f_cons y_x_f y_x_f2 y_es_nil y_es_cons y_x_es y_x_cons y_o_none y_o_some y_x_some y_t_and y_t_or y_t_not y_x_not y_t_ite y_t_cmp y_x_tcmp y_x_tcmp2 y_t_cmp2 y_x_t2 y_x_t2a y_t_cst y_t_call y_x_tcall y_x_tr y_t_meth y_x_tmeth y_x_tmeth2 y_x_trc y_ts_nil y_ts_cons y_ss_c y_ss_n y_ss_nil y_x_ret y_x_asg y_x_tup3 y_x_tup2 y_x_tup y_x_asgs y_x_aug2 y_x_aug y_x_expr y_x_ast y_ss_ret y_ss_assign y_ss_tuple y_ss_expr y_x_for2 y_x_for y_ss_brk y_ss_cont y_ss_assert y_then_next y_then_ret y_turn_next y_turn_cont y_turn_brk y_turn_ret y_fturn_next y_fturn_cont y_fturn_ret y_n_i y_s_s y_a_c y_l_l y_no_n y_tu_t y_se_2 y_se_3 y_b_add y_b_sub y_g_add y_c_eq y_c_ne y_c_lt y_c_gt y_c_le y_c_ge y_c_eqs y_c_nes y_c_gts y_c_les y_c_eqb y_c_neb y_c_in1 y_c_nin1 y_r_b y_r_s y_k_len_s y_k_len_l y_k_ord y_k_isstr y_e_loc1 y_t_loc1 y_ss_aug1 y_x_ca2 y_x_ca y_l0 y_l1 y_l2 y_l3 y_l4 y_l5 y_l6 y_l7 y_l8 y_l9 y_l10 y_l11 y_l12 y_l13 y_l14 y_l15 y_l16 y_comp y_kcomp y_kcompi y_cend y_cturn y_keltv"
  let ts := f "x_iteet x_iteef x_c2bt x_c2bf x_andt x_andf x_ort x_orf x_titet x_titef x_t2bt x_t2bf x_allt x_allf x_ift x_iff x_whlt x_whlf x_keltt x_keltf"
  `(tactic| first
  | dsimp only [List.set, $[$ls:term],*]
  | with_reducible refine ss_ite ?_
  | with_reducible refine c_in2 ?_
  | ((with_reducible refine rk ?_ ?_); exact rfl)
  | ((with_reducible refine e_cadd1 ?_); refine GD rfl (ap_k ?_))
  | with_reducible refine And.intro (Eq.refl true) ?_
  | with_reducible first $[| refine $ts:term (by first | decide | with_unfolding_all rfl) ?_]*
  | with_reducible refine af (by decide) ?_
  | with_reducible refine ai (by decide) ?_)
section
variable {fns : Fns} {cs : List (List V)} {K : V → Prop} {KS : V → St → Prop} {st : St} {loc : List (Option V)}
noncomputable def hx (n : Nat) : Nat := if n < 10 then 48 + n else 55 + n
noncomputable def q3 (c : Nat) : List Nat := [61, hx (c / 16), hx (c % 16)]
noncomputable def nv (l : List Nat) : List V := l.map fun (n : Nat) => V.int (n : Int)
theorem iI (n i : Nat) : ce n (i : Int) = min i n := by
 unfold ce
 rw [if_neg (B1)]
 simp
theorem eD {α : Type} (x : List α) (i j : Nat) : cut x (some (i : Int)) (some (j : Int)) = (x.take j).drop i := by
 simp only [cut, Option.elim, iI]
 rw [← List.take_eq_take_min]
 by_cases h : i ≤ x.length
 ·rw [Nat.min_eq_left h]
 ·rw [List.drop_eq_nil_of_le (by rw [List.length_take]; exact B0 h), List.drop_eq_nil_of_le (by rw [List.length_take]; exact BZ h)]
theorem mj {α : Type} (x : List α) (j : Nat) : cut x Option.none (some (j : Int)) = x.take j := by
 simp only [cut, Option.elim, iI]
 rw [← List.take_eq_take_min]; rfl
theorem cj {α : Type} (x : List α) (i : Nat) : cut x (some (i : Int)) Option.none = x.drop i := by
 simp only [cut, Option.elim, iI, List.take_length]
 by_cases h : i ≤ x.length
 ·rw [Nat.min_eq_left h]
 ·rw [List.drop_eq_nil_of_le (BY h), List.drop_eq_nil_of_le (BX h)]
theorem ml {α : Type} (x : List α) (a : α) : cut (x ++ [a]) Option.none (some (-1)) = x := by
 simp only [cut, Option.elim, ce]
 rw [if_pos (by decide)]
 have : (-1 + ((x ++ [a]).length : Int)).toNat = x.length := by rw [List.length_append, List.length_singleton]; exact BW
 rw [this]; simp
theorem j8 {α : Type} (x : List α) (a b : α) : cut (a :: (x ++ [b])) (some 1) (some (-1)) = x := by
 simp only [cut, Option.elim, ce]
 rw [if_neg (by decide), if_pos (by decide)]
 have : (-1 + ((a :: (x ++ [b])).length : Int)).toNat = x.length + 1 := by rw [List.length_cons, List.length_append, List.length_singleton]; exact BV
 rw [this]; simp
theorem bG {i j : Nat} {J : Int} (e : J = (j : Int)) (hj : 0 < j) (h : K (.int ((i % j : Nat) : Int))) : dx cs .Mod (.int (i : Nat)) (.int J) K := by
 subst e
 refine uU ⟨BU hj, ?_⟩
 rw [Int.fmod_eq_emod_of_nonneg _ (BS hj)]; exact h
theorem di {i j : Nat} {J : Int} (e : J = (j : Int)) (hj : 0 < j ∧ j < 1073741824) (h : K (.int ((i / j : Nat) : Int))) : dx cs .FloorDiv (.int (i : Nat)) (.int J) K := by
 subst e
 refine Bb ⟨BR hj, BQ hj, ?_⟩
 rw [Int.fdiv_eq_ediv_of_nonneg _ (BP hj)]; exact h
theorem rd {i j : Nat} {J : Int} (e : J = (j : Int)) (hi : i < 4611686018427387904) (hj : j < 4611686018427387904) (h : K (.int ((i * j : Nat) : Int))) : dx cs .Mult (.int (i : Nat)) (.int J) K := by
 subst e; exact uV ⟨⟨wZ hi, wY hi⟩, ⟨wZ hj, wY hj⟩, by rw [← Int.natCast_mul]; exact h⟩
theorem fk {turn : V → (Option V → List (List V) → Prop) → List (List V) → Prop} {R : List (List V) → Prop} (f : V → Option V) : ∀ (items acc : List V) (K : List V → List (List V) → Prop) (cs : List (List V)),
  (∀ x ∈ items, ∀ K cs, R cs → (∀ cs', R cs' → K (f x) cs') → turn x K cs) → R cs → (∀ cs', R cs' → K (acc ++ items.filterMap f) cs') → bC turn items acc K cs
 | [], acc, K, cs, _, r, q => by simpa [bC] using q cs r
 | x :: l, acc, K, cs, h, r, q => by
  unfold bC
  refine h x (by simp) _ cs r fun cs' r' => ?_
  repeat k_inBlock
  refine fk f l _ K cs' (fun y hy => h y (by simp [hy])) r' fun cs'' r'' => ?_
  have := q cs'' r''
  rw [List.filterMap_cons] at this
  cases e : f x with
  | none => rw [e] at this; simpa using this
  | some v => rw [e] at this; simpa using this
theorem fF {turn : V → (Option V → List (List V) → Prop) → List (List V) → Prop} {R : List (List V) → Prop} (f : Nat → Option V) (l : List Nat) (K : List V → List (List V) → Prop) (cs : List (List V))
  (h : ∀ n ∈ l, ∀ K cs, R cs → (∀ cs', R cs' → K (f n) cs') → turn (.int (n : Nat)) K cs) (r : R cs) (q : ∀ cs', R cs' → K (l.filterMap f) cs') : bC turn (nv l) [] K cs := by
 refine fk (R := R) (fun v => match v with | .int i => f i.toNat | _ => Option.none) (nv l) [] K cs (fun x hx => ?_) r fun cs' r' => ?_
 ·obtain ⟨n, hn, rfl⟩ := List.mem_map.1 hx
  exact h n hn
 ·have e : (nv l).filterMap (fun v => match v with | .int i => f i.toNat | _ => Option.none) = l.filterMap f := by
   unfold nv
   rw [List.filterMap_map]
   rfl
  rw [e]; exact q cs' r'
theorem gZ (n : Nat) : cw (.rng 0 n 1) = some (nv (List.range n)) := by
 simp [cw, cW, nv]
theorem bD {v : V} {l : List V} (h : v.fz = true) (h' : V.fz.fzs l = true) : V.fz.fzs (v :: l) = true := by
 show (v.fz && V.fz.fzs l) = true
 rw [h, h']; rfl
theorem dF {α : Type} (f : α → V) (h : ∀ a, (f a).fz = true) (l : List α) : V.fz.fzs (l.map f) = true := by
 induction l with
 | nil => rfl
 | cons a r ih => exact bD (h a) ih
theorem dj (l : List Nat) : V.fz.fzs (nv l) = true := dF _ (fun _ => rfl) l
theorem ends_ref {c : Bool} {A B : Prop} (h : A ∧ B) : A ∧ B := h
theorem wh {c : Nat} (hc : c < 256) {l : List (Option V)} : WSs fns c24 (ba (.str (q3 c))) ⟨some (.str [c]) :: l, []⟩ := by
 unfold c24
 repeat k_inBlock
 refine i_l (cs := []) (v := .str (q3 c)) ?_ ?_
 ·simp [List.getElem?_range hc, q3, hx]
 ·exact aB rfl
theorem re {a b x y : Nat} (ha : cF a = some x) (hb : cF b = some y) (hx : x < 16) (hy : y < 16) {l : List (Option V)} : WSs fns c23 (ba (.str [16 * x + y])) ⟨some (.str [61, a, b]) :: l, []⟩ := by
 unfold c23
 repeat k_inBlock
 refine aD rfl rfl (aa (by decide)) (aa (by decide)) ?_
 rw [show cut [61, a, b] (some 1) (some 3) = [a, b] from rfl]
 repeat k_inBlock
 refine wg ha hb ?_
 repeat k_inBlock
 refine kY (i := ((16 * x + y : Nat) : Int)) ⟨BO hx hy, BN hx hy, ?_⟩
 rw [Int.toNat_natCast]
 exact aB rfl
theorem tP {c : Nat} (hc : ag c = true) {l : List (Option V)} : WSs fns c6 (ba (.str [c])) ⟨some (.str [c]) :: l, []⟩ := by
 unfold c6
 repeat k_inBlock
 refine GB hc ?_
 exact aB rfl
end
set_option genInjectivity false in
inductive Hf where
 | any
 | dig (x : Nat)
 | rng (bar : Bool) (x y : Nat)
 | two (bar : Bool) (x y : Nat)
noncomputable def Hf.wf : Hf → Prop
 | .any => True
 | .dig x => x < 16
 | .rng _ x y => x < 16 ∧ y < 16
 | .two _ x y => x < 16 ∧ y < 16
noncomputable def Hf.text : Hf → List Nat
 | .any => [63]
 | .dig x => [hx x]
 | .rng b x y => (if b then [91, 33] else [91]) ++ [hx x, 45, hx y] ++ [93]
 | .two b x y => (if b then [91, 33] else [91]) ++ [hx x, hx y] ++ [93]
noncomputable def Hf.inside (x y : Nat) (r : Bool) : List Nat := (List.range 16).filter fun v => if r then decide (x ≤ v ∧ v ≤ y) else decide (v = x ∨ v = y)
noncomputable def Hf.outside (x y : Nat) (r : Bool) : List Nat := (List.range 16).filter fun v => !(Hf.inside x y r).contains v
noncomputable def Hf.vals : Hf → List Nat
 | .any => List.range 16
 | .dig x => [x]
 | .rng b x y => if b then Hf.outside x y true else Hf.inside x y true
 | .two b x y => if b then Hf.outside x y false else Hf.inside x y false
noncomputable def aQ (n : Nat) : Hf :=
 if n % 6 = 0 then .any else if n % 6 = 1 then .dig (n / 6 % 16) else if n % 6 < 4 then .rng (n % 6 % 2 = 1) (n / 6 % 16) (n / 96 % 16) else .two (n % 6 % 2 = 1) (n / 6 % 16) (n / 96 % 16)
theorem dS (n : Nat) : (aQ n).wf := by
 unfold aQ
 have h1 := Nat.mod_lt (n / 6) (y := 16) (by decide)
 have h2 := Nat.mod_lt (n / 96) (y := 16) (by decide)
 split
 ·trivial
 split
 ·exact h1
 split
 ·exact ⟨h1, h2⟩
 ·exact ⟨h1, h2⟩
section
variable {fns : Fns} {cs : List (List V)} {K : V → Prop} {KS : V → St → Prop} {st : St} {loc : List (Option V)}
theorem fig (x : Nat) (h : x < 16) : ([48, 49, 50, 51, 52, 53, 54, 55, 56, 57, 65, 66, 67, 68, 69, 70] : List Nat)[x]? = some (hx x) := by
 have : ∀ x : Fin 16, ([48, 49, 50, 51, 52, 53, 54, 55, 56, 57, 65, 66, 67, 68, 69, 70] : List Nat)[(x : Nat)]? = some (hx x) := by decide
 exact this ⟨x, h⟩
theorem Ad (cs : List (List V)) (x : Nat) (l : List Nat) : inV cs (.int x) (.lst (nv l)) = some (l.contains x) := by
 have : bX (nv l) = some (l.map fun (n : Nat) => (n : Int)) := by
  induction l with
  | nil => rfl
  | cons a r ih => show (bX (nv r)).map _ = _; rw [ih]; rfl
 show (bX (nv l)).map _ = _
 rw [this]
 refine congrArg some ?_
 show (l.map fun (n : Nat) => (n : Int)).contains (x : Int) = l.contains x
 rw [Bool.eq_iff_iff, List.contains_iff_mem, List.contains_iff_mem, List.mem_map]
 exact ⟨fun ⟨a, h, e⟩ => Int.ofNat.inj e ▸ h, fun h => ⟨x, h, rfl⟩⟩
theorem kZ {KI : Bool → Prop} {x : Nat} {l : List Nat} (h : KI (!l.contains x)) : ae (aR cs .NotIn (.int x) (.lst (nv l))) KI := by
 unfold aR; rw [Ad]; exact h
theorem kt (p : Nat → Bool) (l : List Nat) : l.filterMap (fun n => if p n = true then some (V.int (n : Int)) else Option.none) = nv (l.filter p) := by
 induction l with
 | nil => rfl
 | cons a r ih =>
  rw [List.filterMap_cons, List.filter_cons]
  cases h : p a
  ·exact ih
  ·simp [h, nv] at *; exact ih
theorem fp {slot : Nat} {ifs : List X} {l : List (List V)} (p : Nat → Bool)
  (h : ∀ n, n < 16 → ∀ (KB : Bool → St → Prop), KB (p n) ⟨loc.set slot (some (.int (n : Nat))), l⟩ → WTs fns ifs KB ⟨loc.set slot (some (.int (n : Nat))), l⟩) (hs : slot < loc.length)
  (q : KS (.lst (nv ((List.range 16).filter p))) ⟨loc, l⟩) : WE fns (.comp false slot (.loc slot) (.call .range [.cst (.int 16)]) ifs) KS ⟨loc, l⟩ := by
 repeat k_inBlock
 refine jq ⟨bw (by decide), ?_⟩
 repeat k_inBlock
 refine bZ (gZ 16) ⟨by decide, ?_⟩
 repeat k_inBlock
 refine fF (R := (· = l)) (fun n => if p n = true then some (V.int (n : Int)) else Option.none) _ _ _ ?_ rfl ?_
 ·rintro n hn K cs rfl k
  refine h n (List.mem_range.1 hn) _ ?_
  cases hp : p n
  ·repeat k_inBlock
   have := k cs rfl
   rw [hp] at this; exact this
  ·repeat k_inBlock
   refine GD (v := .int (n : Nat)) (by rw [List.getElem?_set_self hs]) ?_
   have := k cs rfl
   rw [hp] at this; exact this
 ·rintro cs' rfl
  rw [kt]; exact q
theorem Ae (n : Nat) (hn : n < 1000000) : WSs fns c30 (ba (.tup [.str (aQ n).text, .lst (nv (aQ n).vals)])) ⟨[some (.int (n : Nat)), none, none, none, none, none, none, none, none, none, none, none, none, none], []⟩ := by
 have h1 : n / 6 % 16 < 16 := Nat.mod_lt _ (by decide)
 have h2 : n / 96 % 16 < 16 := Nat.mod_lt _ (by decide)
 have h0 : n % 6 < 6 := Nat.mod_lt _ (by decide)
 unfold c30
 repeat k_inBlock
 refine bG (j := 6) rfl (by decide) ?_
 repeat k_inBlock
 refine di (j := 6) rfl (by decide) ?_
 repeat k_inBlock
 refine bG (j := 16) rfl (by decide) ?_
 repeat k_inBlock
 refine di (j := 96) rfl (by decide) ?_
 repeat k_inBlock
 refine bG (j := 16) rfl (by decide) ?_
 have hh : aQ n = if n % 6 = 0 then .any else if n % 6 = 1 then .dig (n / 6 % 16) else if n % 6 < 4 then .rng (n % 6 % 2 = 1) (n / 6 % 16) (n / 96 % 16) else .two (n % 6 % 2 = 1) (n / 6 % 16) (n / 96 % 16) := rfl
 generalize n / 6 % 16 = x at *
 generalize n / 96 % 16 = y at *
 generalize n % 6 = k at *
 rw [hh]
 clear hh
 repeat k_inBlock
 refine dh (fun e => ?_) (fun e => ?_)
 ·simp at e
  subst e
  repeat k_inBlock
  refine fp (fun _ => true) (fun n hn KB q => z1 q) (by simp) ?_
  repeat k_inBlock
  have : (List.range 16).filter (fun _ => true) = List.range 16 := rfl
  rw [this]
  exact aB rfl
 simp at e
 repeat k_inBlock
 refine dh (fun e => ?_) (fun e => ?_)
 ·simp at e
  have e' : k = 1 := B2 e
  subst e'
  repeat k_inBlock
  refine i_s (fig x h1) ?_
  repeat k_inBlock
  exact aB rfl
 simp at e
 have e4 : k = 2 ∨ k = 3 ∨ k = 4 ∨ k = 5 := by omega
 repeat k_inBlock
 refine i_s (fig x h1) ?_
 repeat k_inBlock
 rcases e4 with rfl | rfl | rfl | rfl
 ·repeat k_inBlock
  refine bk ⟨by simp [lim], ?_⟩
  repeat k_inBlock
  refine i_s (fig y h2) ?_
  repeat k_inBlock
  refine bk ⟨by simp [lim], ?_⟩
  repeat k_inBlock
  refine fp (fun v => decide (x ≤ v ∧ v ≤ y)) (fun n hn KB q => ?_) (by simp) ?_
  ·repeat k_inBlock
   refine dh (fun g => ?_) (fun g => ?_)
   ·repeat k_inBlock
    simp at g
    by_cases g2 : n ≤ y
    ·repeat k_inBlock
     refine af (by simp; exact k8 g2) ?_
     repeat k_inBlock
     rw [show decide (x ≤ n ∧ n ≤ y) = true from decide_eq_true ⟨g, g2⟩] at q; exact q
    ·repeat k_inBlock
     refine ai (by simp; exact k9 g2) ?_
     rw [show decide (x ≤ n ∧ n ≤ y) = false from decide_eq_false (w8 g2)] at q; exact q
   ·simp at g
    repeat k_inBlock
    rw [show decide (x ≤ n ∧ n ≤ y) = false from decide_eq_false (w7 g)] at q; exact q
  repeat k_inBlock
  refine bG (j := 2) rfl (by decide) ?_
  repeat k_inBlock
  refine bk ⟨by simp [lim], ?_⟩
  repeat k_inBlock
  refine bk ⟨by simp [lim], ?_⟩
  repeat k_inBlock
  exact aB (bD rfl (bD (dj _) rfl))
 ·repeat k_inBlock
  refine bk ⟨by simp [lim], ?_⟩
  repeat k_inBlock
  refine i_s (fig y h2) ?_
  repeat k_inBlock
  refine bk ⟨by simp [lim], ?_⟩
  repeat k_inBlock
  refine fp (fun v => decide (x ≤ v ∧ v ≤ y)) (fun n hn KB q => ?_) (by simp) ?_
  ·repeat k_inBlock
   refine dh (fun g => ?_) (fun g => ?_)
   ·repeat k_inBlock
    simp at g
    by_cases g2 : n ≤ y
    ·repeat k_inBlock
     refine af (by simp; exact k8 g2) ?_
     repeat k_inBlock
     rw [show decide (x ≤ n ∧ n ≤ y) = true from decide_eq_true ⟨g, g2⟩] at q; exact q
    ·repeat k_inBlock
     refine ai (by simp; exact k9 g2) ?_
     rw [show decide (x ≤ n ∧ n ≤ y) = false from decide_eq_false (w8 g2)] at q; exact q
   ·simp at g
    repeat k_inBlock
    rw [show decide (x ≤ n ∧ n ≤ y) = false from decide_eq_false (w7 g)] at q; exact q
  repeat k_inBlock
  refine bG (j := 2) rfl (by decide) ?_
  repeat k_inBlock
  refine bk ⟨by simp [lim], ?_⟩
  repeat k_inBlock
  refine bk ⟨by simp [lim], ?_⟩
  repeat k_inBlock
  refine fp (fun v => !((List.range 16).filter (fun v => decide (x ≤ v ∧ v ≤ y))).contains v) (fun n hn KB q => ?_) (by simp) ?_
  ·repeat k_inBlock
   refine kZ ?_
   repeat k_inBlock
   refine dh (fun g => ?_) (fun g => ?_)
   ·repeat k_inBlock
    rw [g] at q; exact q
   ·rw [g] at q; exact q
  repeat k_inBlock
  exact aB (bD rfl (bD (dj _) rfl))
 ·repeat k_inBlock
  refine bk ⟨by simp [lim], ?_⟩
  repeat k_inBlock
  refine i_s (fig y h2) ?_
  repeat k_inBlock
  refine bk ⟨by simp [lim], ?_⟩
  repeat k_inBlock
  refine fp (fun v => decide (v = x ∨ v = y)) (fun n hn KB q => ?_) (by simp) ?_
  ·repeat k_inBlock
   refine dh (fun g => ?_) (fun g => ?_)
   ·simp at g
    repeat k_inBlock
    rw [show decide (n = x ∨ n = y) = true from decide_eq_true (w6 g)] at q; exact q
   ·simp at g
    repeat k_inBlock
    by_cases g2 : n = y
    ·repeat k_inBlock
     refine af (by simp; exact n4 g2) ?_
     repeat k_inBlock
     rw [show decide (n = x ∨ n = y) = true from decide_eq_true (w5 g2)] at q; exact q
    ·repeat k_inBlock
     refine ai (by simp; exact nZ g2) ?_
     rw [show decide (n = x ∨ n = y) = false from decide_eq_false (w4 g g2)] at q; exact q
  repeat k_inBlock
  refine bG (j := 2) rfl (by decide) ?_
  repeat k_inBlock
  refine bk ⟨by simp [lim], ?_⟩
  repeat k_inBlock
  refine bk ⟨by simp [lim], ?_⟩
  repeat k_inBlock
  exact aB (bD rfl (bD (dj _) rfl))
 ·repeat k_inBlock
  refine bk ⟨by simp [lim], ?_⟩
  repeat k_inBlock
  refine i_s (fig y h2) ?_
  repeat k_inBlock
  refine bk ⟨by simp [lim], ?_⟩
  repeat k_inBlock
  refine fp (fun v => decide (v = x ∨ v = y)) (fun n hn KB q => ?_) (by simp) ?_
  ·repeat k_inBlock
   refine dh (fun g => ?_) (fun g => ?_)
   ·simp at g
    repeat k_inBlock
    rw [show decide (n = x ∨ n = y) = true from decide_eq_true (w6 g)] at q; exact q
   ·simp at g
    repeat k_inBlock
    by_cases g2 : n = y
    ·repeat k_inBlock
     refine af (by simp; exact n4 g2) ?_
     repeat k_inBlock
     rw [show decide (n = x ∨ n = y) = true from decide_eq_true (w5 g2)] at q; exact q
    ·repeat k_inBlock
     refine ai (by simp; exact nZ g2) ?_
     rw [show decide (n = x ∨ n = y) = false from decide_eq_false (w4 g g2)] at q; exact q
  repeat k_inBlock
  refine bG (j := 2) rfl (by decide) ?_
  repeat k_inBlock
  refine bk ⟨by simp [lim], ?_⟩
  repeat k_inBlock
  refine bk ⟨by simp [lim], ?_⟩
  repeat k_inBlock
  refine fp (fun v => !((List.range 16).filter (fun v => decide (v = x ∨ v = y))).contains v) (fun n hn KB q => ?_) (by simp) ?_
  ·repeat k_inBlock
   refine kZ ?_
   repeat k_inBlock
   refine dh (fun g => ?_) (fun g => ?_)
   ·repeat k_inBlock
    rw [g] at q; exact q
   ·rw [g] at q; exact q
  repeat k_inBlock
  exact aB (bD rfl (bD (dj _) rfl))
end
abbrev Run := List (List Nat × List Nat)
noncomputable def cD (p : List Nat × List Nat) : V := .tup [.lst (nv p.1), .lst (nv p.2)]
noncomputable def aT (r : Run) : V := .lst (r.map cD)
noncomputable def dK : Run → List Nat → Bool
 | [], _ => true
 | p :: r, x :: l => p.1.contains (x / 16) && p.2.contains (x % 16) && dK r l
 | _ :: _, [] => false
noncomputable def aw (run : Run) (row : List Nat) (at' : Int) : Bool := decide (0 ≤ at' ∧ at' + run.length ≤ row.length) && dK run (row.drop at'.toNat)
abbrev Sg := Bool × List (Nat × Nat)
noncomputable def sgV (s : Sg) : V := .tup [.bool s.1, .lst (s.2.map fun p => .tup [.str [p.1], .str [p.2]])]
noncomputable def rsV (r : List Sg) : V := .lst (r.map sgV)
noncomputable def ey (s : Sg) (c : Nat) : Bool := (s.2.any fun p => decide (p.1 ≤ c) && decide (c ≤ p.2)) != s.1
noncomputable def atL : List Sg → List Nat → Bool
 | [], _ => true
 | s :: r, c :: l => ey s c && atL r l
 | _ :: _, [] => false
noncomputable def aY (run : List Sg) (name : List Nat) (at' : Nat) : Bool := decide (at' + run.length ≤ name.length) && atL run (name.drop at')
section
variable {fns : Fns} {cs : List (List V)} {K : V → Prop} {KS : V → St → Prop} {st : St} {loc : List (Option V)}
theorem aV (l : List Nat) : (nv l).length = l.length := by simp [nv]
theorem js {l : List Nat} {i x : Nat} (h : l[i]? = some x) : (nv l)[i]? = some (.int (x : Nat)) := by simp [nv, h]
theorem ku {run : Run} {row : List Nat} {a0 : Nat} {Q : Fl → St → Prop} {tl : List (Option V)} (hl : a0 + run.length ≤ row.length) : ∀ (m a : Nat) (x3 : Option V), a + m = run.length →
  (dK (run.drop a) (row.drop (a0 + a)) = true → ∀ x3, Q .next ⟨some (aT run) :: some (.lst (nv row)) :: some (.int (a0 : Nat)) :: x3 :: tl, cs⟩) →
  (dK (run.drop a) (row.drop (a0 + a)) = false → ∀ x3, Q (.ret (.bool false)) ⟨some (aT run) :: some (.lst (nv row)) :: some (.int (a0 : Nat)) :: x3 :: tl, cs⟩) →
  cf (dO fns 3 l5) Q (nv (List.range' a m)) ⟨some (aT run) :: some (.lst (nv row)) :: some (.int (a0 : Nat)) :: x3 :: tl, cs⟩
 | 0, a, x3, e, h1, h2 => by
  refine cy (h1 ?_ x3)
  rw [List.drop_eq_nil_of_le (xd e)]; rfl
 | m + 1, a, x3, e, h1, h2 => by
  have ha : a < run.length := xc e
  have hb : a0 + a < row.length := xb e hl
  have e1 := List.drop_eq_getElem_cons ha
  have e2 := List.drop_eq_getElem_cons hb
  have g1 : run[a]? = some run[a] := List.getElem?_eq_getElem ha
  have g2 : row[a0 + a]? = some row[a0 + a] := List.getElem?_eq_getElem hb
  generalize run[a] = p at e1 g1
  generalize row[a0 + a] = x at e2 g2
  rw [e1, e2] at h1 h2
  rw [List.range'_succ]
  refine bV ?_
  try dsimp only [List.set]
  unfold l5
  have p1 : (List.map cD run)[a]? = some (cD p) := by rw [List.getElem?_map, g1]; rfl
  repeat k_inBlock
  refine i_l (cs := cs) (n := a0 + a) (js g2) ?_
  repeat k_inBlock
  refine di (j := 16) rfl (by decide) ?_
  repeat k_inBlock
  refine i_l (cs := cs) p1 ?_
  repeat k_inBlock
  refine i_t (cs := cs) (n := 0) rfl ?_
  repeat k_inBlock
  refine kZ ?_
  repeat k_inBlock
  refine dh (fun g => ?_) (fun g => ?_)
  ·repeat k_inBlock
   refine h2 ?_ _
   simp at g
   simp [dK, g]
  ·repeat k_inBlock
   refine i_l (cs := cs) (n := a0 + a) (js g2) ?_
   repeat k_inBlock
   refine bG (j := 16) rfl (by decide) ?_
   repeat k_inBlock
   refine i_l (cs := cs) p1 ?_
   repeat k_inBlock
   refine i_t (cs := cs) (n := 1) rfl ?_
   repeat k_inBlock
   refine kZ ?_
   have g' : p.1.contains (x / 16) = true := by simpa using g
   refine dh (fun k => ?_) (fun k => ?_)
   ·repeat k_inBlock
    refine h2 ?_ _
    have k' : p.2.contains (x % 16) = false := by simpa using k
    unfold dK; rw [g', k']; rfl
   ·have k' : p.2.contains (x % 16) = true := by simpa using k
    have ef : dK (p :: run.drop (a + 1)) (x :: row.drop (a0 + a + 1)) = dK (run.drop (a + 1)) (row.drop (a0 + a + 1)) := by
     rw [dK, g', k']; rfl
    rw [ef] at h1 h2
    repeat k_inBlock
    exact ku hl m (a + 1) _ (xa e) h1 h2
theorem Af {run : Run} {row : List Nat} {a : Int} (hrun : run.length < 1000) (hrow : row.length < 1000) : WSs fns c35 (ba (.bool (aw run row a))) ⟨[some (aT run), some (.lst (nv row)), some (.int a), none, none, none, none, none, none, none, none, none], []⟩ := by
 unfold c35
 repeat k_inBlock
 refine dh (fun g => ?_) (fun g => ?_)
 ·repeat k_inBlock
  simp at g
  have : aw run row a = false := by simp [aw]; intro h; exact (B5 h g).elim
  rw [this]; exact aB rfl
 ·simp at g
  obtain ⟨a, rfl⟩ := Int.eq_ofNat_of_zero_le g
  repeat k_inBlock
  try refine bj ?_
  repeat k_inBlock
  refine dh (fun g => ?_) (fun g => ?_)
  ·repeat k_inBlock
   simp [aV] at g
   have : aw run row a = false := by simp [aw]; intro h; exact (B4 h g).elim
   rw [this]; exact aB rfl
  ·simp [aV] at g
   repeat k_inBlock
   refine cQ ?_
   unfold qZ
   repeat k_inBlock
   try refine bj ?_
   repeat k_inBlock
   rw [List.length_map]
   repeat k_inBlock
   refine jq ⟨cN (rW hrun), ?_⟩
   repeat k_inBlock
   refine bZ (gZ _) ⟨by rw [aV, List.length_range]; show run.length ≤ 1000000; exact iA hrun, ?_⟩
   rw [List.range_eq_range']
   refine ku (rV g) _ 0 _ (w9) (fun h x3 => ?_) (fun h x3 => ?_)
   ·repeat k_inBlock
    have : aw run row a = true := by
     simp [aw]; exact ⟨B3 g, h⟩
    rw [this]; exact aB rfl
   ·repeat k_inBlock
    have : aw run row a = false := by
     have h' : dK run (List.drop a row) = false := h
     simp [aw, h']
    rw [this]; exact aB rfl
end
section
variable {fns : Fns} {cs : List (List V)} {K : V → Prop} {KS : V → St → Prop} {st : St} {loc : List (Option V)}
noncomputable def prV (p : Nat × Nat) : V := .tup [.str [p.1], .str [p.2]]
noncomputable def uX (two : Bool) (slot : Nat) (x : V) (loc : List (Option V)) (P : List (Option V) → Prop) : Prop := cu (bindC two slot x loc) P
theorem Ag {slot : Nat} {a b : V} {P : List (Option V) → Prop} (h : P ((loc.set slot (some a)).set (slot + 1) (some b))) : uX true slot (.tup [a, b]) loc P := h
theorem wi {slot : Nat} {elt iter : X} {ifs : List X} (h : WE fns iter (fun v st => gx v (fun items => items.length ≤ lim ∧ bC (fun x K' cs => uX true slot x st.loc fun loc => WTs fns ifs (fun b st' => if b = true then WE fns elt (fun y st'' => K' (some y) st''.cells) st' else K' Option.none st'.cells) ⟨loc, cs⟩) items [] (fun l cs => KS (.lst l) ⟨st.loc, cs⟩) st.cells)) st) : WE fns (.comp true slot elt iter ifs) KS st := h
theorem lt1 {a b : Nat} : decide ([a] < [b]) = decide (a < b) := by
 by_cases h : a < b
 ·rw [decide_eq_true h]; exact decide_eq_true (List.Lex.rel h)
 ·rw [decide_eq_false h]
  refine decide_eq_false fun q => ?_
  cases q with
  | rel h' => exact h h'
  | cons h' => cases h'
theorem rf {α : Type} (p : α → Bool) (v : V) : ∀ l : List α, (l.filterMap (fun a => if p a = true then some v else Option.none)).isEmpty = !l.any p
 | [] => rfl
 | a :: r => by
  rw [List.filterMap_cons, List.any_cons]
  cases h : p a
  ·simpa [h] using rf p v r
  ·simp
noncomputable def ch? : V → Option Nat
 | .str x => sq x
 | _ => Option.none
noncomputable def mn (c : Nat) (v : V) : Option V := (kN v).bind fun t => (ch? t.1).bind fun p => (ch? t.2).bind fun q => if (decide (p ≤ c) && decide (c ≤ q)) = true then some (.int 1) else Option.none
theorem Ah {c p q : Nat} (h : p ≤ c) (h' : c ≤ q) : mn c (.tup [.str [p], .str [q]]) = some (.int 1) := if_pos (by rw [decide_eq_true h, decide_eq_true h']; rfl)
theorem Ai {c p q : Nat} (h : ¬ p ≤ c) : mn c (.tup [.str [p], .str [q]]) = Option.none := if_neg (by rw [decide_eq_false h]; exact aH)
theorem Aj {c p q : Nat} (h : ¬ c ≤ q) : mn c (.tup [.str [p], .str [q]]) = Option.none := if_neg (by rw [decide_eq_false h, Bool.and_false]; exact aH)
theorem nJ {run : List Sg} {name : List Nat} {a0 : Nat} {Q : Fl → St → Prop} {x6 x7 : Option V} {tl : List (Option V)} (hl : a0 + run.length ≤ name.length) (hp : ∀ s ∈ run, s.2.length ≤ 100) : ∀ (m a : Nat) (x3 x4 x5 : Option V) (cs : List (List V)), a + m = run.length →
  (atL (run.drop a) (name.drop (a0 + a)) = true → ∀ x3 x4 x5 cs, Q .next ⟨some (rsV run) :: some (.str name) :: some (.int (a0 : Nat)) :: x3 :: x4 :: x5 :: x6 :: x7 :: tl, cs⟩) →
  (atL (run.drop a) (name.drop (a0 + a)) = false → ∀ x3 x4 x5 cs, Q (.ret (.bool false)) ⟨some (rsV run) :: some (.str name) :: some (.int (a0 : Nat)) :: x3 :: x4 :: x5 :: x6 :: x7 :: tl, cs⟩) →
  cf (dO fns 3 lZ) Q (nv (List.range' a m)) ⟨some (rsV run) :: some (.str name) :: some (.int (a0 : Nat)) :: x3 :: x4 :: x5 :: x6 :: x7 :: tl, cs⟩
 | 0, a, x3, x4, x5, cs, e, h1, h2 => by
  refine cy (h1 ?_ x3 x4 x5 cs)
  rw [List.drop_eq_nil_of_le (xd e)]; rfl
 | m + 1, a, x3, x4, x5, cs, e, h1, h2 => by
  have ha : a < run.length := xc e
  have hb : a0 + a < name.length := xb e hl
  have e1 := List.drop_eq_getElem_cons ha
  have e2 := List.drop_eq_getElem_cons hb
  have g1 : run[a]? = some run[a] := List.getElem?_eq_getElem ha
  have g2 : name[a0 + a]? = some name[a0 + a] := List.getElem?_eq_getElem hb
  have hs := hp run[a] (List.getElem_mem ha)
  generalize run[a] = s at e1 g1 hs
  generalize name[a0 + a] = c at e2 g2
  rw [e1, e2] at h1 h2
  rw [List.range'_succ]
  refine bV ?_
  unfold lZ
  have p1 : (List.map sgV run)[a]? = some (sgV s) := by rw [List.getElem?_map, g1]; rfl
  repeat k_inBlock
  refine i_l (cs := cs) p1 ?_
  repeat k_inBlock
  try refine GA ?_
  repeat k_inBlock
  try dsimp only [List.set]
  refine wi ?_
  repeat k_inBlock
  refine bZ rfl ⟨by rw [List.length_map]; show s.2.length ≤ 1000000; exact rT hs, ?_⟩
  repeat k_inBlock
  refine fk (R := (· = cs)) (mn c) _ _ _ _ ?_ rfl ?_
  ·rintro x hx K cs' rfl k
   obtain ⟨⟨p, q⟩, hpq, rfl⟩ := List.mem_map.1 hx
   refine Ag ?_
   repeat k_inBlock
   refine i_s (n := a0 + a) g2 ?_
   repeat k_inBlock
   rw [lt1]
   have k' := k cs' rfl
   refine dh (fun g => ?_) (fun g => ?_)
   ·repeat k_inBlock
    rw [lt1]
    simp at g
    by_cases g3 : c ≤ q
    ·repeat k_inBlock
     refine af (by simp; exact k8 g3) ?_
     repeat k_inBlock
     rw [Ah (by omega) g3] at k'
     exact k'
    ·repeat k_inBlock
     refine ai (by simp; exact k9 g3) ?_
     repeat k_inBlock
     rw [Aj g3] at k'
     exact k'
   ·simp at g
    repeat k_inBlock
    rw [Ai (by omega)] at k'
    exact k'
  ·rintro cs' rfl
   have fm : (List.map (fun p => V.tup [.str [p.1], .str [p.2]]) s.2).filterMap (mn c) = s.2.filterMap (fun p => if (decide (p.1 ≤ c) && decide (c ≤ p.2)) = true then some (V.int 1) else Option.none) := by
    rw [List.filterMap_map]; rfl
   rw [fm, List.nil_append]
   try refine zZ ?_
   repeat k_inBlock
   refine pK (by simp) ?_
   have fl := rf (fun p : Nat × Nat => decide (p.1 ≤ c) && decide (c ≤ p.2)) (.int 1) s.2
   rw [fl]
   repeat k_inBlock
   have hit : ey s c = ((s.2.any fun p => decide (p.1 ≤ c) && decide (c ≤ p.2)) != s.1) := rfl
   generalize (s.2.any fun p => decide (p.1 ≤ c) && decide (c ≤ p.2)) = t at *
   refine dh (fun g => ?_) (fun g => ?_)
   ·repeat k_inBlock
    refine h2 ?_ _ _ _ _
    have : ey s c = false := by rw [hit]; cases t <;> cases hq : s.1 <;> simp_all
    rw [atL, this]; rfl
   ·have : ey s c = true := by rw [hit]; cases t <;> cases hq : s.1 <;> simp_all
    have ef : atL (s :: run.drop (a + 1)) (c :: name.drop (a0 + a + 1)) = atL (run.drop (a + 1)) (name.drop (a0 + a + 1)) := by
     rw [atL, this]; rfl
    rw [ef] at h1 h2
    repeat k_inBlock
    exact nJ hl hp m (a + 1) _ _ _ _ (xa e) h1 h2
theorem GE {run : List Sg} {name : List Nat} {a : Nat} (hrun : run.length < 1000) (hname : name.length < 1000) (hp : ∀ s ∈ run, s.2.length ≤ 100) : WSs fns c33 (ba (.bool (aY run name a))) ⟨[some (rsV run), some (.str name), some (.int (a : Nat)), none, none, none, none, none, none, none, none, none, none, none], []⟩ := by
 unfold c33
 repeat k_inBlock
 try refine bj ?_
 repeat k_inBlock
 refine dh (fun g => ?_) (fun g => ?_)
 ·repeat k_inBlock
  simp at g
  have : aY run name a = false := by simp [aY]; intro h; exact (B6 g h).elim
  rw [this]; exact aB rfl
 ·simp at g
  repeat k_inBlock
  refine cQ ?_
  unfold qX
  repeat k_inBlock
  try refine bj ?_
  repeat k_inBlock
  rw [List.length_map]
  repeat k_inBlock
  refine jq ⟨cN (rW hrun), ?_⟩
  repeat k_inBlock
  refine bZ (gZ _) ⟨by rw [aV, List.length_range]; show run.length ≤ 1000000; exact iA hrun, ?_⟩
  rw [List.range_eq_range']
  refine nJ (rV g) hp _ 0 _ _ _ _ (w9) (fun h x3 x4 x5 cs => ?_) (fun h x3 x4 x5 cs => ?_)
  ·repeat k_inBlock
   have : aY run name a = true := by
    simp [aY]; exact ⟨rV g, h⟩
   rw [this]; exact aB rfl
  ·repeat k_inBlock
   have : aY run name a = false := by
    have h' : atL run (List.drop a name) = false := h
    simp [aY, h']
   rw [this]; exact aB rfl
end
noncomputable def cI (run : List Sg) (name : List Nat) : Nat → Nat → Option Nat
 | 0, _ => Option.none
 | f + 1, here => if here + run.length ≤ name.length then (if aY run name here then some here else cI run name f (here + 1)) else Option.none
noncomputable def bz (name : List Nat) : List (List Sg) → Nat → Option (List (List Nat) × Nat)
 | [], a => some ([], a)
 | r :: rs, a => match cI r name (name.length + 1) a with
  | Option.none => Option.none
  | some h => match bz name rs (h + r.length) with
   | Option.none => Option.none
   | some (l, e) => some ((name.take h).drop a :: l, e)
noncomputable def cU (r : List Sg) (name : List Nat) : Option (List (List Nat)) := if aY r name 0 = true ∧ r.length = name.length then some [] else Option.none
noncomputable def bR (r0 : List Sg) (mids : List (List Sg)) (rl : List Sg) (name : List Nat) : Option (List (List Nat)) :=
 if aY r0 name 0 = true then
  match bz name mids r0.length with
  | Option.none => Option.none
  | some (l, e) => if e + rl.length ≤ name.length ∧ aY rl name (name.length - rl.length) = true then some (l ++ [(name.take (name.length - rl.length)).drop e]) else Option.none
 else Option.none
noncomputable def fq : Option (List V) → V
 | Option.none => .none
 | some l => .lst l
noncomputable def stL (l : List (List Nat)) : List V := l.map V.str
section
variable {fns : Fns} {cs : List (List V)} {K : V → Prop} {KS : V → St → Prop} {st : St} {loc : List (Option V)}
theorem rg (s : Sg) : (sgV s).fz = true := bD rfl (bD (dF _ (fun _ => rfl) _) rfl)
theorem ri (r : List Sg) : (rsV r).fz = true := dF _ rg _
theorem wj (l : List (List Nat)) : V.fz.fzs (stL l) = true := dF _ (fun _ => rfl) _
theorem cons_cast {a : Nat} : ((a : Nat) : Int) + 1 = ((a + 1 : Nat) : Int) := rfl
noncomputable def g8 (fns : Fns) (name : List Nat) (r : List Sg) : Prop := ∀ a : Nat, fns 10 [rsV r, .str name, .int (a : Nat)] (.bool (aY r name a))
theorem ig {r : List Sg} {name : List Nat} {a : Nat} {KI : Bool → Prop} (h : g8 fns name r) (k : KI (aY r name a)) : bB fns cs (.fn 10) [rsV r, .str name, .int (a : Nat)] (fun v => ae (bE cs v) KI) := by
 exact dz ⟨bD (ri r) rfl, _, h a, r_b k⟩
theorem rm {run : List Sg} {name : List Nat} {Q : Fl → St → Prop} {x0 x2 x3 x6 : Option V} {tl : List (Option V)} (hat : g8 fns name run) : ∀ (f here : Nat), name.length + 1 ≤ f + here →
  (∀ h', cI run name f here = some h' → h' + run.length ≤ name.length → Q .next ⟨x0 :: some (.str name) :: x2 :: x3 :: some (rsV run) :: some (.int (h' : Nat)) :: x6 :: tl, cs⟩) →
  (cI run name f here = Option.none → ∀ h' : Nat, name.length < h' + run.length → Q .next ⟨x0 :: some (.str name) :: x2 :: x3 :: some (rsV run) :: some (.int (h' : Nat)) :: x6 :: tl, cs⟩) →
  aC (WT fns jh) (WSs fns l3) Q (f + 1) ⟨x0 :: some (.str name) :: x2 :: x3 :: some (rsV run) :: some (.int (here : Nat)) :: x6 :: tl, cs⟩ := by
 intro f
 induction f with
 | zero =>
  intro here hf h1 h2
  refine ad ?_
  unfold jh
  repeat k_inBlock
  try refine bj ?_
  repeat k_inBlock
  refine ai (by simp; exact Cj hf) ?_
  repeat k_inBlock
  exact h2 rfl _ (Ci hf)
 | succ f ih =>
  intro here hf h1 h2
  refine ad ?_
  have hu : jh = (((X.bin Operator.Add (X.loc 5) (X.call G.len [X.loc 4])).cmp CmpOp.LtE (X.call G.len [X.loc 1])).and (X.call (G.fn 10) [X.loc 4, X.loc 1, X.loc 5]).not) := rfl
  rw [hu]
  repeat k_inBlock
  try refine bj ?_
  repeat k_inBlock
  by_cases hle : here + run.length ≤ name.length
  ·repeat k_inBlock
   refine af (by simp; exact xj hle) ?_
   repeat k_inBlock
   refine ig hat ?_
   cases hl : aY run name here
   ·repeat k_inBlock
    have hb : l3 = [S.aug 5 Operator.Add (X.cst (V.int (1)))] := rfl
    rw [hb]
    repeat k_inBlock
    refine ih (here + 1) (xk hf) (fun h' e => h1 h' ?_) (fun e => h2 ?_)
    ·rw [cI, if_pos hle, hl]; exact e
    ·rw [cI, if_pos hle, hl]; exact e
   ·repeat k_inBlock
    refine h1 _ ?_ hle
    rw [cI, if_pos hle, hl]; rfl
  ·repeat k_inBlock
   refine ai (by simp; exact Ch hle) ?_
   repeat k_inBlock
   refine h2 ?_ _ (Cg hle)
   rw [cI, if_neg hle]
theorem m5 {name : List Nat} {Q : Fl → St → Prop} {x0 x6 : Option V} {tl : List (Option V)} (hn : name.length < 1000) : ∀ (mids : List (List Sg)) (a : Nat) (acc : List V) (x4 x5 : Option V), (∀ r ∈ mids, g8 fns name r) → acc.length + mids.length < 1000 → a < 100000 →
  (∀ l e, bz name mids a = some (l, e) → ∀ x4 x5, Q .next ⟨x0 :: some (.str name) :: some (.int (e : Nat)) :: some (.cell 0) :: x4 :: x5 :: x6 :: tl, [acc ++ stL l]⟩) →
  (bz name mids a = Option.none → ∀ st, Q (.ret .none) st) →
  cf (dO fns 4 l4) Q (mids.map rsV) ⟨x0 :: some (.str name) :: some (.int (a : Nat)) :: some (.cell 0) :: x4 :: x5 :: x6 :: tl, [acc]⟩ := by
 intro mids
 induction mids with
 | nil =>
  intro a acc x4 x5 hat hlen ha h1 h2
  refine cy ?_
  have := h1 [] a rfl x4 x5
  simpa [stL] using this
 | cons r rs ih =>
  intro a acc x4 x5 hat hlen ha h1 h2
  rw [List.map_cons]
  refine bV ?_
  conv => enter [2]; unfold l4
  repeat k_inBlock
  refine bN (name.length + 1 + 1) ?_
  try dsimp only [List.set]
  refine rm (hat r (by simp)) (name.length + 1) a (Cf ha) (fun h' e hle => ?_) (fun e h' hlt => ?_)
  ·repeat k_inBlock
   try refine bj ?_
   repeat k_inBlock
   refine ai (by simp; exact xj hle) ?_
   repeat k_inBlock
   refine aD rfl rfl (aa (rZ ha)) (aa (Ce hle hn)) ?_
   rw [eD]
   repeat k_inBlock
   refine aK rfl ⟨by show acc.length < 1000000; simp at hlen; exact xi hlen, ?_⟩
   repeat k_inBlock
   try refine bj ?_
   repeat k_inBlock
   rw [List.length_map]
   try dsimp only [List.set]
   refine ih (h' + r.length) (acc ++ [.str ((name.take h').drop a)]) _ _ (fun r' hr' => hat r' (by simp [hr'])) (by simp at hlen ⊢; exact rY hlen) (Cd hle hn) (fun l e' hs x4 x5 => ?_) (fun hs => ?_)
   ·have := h1 (((name.take h').drop a) :: l) e' (by rw [bz, e]; simp only [hs]) x4 x5
    simpa [stL] using this
   ·refine h2 ?_
    rw [bz, e]; simp only [hs]
  ·repeat k_inBlock
   try refine bj ?_
   repeat k_inBlock
   refine af (by simp; exact Cc hlt) ?_
   repeat k_inBlock
   refine h2 ?_ _
   rw [bz, e]
theorem rn {r : List Sg} {name : List Nat} (h : g8 fns name r) : WSs fns c34 (ba (fq ((cU r name).map stL))) ⟨[some (.lst [rsV r]), some (.str name), none, none, none, none, none, none, none, none, none, none, none, none, none], []⟩ := by
 unfold c34
 repeat k_inBlock
 refine i_l (cs := []) (n := 0) rfl ?_
 repeat k_inBlock
 refine ig (a := 0) h ?_
 cases hl : aY r name 0
 ·repeat k_inBlock
  rw [show cU r name = Option.none by simp [cU, hl]]
  exact aB rfl
 ·repeat k_inBlock
  repeat k_inBlock
  repeat k_inBlock
  refine i_l (cs := []) (n := 0) rfl ?_
  repeat k_inBlock
  try refine bj ?_
  repeat k_inBlock
  rw [List.length_map]
  by_cases e : r.length = name.length
  ·repeat k_inBlock
   refine af (by simp; exact n4 e) ?_
   repeat k_inBlock
   rw [show cU r name = some [] by simp [cU, hl, e]]
   exact ⟨_, 2, rfl, rfl⟩
  ·repeat k_inBlock
   refine ai (by simp; exact nZ e) ?_
   repeat k_inBlock
   rw [show cU r name = Option.none by simp [cU, e]]
   exact aB rfl
theorem gN {name : List Nat} : ∀ {mids : List (List Sg)} {a : Nat} {l : List (List Nat)} {e : Nat}, bz name mids a = some (l, e) → l.length = mids.length
 | [], a, l, e, h => by cases h; rfl
 | r :: rs, a, l, e, h => by
  rw [bz] at h
  split at h
  ·exact ab h
  ·split at h
   ·exact ab h
   ·rename_i h2; cases h; simp [gN h2]
theorem rp {r0 rl : List Sg} {mids : List (List Sg)} {name : List Nat} (hn : name.length < 1000) (hm : mids.length < 500) (h0 : g8 fns name r0) (h1 : g8 fns name rl) (h2 : ∀ r ∈ mids, g8 fns name r) (h3 : r0.length < 1000) :
  WSs fns c34 (ba (fq ((bR r0 mids rl name).map stL))) ⟨[some (.lst (rsV r0 :: (mids.map rsV ++ [rsV rl]))), some (.str name), none, none, none, none, none, none, none, none, none, none, none, none, none], []⟩ := by
 unfold c34
 repeat k_inBlock
 refine i_l (cs := []) (n := 0) rfl ?_
 repeat k_inBlock
 refine ig (a := 0) h0 ?_
 cases hl : aY r0 name 0
 ·repeat k_inBlock
  rw [show bR r0 mids rl name = Option.none by simp [bR, hl]]
  exact aB rfl
 ·repeat k_inBlock
  repeat k_inBlock
  refine ai (by simp; exact xh hm) ?_
  repeat k_inBlock
  refine i_l (cs := []) (n := 0) rfl ?_
  repeat k_inBlock
  try refine bj ?_
  repeat k_inBlock
  try dsimp only [List.set]
  refine cQ ?_
  unfold qY
  repeat k_inBlock
  refine iH rfl rfl (aa (by decide)) (aa (by decide)) ?_
  rw [j8]
  repeat k_inBlock
  refine bZ rfl ⟨by rw [List.length_map]; show mids.length ≤ 1000000; exact rX hm, ?_⟩
  rw [List.length_map]
  refine m5 hn mids r0.length [] _ _ h2 (by simp; exact xg hm) (xf h3) (fun l e hs x4 x5 => ?_) (fun hs st => ?_)
  ·have last : (.lst (rsV r0 :: (mids.map rsV ++ [rsV rl])) : V) = .lst ((rsV r0 :: mids.map rsV) ++ [rsV rl]) := rfl
   rw [last]
   repeat k_inBlock
   refine mf ?_
   repeat k_inBlock
   try refine bj ?_
   repeat k_inBlock
   rw [List.length_map]
   by_cases g : e + rl.length ≤ name.length
   ·repeat k_inBlock
    refine ai (by simp; exact Cb g) ?_
    repeat k_inBlock
    refine mf ?_
    repeat k_inBlock
    have en : ((name.length : Int) - (rl.length : Int)) = ((name.length - rl.length : Nat) : Int) := Ca g
    rw [en]
    refine ig h1 ?_
    cases hq : aY rl name (name.length - rl.length)
    ·repeat k_inBlock
     rw [show bR r0 mids rl name = Option.none by simp [bR, hl, hs, hq]]
     exact aB rfl
    ·repeat k_inBlock
     repeat k_inBlock
     refine aD rfl rfl (aa (B9 en g hn)) (aa (B8 en hn)) ?_
     rw [eD]
     repeat k_inBlock
     refine q7 rfl ⟨?_, ?_⟩
     ·have := gN hs
      simp [stL]; show l.length + 1 ≤ 1000000; exact xe hm this
     rw [show bR r0 mids rl name = some (l ++ [(name.take (name.length - rl.length)).drop e]) by simp [bR, hl, hs, hq, g]]
     have : ([] ++ stL l ++ [V.str ((name.take (name.length - rl.length)).drop e)]) = stL (l ++ [(name.take (name.length - rl.length)).drop e]) := by simp [stL]
     rw [this]
     exact aB (wj _)
   ·repeat k_inBlock
    refine af (by simp; exact B7 g) ?_
    repeat k_inBlock
    rw [show bR r0 mids rl name = Option.none by simp [bR, hl, hs, g]]
    exact aB rfl
  ·repeat k_inBlock
   rw [show bR r0 mids rl name = Option.none by simp [bR, hl, hs]]
   exact aB rfl
end
noncomputable def cR (l : List Nat) : List Int := l.map fun (n : Nat) => (n : Int)
noncomputable def dG (r : Run) (row : List Nat) (late : Int) : Int := aW (-1) (cR ((List.range (late - r.length + 1).toNat).filter fun k => aw r row (k : Nat)))
noncomputable def ez (row : List Nat) : List Run → Int → Int
 | [], l => l
 | r :: rs, l => ez row rs (dG r row l)
noncomputable def dH (r : Run) (row : List Nat) (a : Nat) : Option Nat := ((List.range' a (row.length - a)).filter fun k => aw r row (k : Nat)).head?
noncomputable def be (row : List Nat) : List Run → Nat → Option (List (List Nat) × Nat)
 | [], a => some ([], a)
 | r :: rs, a => match dH r row a with
  | Option.none => Option.none
  | some h => match be row rs (h + r.length) with
   | Option.none => Option.none
   | some (l, e) => some ((row.take h).drop a :: l, e)
noncomputable def dL (r : Run) (row : List Nat) : Option (List (List Nat)) := if aw r row 0 = true ∧ r.length = row.length then some [] else Option.none
noncomputable def cO (r0 : Run) (mids : List Run) (rl : Run) (row : List Nat) : Option (List (List Nat)) :=
 if aw r0 row 0 = true ∧ aw rl row ((row.length : Int) - rl.length) = true ∧ (r0.length : Int) ≤ ez row mids.reverse ((row.length : Int) - rl.length) then
  match be row mids r0.length with
  | Option.none => Option.none
  | some (l, e) => some (l ++ [(row.take (row.length - rl.length)).drop e])
 else Option.none
noncomputable def nvL (l : List (List Nat)) : List V := l.map fun x => .lst (nv x)
section
variable {fns : Fns} {cs : List (List V)} {K : V → Prop} {KS : V → St → Prop} {st : St} {loc : List (Option V)}
noncomputable def eR (fns : Fns) (row : List Nat) (r : Run) : Prop := ∀ a : Int, fns 12 [aT r, .lst (nv row), .int a] (.bool (aw r row a))
theorem mo (p : List Nat × List Nat) : (cD p).fz = true := bD (dj _) (bD (dj _) rfl)
theorem nK (r : Run) : (aT r).fz = true := dF _ mo _
theorem wk (l : List (List Nat)) : V.fz.fzs (nvL l) = true := dF (fun x => V.lst (nv x)) (fun x => dj x) _
theorem gz {r : Run} {row : List Nat} {a : Int} {KI : Bool → Prop} (h : eR fns row r) (k : KI (aw r row a)) : bB fns cs (.fn 12) [aT r, .lst (nv row), .int a] (fun v => ae (bE cs v) KI) := by
 exact dz ⟨bD (nK r) (bD (dj row) rfl), _, h a, r_b k⟩
theorem j9 : ∀ l : List Nat, bX (nv l) = some (cR l)
 | [] => rfl
 | a :: r => by
  show (bX (nv r)).map _ = _
  rw [j9 r]; rfl
theorem Bg {x : Int} {l : List Nat} (h : K (.int (aW x (cR l)))) : bB fns cs .max [.lst ([.int x] ++ nv l)] K := by
 have : (aE cs (.lst ([.int x] ++ nv l))).bind bX = some (x :: cR l) := by
  show (bX (nv l)).map _ = _
  rw [j9]; rfl
 exact bh (o := (aE cs (.lst ([.int x] ++ nv l))).bind bX) (x := x :: cR l) (K := fun l => hd? l fun x r => K (.int (aW x r))) this h
theorem g9 : ∀ (l : List Nat) (m : Nat), (∀ y ∈ l, m ≤ y) → bJ (m : Int) (cR l) = m
 | [], m, _ => rfl
 | a :: r, m, h => by
  have h1 := h a (by simp)
  show bJ (if (a : Int) < m then (a : Int) else m) (cR r) = m
  rw [if_neg (CC h1)]
  exact g9 r m fun y hy => h y (by simp [hy])
theorem Bh {m : Nat} {l : List Nat} (hl : ∀ y ∈ l, m ≤ y) (h : K (.int (m : Nat))) : bB fns cs .min [.lst (nv (m :: l))] K := by
 have : (aE cs (.lst (nv (m :: l)))).bind bX = some ((m : Int) :: cR l) := by
  show bX (nv (m :: l)) = _
  rw [j9]; rfl
 refine bh (o := (aE cs (.lst (nv (m :: l)))).bind bX) (x := (m : Int) :: cR l) (K := fun l => hd? l fun x r => K (.int (bJ x r))) this ?_
 show K (.int (bJ m (cR l)))
 rw [g9 l m hl]; exact h
theorem pN (j : Int) : cw (.rng 0 j 1) = some (nv (List.range j.toNat)) := by
 simp [cw, cW, nv]
theorem m6 (a b : Nat) : cw (.rng (a : Nat) (b : Nat) 1) = some (nv (List.range' a (b - a))) := by
 have : ((b : Int) - (a : Int)).toNat = b - a := CB
 simp only [cw, cW, if_pos, nv, this, List.map_map]
 rw [List.range'_eq_map_range, List.map_map]
 congr 1
theorem mq {r : Run} {row : List Nat} {x0 x2 x4 x5 x6 x7 : Option V} {tl : List (Option V)} {l : List Nat} (h : eR fns row r) {K : List V → List (List V) → Prop} (q : K (nv (l.filter fun k => aw r row (k : Nat))) cs) :
  bC (ew fns 7 (X.loc 7) [X.call (G.fn 12) [X.loc 3, X.loc 1, X.loc 7]] (x0 :: some (.lst (nv row)) :: x2 :: some (aT r) :: x4 :: x5 :: x6 :: x7 :: tl)) (nv l) [] K cs := by
 refine fF (R := (· = cs)) (fun n => if aw r row (n : Nat) = true then some (V.int (n : Int)) else Option.none) l K cs ?_ rfl ?_
 ·rintro n hn K cs' rfl k
  have k' := k cs' rfl
  repeat k_inBlock
  refine gz h ?_
  cases hf : aw r row (n : Nat)
  ·repeat k_inBlock
   rw [hf] at k'; exact k'
  ·repeat k_inBlock
   rw [hf] at k'; exact k'
 ·rintro cs' rfl
  rw [kt (fun n => aw r row (n : Nat))]; exact q
theorem fO : ∀ (l : List Int) (m : Int), aW m l = m ∨ aW m l ∈ l
 | [], m => .inl rfl
 | a :: r, m => by
  show aW (if m < a then a else m) r = m ∨ aW (if m < a then a else m) r ∈ a :: r
  rcases fO r (if m < a then a else m) with h | h
  ·rw [h]
   by_cases q : m < a
   ·rw [if_pos q]; exact .inr (by simp)
   ·rw [if_neg q]; exact .inl rfl
  ·exact .inr (by simp [h])
theorem gG : ∀ (l : List Int) (m : Int), m ≤ aW m l ∧ ∀ y ∈ l, y ≤ aW m l
 | [], m => ⟨Int.le_refl _, fun y h => (by cases h)⟩
 | a :: r, m => by
  show m ≤ aW (if m < a then a else m) r ∧ ∀ y ∈ a :: r, y ≤ aW (if m < a then a else m) r
  obtain ⟨h1, h2⟩ := gG r (if m < a then a else m)
  by_cases q : m < a
  ·rw [if_pos q] at h1 h2 ⊢
   refine ⟨o61 q h1, fun y hy => ?_⟩
   rcases List.mem_cons.1 hy with rfl | hy
   ·exact h1
   ·exact h2 y hy
  ·rw [if_neg q] at h1 h2 ⊢
   refine ⟨h1, fun y hy => ?_⟩
   rcases List.mem_cons.1 hy with rfl | hy
   ·exact o60 h1 q
   ·exact h2 y hy
theorem rq {r : Run} {row : List Nat} {late : Int} (hl : -1 ≤ late) : dG r row late ≤ late ∧ -1 ≤ dG r row late := by
 unfold dG
 refine ⟨?_, (gG _ _).1⟩
 rcases fO (cR ((List.range (late - r.length + 1).toNat).filter fun k => aw r row (k : Nat))) (-1) with h | h
 ·rw [h]; exact hl
 ·obtain ⟨k, hk, e⟩ := List.mem_map.1 h
  have := List.mem_range.1 (List.mem_filter.1 hk).1
  rw [← e]; exact CA e this
theorem rr {row : List Nat} {Q : Fl → St → Prop} {x0 x4 x5 x6 x7 : Option V} {tl : List (Option V)} (hn : row.length < 1000) : ∀ (rs : List Run) (late : Int) (x3 : Option V), (∀ r ∈ rs, eR fns row r) → late ≤ 1000 → -1 ≤ late → (∀ r ∈ rs, r.length < 1000) →
  (∀ x3, Q .next ⟨x0 :: some (.lst (nv row)) :: some (.int (ez row rs late)) :: x3 :: x4 :: x5 :: x6 :: x7 :: tl, cs⟩) →
  cf (dO fns 3 l7) Q (rs.map aT) ⟨x0 :: some (.lst (nv row)) :: some (.int late) :: x3 :: x4 :: x5 :: x6 :: x7 :: tl, cs⟩ := by
 intro rs
 induction rs with
 | nil => intro late x3 h hl hl' hr q; exact cy (q x3)
 | cons r rs ih =>
  intro late x3 h hl hl' hr q
  rw [List.map_cons]
  refine bV ?_
  conv => enter [2]; unfold l7
  repeat k_inBlock
  repeat k_inBlock
  try refine bj ?_
  repeat k_inBlock
  rw [List.length_map]
  have hr1 := hr r (by simp)
  refine jq ⟨bw (Cz hl' hr1 hl), ?_⟩
  repeat k_inBlock
  refine bZ (pN _) ⟨by rw [aV, List.length_range]; show _ ≤ 1000000; exact Cy hl' hr1 hl, ?_⟩
  refine mq (x7 := x7) (h r (by simp)) ?_
  repeat k_inBlock
  refine jp ⟨?_, ?_⟩
  ·rw [aV]
   have := List.length_filter_le (fun k => aw r row (k : Nat)) (List.range (late - (r.length : Int) + 1).toNat)
   rw [List.length_range] at this
   show 1 + _ ≤ 1000000; exact Cw hl' hr1 this hl
  repeat k_inBlock
  refine Bg ?_
  repeat k_inBlock
  try dsimp only [List.set]
  have hm := rq (r := r) (row := row) hl'
  exact ih (dG r row late) _ (fun r' hr' => h r' (by simp [hr'])) (Cv hl' hm hl) hm.2 (fun r' hr' => hr r' (by simp [hr'])) q
theorem fQ {row : List Nat} : ∀ {mids : List Run} {a : Nat} {l : List (List Nat)} {e : Nat}, be row mids a = some (l, e) → l.length = mids.length
 | [], a, l, e, h => by cases h; rfl
 | r :: rs, a, l, e, h => by
  rw [be] at h
  split at h
  ·exact ab h
  ·split at h
   ·exact ab h
   ·rename_i h2; cases h; simp [fQ h2]
theorem rt {row : List Nat} {Q : Fl → St → Prop} {x0 x2 x7 : Option V} {tl : List (Option V)} (hn : row.length < 1000) : ∀ (mids : List Run) (a : Nat) (acc : List V) (x3 x6 : Option V) (l : List (List Nat)) (e : Nat), (∀ r ∈ mids, eR fns row r) → acc.length + mids.length < 1000 → a < 100000 →
  be row mids a = some (l, e) →
  (∀ x3 x6, Q .next ⟨x0 :: some (.lst (nv row)) :: x2 :: x3 :: some (.cell 0) :: some (.int (e : Nat)) :: x6 :: x7 :: tl, [acc ++ nvL l]⟩) →
  cf (dO fns 3 l6) Q (mids.map aT) ⟨x0 :: some (.lst (nv row)) :: x2 :: x3 :: some (.cell 0) :: some (.int (a : Nat)) :: x6 :: x7 :: tl, [acc]⟩ := by
 intro mids
 induction mids with
 | nil =>
  intro a acc x3 x6 l e h hlen ha hm q
  cases hm
  refine cy ?_
  simpa [nvL] using q x3 x6
 | cons r rs ih =>
  intro a acc x3 x6 l e h hlen ha hm q
  rw [be] at hm
  split at hm
  ·exact ab hm
  rename_i h1 hh1
  split at hm
  ·exact ab hm
  rename_i l' e' hm'
  cases hm
  have hfl : ∃ t, (List.range' a (row.length - a)).filter (fun k => aw r row (k : Nat)) = h1 :: t := by
   unfold dH at hh1
   cases hq : (List.range' a (row.length - a)).filter (fun k => aw r row (k : Nat)) with
   | nil => rw [hq] at hh1; exact ab hh1
   | cons b t => rw [hq] at hh1; obtain rfl := Option.some.inj hh1; exact ⟨t, rfl⟩
  obtain ⟨t, ht⟩ := hfl
  have hsort : ∀ y ∈ t, h1 ≤ y := by
   have s1 : (List.range' a (row.length - a)).Pairwise (· < ·) := List.pairwise_lt_range'
   have s2 := s1.sublist (List.filter_sublist (p := fun k => aw r row (k : Nat)))
   rw [ht] at s2
   intro y hy
   exact Nat.le_of_lt ((List.pairwise_cons.1 s2).1 y hy)
  have hb : h1 < 1000 ∧ h1 + r.length ≤ 1000 := by
   have hm1 : h1 ∈ (List.range' a (row.length - a)).filter (fun k => aw r row (k : Nat)) := by rw [ht]; simp
   have hm2 := List.mem_filter.1 hm1
   have hm3 := hm2.2
   have hm4 := List.mem_range'_1.1 hm2.1
   simp [aw] at hm3
   omega
  rw [List.map_cons]
  refine bV ?_
  conv => enter [2]; unfold l6
  repeat k_inBlock
  repeat k_inBlock
  refine Aa ⟨cN (Cu ha), cN (by rw [aV]; exact rW hn), ?_⟩
  repeat k_inBlock
  refine bZ (m6 _ _) ⟨by rw [aV, List.length_range', aV]; show _ ≤ 1000000; exact Ct hn ha, ?_⟩
  try dsimp only [List.set]
  refine mq (x7 := x7) (h r (by simp)) ?_
  rw [aV, ht]
  try refine z0 ?_
  repeat k_inBlock
  refine Bh hsort ?_
  repeat k_inBlock
  refine iH rfl rfl (aa (rZ ha)) (aa (Cs hb)) ?_
  rw [eD]
  repeat k_inBlock
  refine aK rfl ⟨by show acc.length < 1000000; simp at hlen; exact xi hlen, ?_⟩
  repeat k_inBlock
  try refine bj ?_
  repeat k_inBlock
  rw [List.length_map]
  try dsimp only [List.set]
  have e1 : (List.drop a (List.take h1 (nv row))) = nv ((row.take h1).drop a) := by simp [nv, List.map_drop, List.map_take]
  rw [e1]
  refine ih (h1 + r.length) (acc ++ [.lst (nv ((row.take h1).drop a))]) _ _ l' e (fun r' hr' => h r' (by simp [hr'])) (by simp at hlen ⊢; exact rY hlen) (Cr hb) hm' (fun x3 x6 => ?_)
  simpa [nvL] using q x3 x6
theorem wl {r : Run} {row : List Nat} (h : eR fns row r) : WSs fns c36 (ba (fq ((dL r row).map nvL))) ⟨[some (.lst [aT r]), some (.lst (nv row)), none, none, none, none, none, none, none, none, none, none, none, none, none], []⟩ := by
 unfold c36
 repeat k_inBlock
 refine i_l (cs := []) (n := 0) rfl ?_
 repeat k_inBlock
 refine gz (a := 0) h ?_
 cases hl : aw r row 0
 ·repeat k_inBlock
  rw [show dL r row = Option.none by simp [dL, hl]]
  exact aB rfl
 ·repeat k_inBlock
  repeat k_inBlock
  repeat k_inBlock
  refine i_l (cs := []) (n := 0) rfl ?_
  repeat k_inBlock
  try refine bj ?_
  repeat k_inBlock
  rw [List.length_map]
  by_cases e : r.length = row.length
  ·repeat k_inBlock
   refine af (by simp [aV]; exact n4 e) ?_
   repeat k_inBlock
   rw [show dL r row = some [] by simp [dL, hl, e]]
   exact ⟨_, 2, rfl, rfl⟩
  ·repeat k_inBlock
   refine ai (by simp [aV]; exact nZ e) ?_
   repeat k_inBlock
   rw [show dL r row = Option.none by simp [dL, e]]
   exact aB rfl
theorem wm {r0 rl : Run} {mids : List Run} {row : List Nat} (hn : row.length < 1000) (hm : mids.length < 500) (h0 : eR fns row r0) (h1 : eR fns row rl) (h2 : ∀ r ∈ mids, eR fns row r) (h3 : r0.length < 1000) (hmr : ∀ r ∈ mids, r.length < 1000)
  (hx : (r0.length : Int) ≤ ez row mids.reverse ((row.length : Int) - rl.length) → aw rl row ((row.length : Int) - rl.length) = true → ∃ l e, be row mids r0.length = some (l, e) ∧ e ≤ 1000) :
  WSs fns c36 (ba (fq ((cO r0 mids rl row).map nvL))) ⟨[some (.lst (aT r0 :: (mids.map aT ++ [aT rl]))), some (.lst (nv row)), none, none, none, none, none, none, none, none, none, none, none, none, none], []⟩ := by
 have last : (.lst (aT r0 :: (mids.map aT ++ [aT rl])) : V) = .lst ((aT r0 :: mids.map aT) ++ [aT rl]) := rfl
 unfold c36
 repeat k_inBlock
 refine i_l (cs := []) (n := 0) rfl ?_
 repeat k_inBlock
 refine gz (a := 0) h0 ?_
 cases hl : aw r0 row 0
 ·repeat k_inBlock
  rw [show cO r0 mids rl row = Option.none by simp [cO, hl]]
  exact aB rfl
 ·repeat k_inBlock
  repeat k_inBlock
  refine ai (by simp; exact xh hm) ?_
  rw [last]
  repeat k_inBlock
  refine mf ?_
  repeat k_inBlock
  try refine bj ?_
  repeat k_inBlock
  refine mf ?_
  repeat k_inBlock
  rw [aV, List.length_map]
  refine gz h1 ?_
  cases hq : aw rl row ((row.length : Int) - rl.length)
  ·repeat k_inBlock
   rw [show cO r0 mids rl row = Option.none by simp [cO, hq]]
   exact aB rfl
  ·repeat k_inBlock
   have hq2 : 0 ≤ (row.length : Int) - rl.length := by
    have := hq
    simp [aw] at this; omega
   repeat k_inBlock
   refine cQ ?_
   unfold q4
   repeat k_inBlock
   have em : (List.drop 1 (List.take ((aT r0 :: mids.map aT ++ [aT rl]).length - 1) (aT r0 :: mids.map aT ++ [aT rl]))).reverse = mids.reverse.map aT := by
    rw [List.map_reverse]
    congr 1
    simp
   rw [em]
   repeat k_inBlock
   refine bZ rfl ⟨by rw [List.length_map, List.length_reverse]; show mids.length ≤ 1000000; exact rX hm, ?_⟩
   try dsimp only [List.set]
   refine rr hn mids.reverse _ _ (fun r hr => h2 r (List.mem_reverse.1 hr)) (Cq hn) (Cp hq2) (fun r hr => hmr r (List.mem_reverse.1 hr)) (fun x3 => ?_)
   repeat k_inBlock
   refine i_l (cs := []) (n := 0) rfl ?_
   repeat k_inBlock
   try refine bj ?_
   repeat k_inBlock
   rw [List.length_map]
   by_cases g : (r0.length : Int) ≤ ez row mids.reverse ((row.length : Int) - rl.length)
   ·repeat k_inBlock
    refine ai (by simp; exact Co g) ?_
    obtain ⟨l, e, hl2, he⟩ := hx g hq
    repeat k_inBlock
    refine i_l (cs := [[]]) (n := 0) rfl ?_
    repeat k_inBlock
    try refine bj ?_
    repeat k_inBlock
    rw [List.length_map]
    refine cQ ?_
    unfold q0
    repeat k_inBlock
    refine iH rfl rfl (aa (by decide)) (aa (by decide)) ?_
    have ec : cut (aT r0 :: mids.map aT ++ [aT rl]) (some 1) (some (-1)) = mids.map aT := j8 _ _ _
    rw [ec]
    repeat k_inBlock
    refine bZ rfl ⟨by rw [List.length_map]; show mids.length ≤ 1000000; exact rX hm, ?_⟩
    try dsimp only [List.set]
    refine rt hn mids r0.length [] _ _ l e h2 (by simp; exact xg hm) (xf h3) hl2 (fun x3 x6 => ?_)
    repeat k_inBlock
    refine mf ?_
    repeat k_inBlock
    try refine bj ?_
    repeat k_inBlock
    rw [aV, List.length_map]
    have en : ((row.length : Int) - (rl.length : Int)) = ((row.length - rl.length : Nat) : Int) := Cn hq2
    rw [en]
    repeat k_inBlock
    refine iH rfl rfl (aa (Cm he)) (aa (Cl en hq2 hn)) ?_
    rw [eD]
    repeat k_inBlock
    refine q7 rfl ⟨?_, ?_⟩
    ·have := fQ hl2
     simp [nvL]; show l.length + 1 ≤ 1000000; exact xe hm this
    rw [en] at g hq
    rw [show cO r0 mids rl row = some (l ++ [(row.take (row.length - rl.length)).drop e]) by simp [cO, hl, hl2]; rw [en]; exact ⟨hq, g⟩]
    have e1 : (List.drop e (List.take (row.length - rl.length) (nv row))) = nv ((row.take (row.length - rl.length)).drop e) := by simp [nv, List.map_drop, List.map_take]
    rw [e1]
    have : ([] ++ nvL l ++ [V.lst (nv ((row.take (row.length - rl.length)).drop e))]) = nvL (l ++ [(row.take (row.length - rl.length)).drop e]) := by simp [nvL]
    rw [this]
    exact aB (wk _)
   ·repeat k_inBlock
    refine af (by simp; exact Ck g) ?_
    repeat k_inBlock
    rw [show cO r0 mids rl row = Option.none by simp [cO, g]]
    exact aB rfl
end
noncomputable def ac (row : List Nat) : List Nat := row.flatMap q3
theorem bH (row : List Nat) : (ac row).length = 3 * row.length := by
 induction row with
 | nil => rfl
 | cons a r ih => unfold ac at *; rw [List.flatMap_cons, List.length_append, ih, List.length_cons]; show 3 + _ = _; exact CO
theorem jt (a b : List Nat) : ac (a ++ b) = ac a ++ ac b := by unfold ac; rw [List.flatMap_append]
theorem bM (a : Nat) (b : List Nat) : ac (a :: b) = 61 :: hx (a / 16) :: hx (a % 16) :: ac b := by unfold ac; rw [List.flatMap_cons]; rfl
theorem hG (P : Nat → Prop) (h : ∀ d : Fin 16, P (hx d)) (n : Nat) (hn : n < 16) : P (hx n) := h ⟨n, hn⟩
theorem nN (n : Nat) (hn : n < 16) : cF (hx n) = some n := by
 have : ∀ d : Fin 16, cF (hx d) = some (d : Nat) := by decide
 exact this ⟨n, hn⟩
theorem ju (n : Nat) (hn : n < 16) : cG (hx n) = true := hG (fun c => cG c = true) (by decide) n hn
theorem mr (n : Nat) (hn : n < 16) : ([48, 49, 50, 51, 52, 53, 54, 55, 56, 57, 97, 98, 99, 100, 101, 102, 65, 66, 67, 68, 69, 70] : List Nat).contains (hx n) = true := hG (fun c => ([48, 49, 50, 51, 52, 53, 54, 55, 56, 57, 97, 98, 99, 100, 101, 102, 65, 66, 67, 68, 69, 70] : List Nat).contains c = true) (by decide) n hn
theorem f8 (row : List Nat) (h : ∀ o ∈ row, o < 256) : (ac row).all cG = true := by
 induction row with
 | nil => rfl
 | cons a r ih =>
  have ha := h a (by simp)
  rw [bM]
  simp only [List.all_cons, Bool.and_eq_true]
  exact ⟨by decide, ju _ (jG ha), ju _ (Nat.mod_lt _ (by decide)), ih fun o ho => h o (by simp [ho])⟩
theorem dk {α : Type} (A B : List α) : (A ++ B)[A.length]? = B[0]? := by rw [List.getElem?_append_right (Nat.le_refl _), Nat.sub_self]
theorem av {α : Type} (A B : List α) (k : Nat) : (A ++ B)[A.length + k]? = B[k]? := by rw [List.getElem?_append_right (xl)]; congr 1; exact CN
theorem nO {α : Type} (A B : List α) (k : Nat) : ((A ++ B).take (A.length + k)).drop A.length = B.take k := by
 rw [List.take_length_add_append, List.drop_left']
 rfl
section
variable {fns : Fns} {cs : List (List V)} {K : V → Prop} {KS : V → St → Prop} {st : St} {loc : List (Option V)}
noncomputable def uY (fns : Fns) : Prop := ∀ o : Nat, o < 256 → fns 4 [.str (q3 o)] (.str [o])
theorem m7 {Q : Fl → St → Prop} {x0 x7 : Option V} {tl : List (Option V)} (hu : uY fns) : ∀ (rest pre : List Nat) (x6 : Option V), rest ≠ [] → (pre ++ rest).length < 1000 → (∀ o ∈ rest, o < 256) →
  (∀ x4 x6, Q .next ⟨x0 :: some (.str [10]) :: some (.str (pre ++ rest ++ [10])) :: some (.str (ac (pre ++ rest))) :: x4 :: some (.int (3 * (pre ++ rest).length : Nat)) :: x6 :: x7 :: tl, cs⟩) →
  aC (WT fns jg) (WSs fns lY) Q (rest.length + 1) ⟨x0 :: some (.str [10]) :: some (.str pre) :: some (.str (ac (pre ++ rest))) :: some (.int (3 * pre.length : Nat)) :: some (.int (3 * (pre ++ rest).length : Nat)) :: x6 :: x7 :: tl, cs⟩ := by
 intro rest
 induction rest with
 | nil => intro pre x6 h; exact absurd rfl h
 | cons o rest ih =>
  intro pre x6 _ hlen ho q
  have ho1 := ho o (by simp)
  have hN : ac (pre ++ o :: rest) = ac pre ++ (61 :: hx (o / 16) :: hx (o % 16) :: ac rest) := by rw [jt, bM]
  have hL : (ac pre).length = 3 * pre.length := bH pre
  have hT : (pre ++ o :: rest).length = pre.length + rest.length + 1 := by simp; exact CM
  have g0 : (ac (pre ++ o :: rest))[3 * pre.length]? = some 61 := by rw [hN, ← hL, dk]; rfl
  have g1 : (ac (pre ++ o :: rest))[3 * pre.length + 1]? = some (hx (o / 16)) := by rw [hN, ← hL, av]; rfl
  have g2 : (ac (pre ++ o :: rest))[3 * pre.length + 2]? = some (hx (o % 16)) := by rw [hN, ← hL, av]; rfl
  have g3 : ((ac (pre ++ o :: rest)).take (3 * pre.length + 3)).drop (3 * pre.length) = q3 o := by rw [hN, ← hL, nO]; rfl
  refine ad ?_
  conv => enter [2]; unfold jg
  repeat k_inBlock
  refine af (by simp [hT]; exact CL) ?_
  conv => enter [2]; unfold lY
  repeat k_inBlock
  refine i_s g0 ?_
  repeat k_inBlock
  rw [hT]
  repeat k_inBlock
  refine ai (by simp; exact CK) ?_
  repeat k_inBlock
  refine af (by simp; exact CJ) ?_
  repeat k_inBlock
  refine i_s (n := 3 * pre.length + 1) g1 ?_
  repeat k_inBlock
  try refine ie ?_
  refine af (mr _ (jG ho1)) ?_
  repeat k_inBlock
  refine i_s (n := 3 * pre.length + 2) g2 ?_
  repeat k_inBlock
  try refine ie ?_
  refine af (mr _ (Nat.mod_lt _ (by decide))) ?_
  repeat k_inBlock
  refine aD rfl rfl (aa (CI hlen hT hL)) (aa (CH hlen hT hL)) ?_
  have ec : cut (ac (pre ++ o :: rest)) (some ((3 * pre.length : Nat) : Int)) (some (((3 * pre.length : Nat) : Int) + 3)) = q3 o := by
   rw [← g3, ← eD]; rfl
  rw [ec]
  repeat k_inBlock
  refine dz ⟨rfl, _, hu o ho1, ?_⟩
  repeat k_inBlock
  refine gY ⟨by simp; show pre.length + 1 ≤ 1000000; exact CG hlen hT, ?_⟩
  repeat k_inBlock
  try dsimp only [List.set]
  have ei : ((3 * pre.length : Nat) : Int) + 3 = ((3 * (pre ++ [o]).length : Nat) : Int) := by simp; exact CF
  rw [ei]
  cases rest with
  | nil =>
   refine af (by simp) ?_
   repeat k_inBlock
   refine gY ⟨by simp; show pre.length + 1 + 1 ≤ 1000000; exact CE ei hlen hL, ?_⟩
   repeat k_inBlock
   refine ad ?_
   conv => enter [2]; unfold jg
   repeat k_inBlock
   refine ai (by simp) ?_
   rw [hT] at q
   exact q _ _
  | cons o2 rest =>
   refine ai (by simp; exact CD) ?_
   repeat k_inBlock
   have e2 : pre ++ o :: o2 :: rest = (pre ++ [o]) ++ (o2 :: rest) := by simp
   rw [← hT]
   rw [e2] at q ⊢
   refine ih (pre ++ [o]) _ (by simp) (by rw [← e2]; exact hlen) (fun o' ho' => ho o' (List.mem_cons_of_mem _ ho')) q
theorem Ak {u v : List Nat} {K : V → List (List V) → Prop} (h : K (.bool (v.isSuffixOf u)) cs) : bL cs .endswith (.str u) [.str v] K := h
theorem tQ {row : List Nat} (hu : uY fns) (hlen : row.length < 1000) (ho : ∀ o ∈ row, o < 256) : WSs fns c28 (ba (.str row)) ⟨[some (.str (ac row)), some (.str [10]), none, none, none, none, none, none, none, none, none, none, none, none, none], []⟩ := by
 unfold c28
 repeat k_inBlock
 cases hr : row with
 | nil =>
  repeat k_inBlock
  repeat k_inBlock
  exact aB rfl
 | cons o rest =>
  rw [← hr]
  have hne : ac row ≠ [] := by rw [hr, bM]; simp
  refine ai (by simp [hne]) ?_
  repeat k_inBlock
  refine cQ ?_
  unfold qU
  repeat k_inBlock
  refine ⟨hne, f8 row ho, ?_⟩
  repeat k_inBlock
  refine bZ rfl ⟨by show 1 ≤ 1000000; decide, ?_⟩
  refine bV ?_
  conv => enter [2]; unfold qV
  repeat k_inBlock
  refine ⟨f8 row ho, ?_⟩
  repeat k_inBlock
  refine ai (by simp [hne]) ?_
  repeat k_inBlock
  try dsimp only [List.set]
  refine bN (row.length + 1) ?_
  rw [bH]
  refine m7 hu row [] _ (by rw [hr]; simp) hlen ho (fun x4 x6 => ?_)
  repeat k_inBlock
  refine cy ?_
  repeat k_inBlock
  obtain ⟨ini, l, e⟩ : ∃ ini l, row = ini ++ [l] := ⟨row.dropLast, row.getLast (by rw [hr]; simp), (List.dropLast_concat_getLast _).symm⟩
  have en : ac row = (ac ini ++ [61, hx (l / 16)]) ++ [hx (l % 16)] := by rw [e, jt, bM]; simp [ac]
  rw [en]
  repeat k_inBlock
  refine mh ?_
  repeat k_inBlock
  refine af ?_ ?_
  ·have := hG (fun c => (!([13, 10] : List Nat).contains c) = true) (by decide) (l % 16) (Nat.mod_lt _ (by decide))
   exact this
  repeat k_inBlock
  refine Ak ?_
  repeat k_inBlock
  refine af ?_ ?_
  ·simp
  repeat k_inBlock
  refine aD rfl rfl aA (aa (by decide)) ?_
  have ec : cut ([] ++ row ++ [10]) Option.none (some (-(([10] : List Nat).length : Int))) = row := ml _ _
  rw [ec]
  repeat k_inBlock
  exact aB rfl
end
abbrev Txt := List Nat
noncomputable def cX (a : Addr) : List (List Txt) → List V
 | [] => []
 | g :: r => .con (.ref a) :: (stL g ++ cX a r)
noncomputable def b0 : List (List Txt) → Txt
 | [] => []
 | [g] => [46, 42] ++ g.flatten
 | g :: g' :: r => [40, 63, 62, 46, 42, 63] ++ g.flatten ++ [41] ++ b0 (g' :: r)
noncomputable def jv : List (List Txt) → Prop
 | [] => True
 | [_] => True
 | g :: g' :: r => g ≠ [] ∧ jv (g' :: r)
section
variable {fns : Fns} {cs : List (List V)} {K : V → Prop} {KS : V → St → Prop} {st : St} {loc : List (Option V)}
theorem fr : ∀ l : List Txt, txts (stL l) = some l
 | [] => rfl
 | a :: r => by
  show (txts (stL r)).map _ = _
  rw [fr r]; rfl
theorem hH : ∀ l : List Txt, bf [] l = l.flatten
 | [] => rfl
 | [x] => by simp [bf]
 | x :: y :: r => by
  show x ++ [] ++ bf [] (y :: r) = _
  rw [hH (y :: r)]; simp
theorem nQ {k : Nat} {l : List Txt} {K : V → List (List V) → Prop} (e : cs[k]? = some (stL l)) (h : l.flatten.length ≤ lim ∧ K (.str l.flatten) cs) : bL cs .join (.str []) [.cell k] K := by
 have q : (aE cs (.cell k)).bind txts = some l := by show (cs[k]?).bind txts = _; rw [e]; exact fr l
 rw [← hH] at h
 exact bh (o := (aE cs (.cell k)).bind txts) q h
theorem cJ (l : List Txt) : (stL l).length = l.length := by simp [stL]
theorem bK {α : Type} (A : List α) (x y : α) : (A ++ [x]).set A.length y = A ++ [y] := by
 rw [List.set_append_right _ _ (Nat.le_refl _), Nat.sub_self]; rfl
theorem am {α : Type} (A : List α) (x : α) : (A ++ [x])[A.length]? = some x := by rw [dk]; rfl
noncomputable def iJ (a : Addr) (rest : List V) : Prop := rest = [] ∨ ∃ t, rest = .con (.ref a) :: t
theorem mt (a : Addr) : ∀ m : List (List Txt), iJ a (cX a m)
 | [] => .inl rfl
 | g :: r => .inr ⟨_, rfl⟩
theorem Bi {a : Addr} {Q : Fl → St → Prop} {x6 : Option V} {tl : List (Option V)} {P rest : List V} (hrest : iJ a rest) (hlen : P.length < 10000) : ∀ (g acc : List Txt) (pre : List V), P = pre ++ (stL g ++ rest) → acc.length + g.length < 10000 →
  Q .next ⟨some (.lst P) :: some (.con (.ref a)) :: some (.cell 0) :: some (.app 0) :: some (.int ((pre.length + g.length : Nat) : Int)) :: some (.int (P.length : Nat)) :: x6 :: tl, [stL (acc ++ g)]⟩ →
  aC (WT fns kX) (WSs fns oX) Q (g.length + 1) ⟨some (.lst P) :: some (.con (.ref a)) :: some (.cell 0) :: some (.app 0) :: some (.int (pre.length : Nat)) :: some (.int (P.length : Nat)) :: x6 :: tl, [stL acc]⟩ := by
 intro g
 induction g with
 | nil =>
  intro acc pre hP hacc q
  refine ad ?_
  conv => enter [2]; unfold kX
  repeat k_inBlock
  rw [List.append_nil, List.length_nil, Nat.add_zero] at q
  rcases hrest with rfl | ⟨t, rfl⟩
  ·repeat k_inBlock
   refine ai (by rw [hP]; simp [stL]) ?_
   repeat k_inBlock
   all_goals exact q
  ·have gt : P[pre.length]? = some (.con (.ref a)) := by rw [hP, dk]; rfl
   have hl := (List.getElem?_eq_some_iff.1 gt).1
   refine af (by simp; exact la hl) ?_
   repeat k_inBlock
   refine i_l (cs := [stL acc]) gt ?_
   repeat k_inBlock
   refine iG ?_
   repeat k_inBlock
   all_goals exact q
 | cons x g ih =>
  intro acc pre hP hacc q
  refine ad ?_
  conv => enter [2]; unfold kX
  repeat k_inBlock
  have gt : P[pre.length]? = some (.str x) := by rw [hP, dk]; rfl
  have hl := (List.getElem?_eq_some_iff.1 gt).1
  refine af (by simp; exact la hl) ?_
  repeat k_inBlock
  refine i_l (cs := [stL acc]) gt ?_
  repeat k_inBlock
  refine gy ?_
  repeat k_inBlock
  conv => enter [2]; unfold oX
  repeat k_inBlock
  refine i_l (cs := [stL acc]) gt ?_
  repeat k_inBlock
  refine aK rfl ⟨by rw [cJ]; simp at hacc; show acc.length < 1000000; exact xn hacc, ?_⟩
  repeat k_inBlock
  try dsimp only [List.set]
  have e1 : stL acc ++ [.str x] = stL (acc ++ [x]) := by simp [stL]
  rw [e1]
  have e2 : ((pre.length : Int) + 1) = (((pre ++ [V.str x]).length : Nat) : Int) := by simp
  rw [e2]
  rw [List.length_cons]
  have A1 : P = (pre ++ [V.str x]) ++ (stL g ++ rest) := by rw [hP]; simp [stL]
  have A2 : (acc ++ [x]).length + g.length < 10000 := by simp at hacc ⊢; exact xm hacc
  refine (ih (acc ++ [x]) (pre ++ [.str x]) A1 A2) ?_
  have e3 : (pre ++ [V.str x]).length + g.length = pre.length + (x :: g).length := by simp; exact o70
  rw [e3]
  simpa using q
theorem Bj {a : Addr} {Q : Fl → St → Prop} {x2 x3 : Option V} {tl : List (Option V)} {P rest : List V} {C : List (List V)} (hrest : iJ a rest) (hlen : P.length < 10000) : ∀ (g acc : List Txt) (pre : List V), P = pre ++ (stL g ++ rest) → acc.length + g.length < 10000 →
  Q .next ⟨some (.lst P) :: some (.con (.ref a)) :: x2 :: x3 :: some (.int ((pre.length + g.length : Nat) : Int)) :: some (.int (P.length : Nat)) :: some (.cell C.length) :: tl, C ++ [stL (acc ++ g)]⟩ →
  aC (WT fns kW) (WSs fns oW) Q (g.length + 1) ⟨some (.lst P) :: some (.con (.ref a)) :: x2 :: x3 :: some (.int (pre.length : Nat)) :: some (.int (P.length : Nat)) :: some (.cell C.length) :: tl, C ++ [stL acc]⟩ := by
 intro g
 induction g with
 | nil =>
  intro acc pre hP hacc q
  refine ad ?_
  conv => enter [2]; unfold kW
  repeat k_inBlock
  rw [List.append_nil, List.length_nil, Nat.add_zero] at q
  rcases hrest with rfl | ⟨t, rfl⟩
  ·repeat k_inBlock
   refine ai (by rw [hP]; simp [stL]) ?_
   repeat k_inBlock
   all_goals exact q
  ·have gt : P[pre.length]? = some (.con (.ref a)) := by rw [hP, dk]; rfl
   have hl := (List.getElem?_eq_some_iff.1 gt).1
   refine af (by simp; exact la hl) ?_
   repeat k_inBlock
   refine i_l (cs := C ++ [stL acc]) gt ?_
   repeat k_inBlock
   refine iG ?_
   repeat k_inBlock
   all_goals exact q
 | cons x g ih =>
  intro acc pre hP hacc q
  refine ad ?_
  conv => enter [2]; unfold kW
  repeat k_inBlock
  have gt : P[pre.length]? = some (.str x) := by rw [hP, dk]; rfl
  have hl := (List.getElem?_eq_some_iff.1 gt).1
  refine af (by simp; exact la hl) ?_
  repeat k_inBlock
  refine i_l (cs := C ++ [stL acc]) gt ?_
  repeat k_inBlock
  refine gy ?_
  repeat k_inBlock
  conv => enter [2]; unfold oW
  repeat k_inBlock
  refine i_l (cs := C ++ [stL acc]) gt ?_
  repeat k_inBlock
  refine aK (am _ _) ⟨by rw [cJ]; simp at hacc; show acc.length < 1000000; exact xn hacc, ?_⟩
  rw [bK]
  repeat k_inBlock
  try dsimp only [List.set]
  have e1 : stL acc ++ [.str x] = stL (acc ++ [x]) := by simp [stL]
  rw [e1]
  have e2 : ((pre.length : Int) + 1) = (((pre ++ [V.str x]).length : Nat) : Int) := by simp
  rw [e2]
  rw [List.length_cons]
  have A1 : P = (pre ++ [V.str x]) ++ (stL g ++ rest) := by rw [hP]; simp [stL]
  have A2 : (acc ++ [x]).length + g.length < 10000 := by simp at hacc ⊢; exact xm hacc
  refine (ih (acc ++ [x]) (pre ++ [.str x]) A1 A2) ?_
  have e3 : (pre ++ [V.str x]).length + g.length = pre.length + (x :: g).length := by simp; exact o70
  rw [e3]
  simpa using q
end
section
variable {fns : Fns} {cs : List (List V)} {K : V → Prop} {KS : V → St → Prop} {st : St} {loc : List (Option V)}
theorem c_is_rr' {KI : Bool → Prop} {n : Addr} (h : KI true) : ae (aR cs .Is (.con (.ref n)) (.con (.ref n))) KI := nH h
theorem kv (a : Addr) (g : List Txt) (r : List (List Txt)) : cX a (g :: r) = .con (.ref a) :: (stL g ++ cX a r) := rfl
theorem wn (g : List Txt) (r : List (List Txt)) : g.flatten.length + (b0 r).length ≤ (b0 (g :: r)).length := by
 cases r with
 | nil => simp only [b0, List.length_append]; show g.flatten.length + 0 ≤ _; exact C5
 | cons g' r => simp only [b0, List.length_append]; exact C4
theorem Bk {a : Addr} {Q : Fl → St → Prop} {tl : List (Option V)} {P : List V} (hlen : P.length < 10000) : ∀ (more : List (List Txt)) (acc : List Txt) (pre : List V) (junk : List (List V)) (x6 : Option V), P = pre ++ cX a more → jv more → (b0 more).length < 100000 → acc.length + 2 * more.length < 30000 →
  (∀ acc' junk' x6, acc'.flatten = acc.flatten ++ b0 more → Q .next ⟨some (.lst P) :: some (.con (.ref a)) :: some (.cell 0) :: some (.app 0) :: some (.int (P.length : Nat)) :: some (.int (P.length : Nat)) :: x6 :: tl, stL acc' :: junk'⟩) →
  aC (WT fns gw) (WSs fns jf) Q (more.length + 1) ⟨some (.lst P) :: some (.con (.ref a)) :: some (.cell 0) :: some (.app 0) :: some (.int (pre.length : Nat)) :: some (.int (P.length : Nat)) :: x6 :: tl, stL acc :: junk⟩ := by
 intro more
 induction more with
 | nil =>
  intro acc pre junk x6 hP hm ht hacc q
  refine ad ?_
  conv => enter [2]; unfold gw
  repeat k_inBlock
  have hl : P.length = pre.length := by rw [hP]; simp [cX]
  refine ai (by rw [hl]; simp) ?_
  rw [← hl]
  exact q acc junk x6 (by simp [b0])
 | cons g more ih =>
  intro acc pre junk x6 hP hm ht hacc q
  refine ad ?_
  conv => enter [2]; unfold gw
  repeat k_inBlock
  have gt : P[pre.length]? = some (.con (.ref a)) := by rw [hP, dk]; rfl
  have hl := (List.getElem?_eq_some_iff.1 gt).1
  have hP' : P = (pre ++ [V.con (.ref a)]) ++ (stL g ++ cX a more) := by rw [hP, kv]; simp
  have hPl : P.length = pre.length + 1 + g.length + (cX a more).length := by rw [hP']; simp [cJ]; exact C3
  have e2 : ((pre.length : Int) + 1) = (((pre ++ [V.con (.ref a)]).length : Nat) : Int) := by simp
  have hgl := wn g more
  refine af (by simp; exact la hl) ?_
  conv => enter [2]; unfold jf
  repeat k_inBlock
  refine i_l (cs := stL acc :: junk) gt ?_
  repeat k_inBlock
  refine nH ?_
  repeat k_inBlock
  try dsimp only [List.set]
  rw [e2]
  cases hg : g with
  | nil =>
   have hmore : more = [] := by
    cases more with
    | nil => rfl
    | cons g' r => exact absurd hg hm.1
   subst hg hmore
   have hl2 : P.length = (pre ++ [V.con (.ref a)]).length := by rw [hP']; simp [stL, cX]
   refine af (by rw [hl2]; simp) ?_
   repeat k_inBlock
   refine aK rfl ⟨by rw [cJ]; simp at hacc; show acc.length < 1000000; exact xo hacc, ?_⟩
   repeat k_inBlock
   have e1 : stL acc ++ [.str [46, 42]] = stL (acc ++ [[46, 42]]) := by simp [stL]
   show Q .next ⟨_, (stL acc ++ [.str [46, 42]]) :: junk⟩
   rw [e1, ← hl2]
   exact q _ _ _ (by simp [b0])
  | cons x g0 =>
   rw [← hg]
   have gn : P[pre.length + 1]? = some (.str x) := by rw [hP, av, hg]; rfl
   refine ai ?_ ?_
   ·rw [hPl, hg]; simp; exact C2
   repeat k_inBlock
   refine i_l (cs := stL acc :: junk) (n := (pre ++ [V.con (.ref a)]).length) (by rw [← gn]; congr 1; simp) ?_
   repeat k_inBlock
   refine gy ?_
   repeat k_inBlock
   try dsimp only [List.set]
   refine bN (g.length + 1) ?_
   refine Bj (C := stL acc :: junk) (mt a more) hlen g [] _ hP' (by simp at hPl ⊢; exact C1 e2 hlen hPl) ?_
   repeat k_inBlock
   refine nQ (am _ _) ⟨?_, ?_⟩
   ·rw [List.nil_append]; show _ ≤ 1000000; exact C0 hgl ht
   rw [List.nil_append]
   repeat k_inBlock
   try dsimp only [List.set]
   have hi : (pre ++ [V.con (.ref a)]).length + g.length = pre.length + 1 + g.length := by simp
   rw [hi]
   cases more with
   | nil =>
    have hl3 : P.length = pre.length + 1 + g.length := by rw [hPl]; simp [cX]
    refine af (by rw [hl3]; simp) ?_
    repeat k_inBlock
    refine aK rfl ⟨by rw [cJ]; simp at hacc; show acc.length < 1000000; exact xo hacc, ?_⟩
    repeat k_inBlock
    refine aK rfl ⟨by rw [List.length_append, cJ]; simp at hacc; show acc.length + 1 < 1000000; exact CZ hacc, ?_⟩
    repeat k_inBlock
    have e1 : stL acc ++ [.str [46, 42]] ++ [.str g.flatten] = stL (acc ++ [[46, 42], g.flatten]) := by simp [stL]
    show aC (WT fns gw) (WSs fns jf) Q _ ⟨_, (stL acc ++ [.str [46, 42]] ++ [.str g.flatten]) :: (junk ++ [stL g])⟩
    rw [e1, ← hl3]
    refine ad ?_
    conv => enter [2]; unfold gw
    repeat k_inBlock
    refine ai (by simp) ?_
    exact q _ _ _ (by simp [b0])
   | cons g' r =>
    refine ai (by rw [hPl, kv]; simp; exact CY) ?_
    repeat k_inBlock
    refine ⟨?_, ?_⟩
    ·simp only [List.length_append, List.length_cons, List.length_nil]; show _ ≤ 1000000; exact CX hgl ht
    refine aK rfl ⟨by rw [cJ]; simp at hacc; show acc.length < 1000000; exact CW hacc, ?_⟩
    repeat k_inBlock
    have e1 : stL acc ++ [.str ([] ++ [40, 63, 62, 46, 42, 63] ++ g.flatten ++ [41])] = stL (acc ++ [[40, 63, 62, 46, 42, 63] ++ g.flatten ++ [41]]) := by simp [stL]
    show aC (WT fns gw) (WSs fns jf) Q _ ⟨_, (stL acc ++ [.str ([] ++ [40, 63, 62, 46, 42, 63] ++ g.flatten ++ [41])]) :: (junk ++ [stL g])⟩
    rw [e1]
    have hi2 : pre.length + 1 + g.length = (pre ++ V.con (.ref a) :: stL g).length := by simp [cJ]; exact o70
    rw [hi2]
    refine ih _ _ _ _ (by rw [hP']; simp) hm.2 (CV hgl ht) (by simp at hacc ⊢; exact CU hacc) (fun acc' junk' x6 e => q acc' junk' x6 ?_)
    rw [e]; simp [b0]
theorem Am {a : Addr} {r0 : List Txt} {more : List (List Txt)} (hm : jv more) (h1 : (stL r0 ++ cX a more).length < 10000) (h2 : r0.flatten.length + (b0 more).length < 100000) (h3 : r0.length + 2 * more.length < 10000) :
  WSs fns c9 (ba (.str ([40, 63, 115, 58] ++ (r0.flatten ++ b0 more) ++ [41, 92, 90]))) ⟨[some (.lst (stL r0 ++ cX a more)), some (.con (.ref a)), none, none, none, none, none, none, none, none, none, none, none, none, none], []⟩ := by
 unfold c9
 repeat k_inBlock
 try dsimp only [List.set]
 refine bN (r0.length + 1) ?_
 refine Bi (rest := cX a more) (mt a more) h1 r0 [] [] rfl (by simp; exact CT h3) ?_
 repeat k_inBlock
 refine bN (more.length + 1) ?_
 have hi : ([] : List V).length + r0.length = (stL r0).length := by simp [cJ]
 rw [hi, List.nil_append]
 refine Bk h1 more r0 (stL r0) [] _ rfl hm (CS h2) (CR h3 hi) (fun acc' junk' x6 e => ?_)
 repeat k_inBlock
 refine ⟨by simp, ?_⟩
 have e' : acc'.flatten.length < 100000 := by rw [e, List.length_append]; exact h2
 repeat k_inBlock
 refine nQ rfl ⟨by show _ ≤ 1000000; exact CQ e', ?_⟩
 repeat k_inBlock
 refine ⟨?_, ?_⟩
 ·simp only [List.length_append, List.length_cons, List.length_nil]; show _ ≤ 1000000; exact CP e'
 have : [] ++ [40, 63, 115, 58] ++ acc'.flatten ++ [41, 92, 90] = [40, 63, 115, 58] ++ (r0.flatten ++ b0 more) ++ [41, 92, 90] := by rw [e]; simp
 rw [this]
 exact aB rfl
end
set_option genInjectivity false in
inductive Tk where
 | any | never
 | lit (c : Nat)
 | rng (b : Bool) (x y : Nat)
 | two (b : Bool) (x y : Nat)
noncomputable def Tk.text : Tk → Txt
 | .any => [46]
 | .never => [40, 63, 33, 41]
 | .lit c => [c]
 | .rng b x y => (if b then [91, 94] else [91]) ++ [x, 45, y, 93]
 | .two b x y => (if b then [91, 94] else [91]) ++ [x, y, 93]
noncomputable def Tk.sg : Tk → Sg
 | .any => (true, [])
 | .never => (false, [])
 | .lit c => (false, [(c, c)])
 | .rng b x y => (b, [(x, y)])
 | .two b x y => (b, [(x, x), (y, y)])
noncomputable def Tk.ok : Tk → Prop
 | .any | .never => True
 | .lit c => ag c = true
 | .rng _ x y => ag x = true ∧ ag y = true ∧ x ≤ y
 | .two _ x y => ag x = true ∧ ag y = true
theorem iw {c : Nat} (h : ag c = true) : (48 ≤ c ∧ c ≤ 57) ∨ (65 ≤ c ∧ c ≤ 70) ∨ c = 61 := by
 simp [ag] at h; exact C9 h
noncomputable def pO (cs : List (List V)) (ids : List Nat) (v : V) (s : Sg) : Prop := v = sgV s ∨ ∃ k, v = .tup [.bool s.1, .cell k] ∧ s.2 = [] ∧ cs[k]? = some [] ∧ k ∉ ids ∧ k ≠ 1
noncomputable def RawL (cs : List (List V)) (ids : List Nat) : List V → List Sg → Prop
 | [], [] => True
 | v :: vs, s :: ss => pO cs ids v s ∧ RawL cs ids vs ss
 | _, _ => False
noncomputable def RunsL (cs : List (List V)) (ids : List Nat) : List Nat → List (List Sg) → Prop
 | [], [] => True
 | i :: is, r :: rs => (∃ vs, cs[i]? = some vs ∧ RawL cs ids vs r) ∧ RunsL cs ids is rs
 | _, _ => False
structure RI (cs : List (List V)) (ids : List Nat) (rs : List (List Sg)) : Prop where
 c1 : cs[1]? = some (ids.map V.cell)
 nd : ids.Nodup
 n1 : 1 ∉ ids
 rl : RunsL cs ids ids rs
theorem RawL.mono {cs cs' : List (List V)} {ids ids' : List Nat} (h : ∀ k, cs[k]? = some [] → k ∉ ids → k ≠ 1 → cs'[k]? = some [] ∧ k ∉ ids') : ∀ {vs : List V} {r : List Sg}, RawL cs ids vs r → RawL cs' ids' vs r
 | [], [], _ => trivial
 | v :: vs, s :: ss, ⟨h1, h2⟩ => by
  refine ⟨?_, RawL.mono h h2⟩
  rcases h1 with h1 | ⟨k, a, b, c, d, e⟩
  ·exact .inl h1
  ·obtain ⟨c', d'⟩ := h k c d e
   exact .inr ⟨k, a, b, c', d', e⟩
 | [], _ :: _, h' => h'.elim
 | _ :: _, [], h' => h'.elim
theorem RunsL.mono {cs cs' : List (List V)} {ids ids' : List Nat} (h : ∀ k, cs[k]? = some [] → k ∉ ids → k ≠ 1 → cs'[k]? = some [] ∧ k ∉ ids') : ∀ {is : List Nat} {rs : List (List Sg)}, (∀ i ∈ is, cs'[i]? = cs[i]?) → RunsL cs ids is rs → RunsL cs' ids' is rs
 | [], [], _, _ => trivial
 | i :: is, r :: rs, hi, ⟨⟨vs, h1, h2⟩, h3⟩ => ⟨⟨vs, by rw [hi i (by simp)]; exact h1, h2.mono h⟩, RunsL.mono h (fun j hj => hi j (by simp [hj])) h3⟩
 | [], _ :: _, _, h' => h'.elim
 | _ :: _, [], _, h' => h'.elim
theorem RunsL.snoc {cs : List (List V)} {ids : List Nat} {i : Nat} {r : List Sg} (h : ∃ vs, cs[i]? = some vs ∧ RawL cs ids vs r) : ∀ {is : List Nat} {rs : List (List Sg)}, RunsL cs ids is rs → RunsL cs ids (is ++ [i]) (rs ++ [r])
 | [], [], _ => ⟨h, trivial⟩
 | j :: is, q :: rs, ⟨h1, h2⟩ => ⟨h1, RunsL.snoc h h2⟩
 | [], _ :: _, h' => h'.elim
 | _ :: _, [], h' => h'.elim
theorem RunsL.unsnoc {cs : List (List V)} {ids : List Nat} : ∀ {is : List Nat} {rs : List (List Sg)} {r : List Sg}, RunsL cs ids is (rs ++ [r]) → ∃ is' i vs, is = is' ++ [i] ∧ RunsL cs ids is' rs ∧ cs[i]? = some vs ∧ RawL cs ids vs r
 | [], [], r, h => h.elim
 | [], _ :: _, r, h => h.elim
 | i :: is, [], r, h => by
  obtain ⟨⟨vs, a, b⟩, h2⟩ := h
  cases is with
  | nil => exact ⟨[], i, vs, rfl, trivial, a, b⟩
  | cons => exact h2.elim
 | i :: is, q :: rs, r, ⟨h1, h2⟩ => by
  obtain ⟨is', j, vs, rfl, a, b, c⟩ := RunsL.unsnoc h2
  exact ⟨i :: is', j, vs, rfl, ⟨h1, a⟩, b, c⟩
theorem RawL.snoc {cs : List (List V)} {ids : List Nat} {v : V} {s : Sg} (h : pO cs ids v s) : ∀ {vs : List V} {r : List Sg}, RawL cs ids vs r → RawL cs ids (vs ++ [v]) (r ++ [s])
 | [], [], _ => ⟨h, trivial⟩
 | _ :: vs, _ :: r, ⟨h1, h2⟩ => ⟨h1, RawL.snoc h h2⟩
 | [], _ :: _, h' => h'.elim
 | _ :: _, [], h' => h'.elim
theorem RawL.len {cs : List (List V)} {ids : List Nat} : ∀ {vs : List V} {r : List Sg}, RawL cs ids vs r → vs.length = r.length
 | [], [], _ => rfl
 | _ :: vs, _ :: r, ⟨_, h2⟩ => by simp [RawL.len h2]
 | [], _ :: _, h' => h'.elim
 | _ :: _, [], h' => h'.elim
theorem RunsL.lt {cs : List (List V)} {ids : List Nat} : ∀ {is : List Nat} {rs : List (List Sg)}, RunsL cs ids is rs → ∀ i ∈ is, i < cs.length
 | [], [], _, i, h => by cases h
 | j :: is, r :: rs, ⟨⟨vs, h1, _⟩, h2⟩, i, h => by
  rcases List.mem_cons.1 h with rfl | h
  ·exact (List.getElem?_eq_some_iff.1 h1).1
  ·exact RunsL.lt h2 i h
 | [], _ :: _, h', _, _ => h'.elim
 | _ :: _, [], h', _, _ => h'.elim
theorem RI.run {cs : List (List V)} {ids : List Nat} {rs : List (List Sg)} (h : RI cs ids rs) : RI ((cs ++ [[]]).set 1 (ids.map V.cell ++ [V.cell cs.length])) (ids ++ [cs.length]) (rs ++ [[]]) := by
 have hl := (List.getElem?_eq_some_iff.1 h.c1).1
 have lt := h.rl.lt
 have g : ∀ k, k ≠ 1 → ((cs ++ [[]]).set 1 (ids.map V.cell ++ [V.cell cs.length]))[k]? = (cs ++ [[]])[k]? := fun k hk => List.getElem?_set_ne (fun e => hk e.symm)
 refine ⟨?_, ?_, ?_, ?_⟩
 ·rw [List.getElem?_set_self (by simp; exact C8 hl)]; simp
 ·refine List.nodup_append.2 ⟨h.nd, by simp, fun a ha b hb e => ?_⟩
  simp at hb; have := lt a ha; exact xq this e hb
 ·intro hm
  rcases List.mem_append.1 hm with hm | hm
  ·exact h.n1 hm
  ·simp at hm; exact C7 hl hm
 ·refine RunsL.snoc (r := []) ⟨[], ?_, trivial⟩ (RunsL.mono (fun k a b c => ?_) (fun i hi => ?_) h.rl)
  ·rw [g _ (C6 hl), am]
  ·have hk := (List.getElem?_eq_some_iff.1 a).1
   refine ⟨?_, ?_⟩
   ·rw [g k c, List.getElem?_append_left hk]; exact a
   ·intro hm
    rcases List.mem_append.1 hm with hm | hm
    ·exact b hm
    ·simp at hm; exact xp hk hm
  ·have h1 : i ≠ 1 := fun e => h.n1 (e ▸ hi)
   rw [g i h1, List.getElem?_append_left (lt i hi)]
theorem RI.more {cs : List (List V)} {ids : List Nat} {rs : List (List Sg)} (h : RI cs ids rs) (l : List V) : RI (cs ++ [l]) ids rs := by
 have hl := (List.getElem?_eq_some_iff.1 h.c1).1
 refine ⟨by rw [List.getElem?_append_left hl]; exact h.c1, h.nd, h.n1, RunsL.mono (fun k a b c => ⟨?_, b⟩) (fun i hi => ?_) h.rl⟩
 ·rw [List.getElem?_append_left (List.getElem?_eq_some_iff.1 a).1]; exact a
 ·rw [List.getElem?_append_left (h.rl.lt i hi)]
theorem RI.sign {cs : List (List V)} {ids : List Nat} {rs : List (List Sg)} {r : List Sg} {v : V} {s : Sg} (h : RI cs ids (rs ++ [r])) (hv : pO cs ids v s) :
  ∃ is' i vs, ids = is' ++ [i] ∧ cs[i]? = some vs ∧ vs.length = r.length ∧ RI (cs.set i (vs ++ [v])) ids (rs ++ [r ++ [s]]) := by
 obtain ⟨is', i, vs, e, h1, h2, h3⟩ := h.rl.unsnoc
 have hi : i ∈ ids := by rw [e]; simp
 have i1 : i ≠ 1 := fun q => h.n1 (q ▸ hi)
 have hlt := h.rl.lt i hi
 have mono : ∀ k, cs[k]? = some [] → k ∉ ids → k ≠ 1 → (cs.set i (vs ++ [v]))[k]? = some [] ∧ k ∉ ids := fun k a b c => ⟨by rw [List.getElem?_set_ne (fun q => b (by rw [← q]; exact hi))]; exact a, b⟩
 refine ⟨is', i, vs, e, h2, h3.len, ?_, h.nd, h.n1, ?_⟩
 ·rw [List.getElem?_set_ne i1]; exact h.c1
 ·have key : RunsL (cs.set i (vs ++ [v])) ids (is' ++ [i]) (rs ++ [r ++ [s]]) := by
   refine RunsL.snoc ⟨vs ++ [v], List.getElem?_set_self hlt, ?_⟩ (RunsL.mono mono (fun j hj => ?_) h1)
   ·refine RawL.snoc ?_ (h3.mono mono)
    rcases hv with hv | ⟨k, a, b, c, d, f⟩
    ·exact .inl hv
    ·exact .inr ⟨k, a, b, (mono k c d f).1, d, f⟩
   ·refine List.getElem?_set_ne fun q => ?_
    have nd := h.nd
    rw [e] at nd
    exact (List.nodup_append.1 nd).2.2 j hj i (by simp) q.symm
  rwa [← e] at key
theorem RawL.freeze {cs : List (List V)} {ids : List Nat} : ∀ {vs : List V} {r : List Sg}, RawL cs ids vs r → vs.mapM (aq cs 3) = some (r.map sgV)
 | [], [], _ => rfl
 | v :: vs, s :: r, ⟨h1, h2⟩ => by
  have e : aq cs 3 v = some (sgV s) := by
   rcases h1 with rfl | ⟨k, rfl, hs, hk, _⟩
   ·unfold aq; rw [if_pos (rg s)]
   ·obtain ⟨b, l⟩ := s
    simp only at hs
    subst hs
    have e1 : (V.cell k).fz = false := rfl
    have e2 : (V.tup [.bool b, .cell k]).fz = false := rfl
    have e3 : aq cs 2 (.cell k) = some (.lst []) := by
     unfold aq; rw [e1]; simp [hk]
    have e4 : aq cs 2 (.bool b) = some (.bool b) := by unfold aq; rfl
    unfold aq; rw [e2]
    simp [List.mapM_cons, e3, e4, sgV]
  rw [List.mapM_cons, e, RawL.freeze h2]; rfl
 | [], _ :: _, h' => h'.elim
 | _ :: _, [], h' => h'.elim
theorem RunsL.freeze {cs : List (List V)} {ids : List Nat} : ∀ {is : List Nat} {rs : List (List Sg)}, RunsL cs ids is rs → (is.map V.cell).mapM (aq cs 4) = some (rs.map rsV)
 | [], [], _ => rfl
 | i :: is, r :: rs, ⟨⟨vs, h1, h2⟩, h3⟩ => by
  have e1 : (V.cell i).fz = false := rfl
  have e : aq cs 4 (.cell i) = some (rsV r) := by
   unfold aq; rw [e1]; simp [h1, h2.freeze, rsV]
  rw [List.map_cons, List.mapM_cons, e, RunsL.freeze h3]; rfl
 | [], _ :: _, h' => h'.elim
 | _ :: _, [], h' => h'.elim
theorem RI.freeze {cs : List (List V)} {ids : List Nat} {rs : List (List Sg)} (h : RI cs ids rs) : aq cs 5 (.cell 1) = some (.lst (rs.map rsV)) := by
 have e1 : (V.cell 1).fz = false := rfl
 have := h.rl.freeze
 rw [List.mapM_map] at this
 unfold aq; rw [e1]
 simp [h.c1]
 exact this
section
variable {fns : Fns} {cs : List (List V)} {K : V → Prop} {KS : V → St → Prop} {st : St} {loc : List (Option V)}
noncomputable def aj : List S → List S
 | [.ite _ _ b] => b
 | l => l
noncomputable def aJ : List S → List S
 | [.ite _ a _] => a
 | l => l
theorem GF {α : Type} {pre B : List α} {k : Nat} {J : Int} (e : J = (k : Int)) : cut (pre ++ B) (some ((pre.length : Nat) : Int)) (some (((pre.length : Nat) : Int) + J)) = B.take k := by
 subst e
 rw [← Int.natCast_add, eD, nO]
theorem bA {pre B w : List Nat} {k : Nat} {J : Int} {KI : Bool → Prop} (e : J = (k : Int)) (hl : pre.length < 100000) (hk : k < 100) (h : KI (decide (B.take k = w))) :
  gP cs (.str (pre ++ B)) (some (.int (pre.length : Nat))) (some (.int (((pre.length : Nat) : Int) + J))) (fun v => ae (aR cs .Eq v (.str w)) KI) := by
 refine aD rfl rfl (aa (rZ hl)) (aa (Da hk hl e)) ?_
 rw [GF e]; exact h
noncomputable def az : List S := aj (aj (aj au))
theorem dP {Q : Fl → St → Prop} {pre B : List Nat} {x1 : Option V} {held : Bool} {tl : List (Option V)} (hl : pre.length < 100000) (h1 : B.take 6 ≠ [40, 63, 62, 46, 42, 63]) (h2 : B.take 3 ≠ [41, 46, 42]) (h3 : B.take 4 ≠ [41, 40, 63, 62]) (h4 : held = false → B.take 2 ≠ [46, 42])
  (q : WSs fns az Q ⟨some (.str (pre ++ B)) :: x1 :: some (.bool held) :: some (.int (pre.length : Nat)) :: tl, cs⟩) : WSs fns au Q ⟨some (.str (pre ++ B)) :: x1 :: some (.bool held) :: some (.int (pre.length : Nat)) :: tl, cs⟩ := by
 have hb : @Eq (List S) au [S.ite ((((X.loc 0).slc (some (X.loc 3)) (some (X.bin Operator.Add (X.loc 3) (X.cst (V.int (6)))))).cmp CmpOp.Eq (X.cst (V.str [40, 63, 62, 46, 42, 63]))).and (X.loc 2).not) (aJ au)
  [S.ite ((X.loc 2).and ((((X.loc 0).slc (some (X.loc 3)) (some (X.bin Operator.Add (X.loc 3) (X.cst (V.int (3)))))).cmp CmpOp.Eq (X.cst (V.str [41, 46, 42]))).or (((X.loc 0).slc (some (X.loc 3)) (some (X.bin Operator.Add (X.loc 3) (X.cst (V.int (4)))))).cmp CmpOp.Eq (X.cst (V.str [41, 40, 63, 62]))))) (aJ (aj au))
  [S.ite ((((X.loc 0).slc (some (X.loc 3)) (some (X.bin Operator.Add (X.loc 3) (X.cst (V.int (2)))))).cmp CmpOp.Eq (X.cst (V.str [46, 42]))).and (X.loc 2).not) (aJ (aj (aj au))) az]]] := rfl
 have q' : WSs fns (az ++ []) Q ⟨some (.str (pre ++ B)) :: x1 :: some (.bool held) :: some (.int (pre.length : Nat)) :: tl, cs⟩ := by rw [List.append_nil]; exact q
 rw [hb]
 clear hb q
 generalize az = e at *
 generalize aJ au = a1
 generalize aJ (aj au) = a2
 generalize aJ (aj (aj au)) = a3
 repeat k_inBlock
 refine bA (k := 6) rfl hl (by decide) ?_
 repeat k_inBlock
 refine ai (decide_eq_false h1) ?_
 have k3 : WSs fns ([S.ite ((((X.loc 0).slc (some (X.loc 3)) (some (X.bin Operator.Add (X.loc 3) (X.cst (V.int (2)))))).cmp CmpOp.Eq (X.cst (V.str [46, 42]))).and (X.loc 2).not) a3 e] ++ []) Q ⟨some (.str (pre ++ B)) :: x1 :: some (.bool held) :: some (.int (pre.length : Nat)) :: tl, cs⟩ := by
  repeat k_inBlock
  refine bA (k := 2) rfl hl (by decide) ?_
  cases held
  ·repeat k_inBlock
   refine ai (decide_eq_false (h4 rfl)) ?_
   repeat k_inBlock
   exact q'
  ·repeat k_inBlock
   refine dh (fun g => ?_) (fun g => ?_)
   ·repeat k_inBlock
    exact q'
   ·repeat k_inBlock
    exact q'
 generalize S.ite _ a3 e = e2 at *
 cases held
 ·repeat k_inBlock
  exact k3
 ·repeat k_inBlock
  refine bA (k := 3) rfl hl (by decide) ?_
  repeat k_inBlock
  refine ai (decide_eq_false h2) ?_
  repeat k_inBlock
  refine bA (k := 4) rfl hl (by decide) ?_
  repeat k_inBlock
  refine ai (decide_eq_false h3) ?_
  repeat k_inBlock
  exact k3
end
section
variable {fns : Fns} {cs : List (List V)} {K : V → Prop} {KS : V → St → Prop} {st : St} {loc : List (Option V)}
theorem dZ {pre B : List Nat} {c j : Nat} (h : B.findIdx? (· == c) = some j) : bl c (pre ++ B) pre.length (pre ++ B).length = ((pre.length + j : Nat) : Int) := by
 unfold bl
 rw [List.take_length, List.drop_left' rfl, h]
theorem aG {c d : Nat} (h : ag c = true) (hd : ag d = false) : c ≠ d := fun e => by rw [e, hd] at h; exact aH h
theorem dT {x : Nat} (h : ag x = true) : x ≠ 93 ∧ x ≠ 94 ∧ x ≠ 45 := ⟨aG h rfl, aG h rfl, aG h rfl⟩
theorem jw {u : List Nat} {c a j : Nat} {K : V → List (List V) → Prop} (ha : a < 1000000000) (h : bl c u a u.length = ((j : Nat) : Int)) (k : K (.int (j : Nat)) cs) : bL cs .find (.str u) [.str [c], .int (a : Nat)] K := by
 refine ⟨xy ha, cN ha, ?_⟩
 rw [Int.toNat_natCast, h]; exact k
theorem mv {turn : V → (Option V → List (List V) → Prop) → List (List V) → Prop} {a b : V} {K : List V → List (List V) → Prop} (h : turn a (fun o cs => turn b (fun o' cs => K (o.toList ++ o'.toList) cs) cs) cs) : bC turn [a, b] [] K cs := by
 simp only [bC, List.nil_append]; exact h
theorem ck (pre : List Nat) (c : Nat) (B : List Nat) : (pre ++ c :: B)[pre.length]? = some c := by rw [dk]; rfl
theorem jx {pre B : List Nat} {R : List Nat} {j : Nat} (a : Nat) (hj : j = B.length + 1) : cut (pre ++ a :: (B ++ 93 :: R)) (some (((pre.length : Nat) : Int) + 1)) (some ((pre.length + j : Nat) : Int)) = B := by
 subst hj
 have e : (((pre.length : Nat) : Int) + 1) = ((pre.length + 1 : Nat) : Int) := rfl
 rw [e, eD, List.take_length_add_append, List.take_succ_cons, List.take_left' rfl]
 have : pre ++ a :: B = (pre ++ [a]) ++ B := by simp
 rw [this, List.drop_left' (by simp)]
theorem tR {Q : Fl → St → Prop} {pre R : List Nat} {held : Bool} {rs : List (List Sg)} {r : List Sg} {ids : List Nat} {fuel : Nat} {x4 x5 x6 x7 : Option V} {tl : List (Option V)} (hl : pre.length < 90000) (hR : 3 ≤ R.length) (hh : R.take 1 ≠ [42]) (h : RI cs ids (rs ++ [r])) (hr : r.length < 10000)
  (q : ∀ cs' x4 x5 x6 x7, RI cs' ids (rs ++ [r ++ [(Tk.any).sg]]) → aC (WT fns aF) (WSs fns au) Q fuel ⟨some (.str (pre ++ ((Tk.any).text ++ R))) :: some (.cell 1) :: some (.bool held) :: some (.int (((pre ++ (Tk.any).text).length : Nat) : Int)) :: x4 :: x5 :: x6 :: x7 :: tl, cs'⟩) :
  aC (WT fns aF) (WSs fns au) Q (fuel + 1) ⟨some (.str (pre ++ ((Tk.any).text ++ R))) :: some (.cell 1) :: some (.bool held) :: some (.int (pre.length : Nat)) :: x4 :: x5 :: x6 :: x7 :: tl, cs⟩ := by
 obtain ⟨is', i, vs, e, g1, g2, g3⟩ := (h.more []).sign (s := (true, [])) (v := .tup [.bool true, .cell cs.length]) (.inr ⟨cs.length, rfl, rfl, am _ _, fun hm => Nat.lt_irrefl _ (h.rl.lt _ hm), fun e1 => by
  have := (List.getElem?_eq_some_iff.1 h.c1).1; exact xx this e1⟩)
 have g0 := h.c1
 rw [e, List.map_append] at g0
 refine ad ?_
 conv => enter [2]; unfold aF
 repeat k_inBlock
 refine af (by simp [Tk.text]; exact r9 hR) ?_
 refine dP (da hl) (by simp [Tk.text]) (by simp [Tk.text]) (by simp [Tk.text]) (fun _ hq => ?_) ?_
 ·simp [Tk.text] at hq
  cases R with
  | nil => simp at hR
  | cons b R => simp at hq hh; exact hh hq
 have hb : @Eq (List S) az [S.ite (((X.loc 0).slc (some (X.loc 3)) (some (X.bin Operator.Add (X.loc 3) (X.cst (V.int (4)))))).cmp CmpOp.Eq (X.cst (V.str [40, 63, 33, 41]))) (aJ az) [S.ite (((X.loc 0).idx (X.loc 3)).cmp CmpOp.Eq (X.cst (V.str [46]))) [S.expr (X.meth Mt.append ((X.loc 1).idx (X.cst (V.int (1))).neg) [X.tup [X.cst (V.bool true), X.new0]]), S.aug 3 Operator.Add (X.cst (V.int (1)))] (aj (aj az))]] := rfl
 conv => enter [2]; rw [hb]
 clear hb
 generalize aj (aj az) = e9
 generalize aJ az = e8
 repeat k_inBlock
 refine bA (k := 4) rfl (da hl) (by decide) ?_
 repeat k_inBlock
 repeat k_inBlock
 refine i_s (ck _ _ _) ?_
 repeat k_inBlock
 refine eH g0 ?_
 repeat k_inBlock
 refine aK g1 ⟨by rw [g2]; show r.length < 1000000; exact iB hr g2, ?_⟩
 repeat k_inBlock
 try dsimp only [List.set]
 have e2 : ((pre.length : Int) + 1) = (((pre ++ (Tk.any).text).length : Nat) : Int) := by simp [Tk.text]
 rw [e2]
 exact q _ _ _ _ _ g3
theorem pP {Q : Fl → St → Prop} {pre R : List Nat} {held : Bool} {rs : List (List Sg)} {r : List Sg} {ids : List Nat} {fuel : Nat} {x4 x5 x6 x7 : Option V} {tl : List (Option V)} (hl : pre.length < 90000) (hR : 3 ≤ R.length) (hh : R.take 1 ≠ [42]) (h : RI cs ids (rs ++ [r])) (hr : r.length < 10000)
  (q : ∀ cs' x4 x5 x6 x7, RI cs' ids (rs ++ [r ++ [(Tk.never).sg]]) → aC (WT fns aF) (WSs fns au) Q fuel ⟨some (.str (pre ++ ((Tk.never).text ++ R))) :: some (.cell 1) :: some (.bool held) :: some (.int (((pre ++ (Tk.never).text).length : Nat) : Int)) :: x4 :: x5 :: x6 :: x7 :: tl, cs'⟩) :
  aC (WT fns aF) (WSs fns au) Q (fuel + 1) ⟨some (.str (pre ++ ((Tk.never).text ++ R))) :: some (.cell 1) :: some (.bool held) :: some (.int (pre.length : Nat)) :: x4 :: x5 :: x6 :: x7 :: tl, cs⟩ := by
 obtain ⟨is', i, vs, e, g1, g2, g3⟩ := (h.more []).sign (s := (false, [])) (v := .tup [.bool false, .cell cs.length]) (.inr ⟨cs.length, rfl, rfl, am _ _, fun hm => Nat.lt_irrefl _ (h.rl.lt _ hm), fun e1 => by
  have := (List.getElem?_eq_some_iff.1 h.c1).1; exact xx this e1⟩)
 have g0 := h.c1
 rw [e, List.map_append] at g0
 refine ad ?_
 conv => enter [2]; unfold aF
 repeat k_inBlock
 refine af (by simp [Tk.text]; exact xv hR) ?_
 refine dP (da hl) (by simp [Tk.text]) (by simp [Tk.text]) (by simp [Tk.text]) (fun _ => by simp [Tk.text]) ?_
 have hb : @Eq (List S) az [S.ite (((X.loc 0).slc (some (X.loc 3)) (some (X.bin Operator.Add (X.loc 3) (X.cst (V.int (4)))))).cmp CmpOp.Eq (X.cst (V.str [40, 63, 33, 41]))) [S.expr (X.meth Mt.append ((X.loc 1).idx (X.cst (V.int (1))).neg) [X.tup [X.cst (V.bool false), X.new0]]), S.aug 3 Operator.Add (X.cst (V.int (4)))] (aj az)] := rfl
 conv => enter [2]; rw [hb]
 clear hb
 generalize aj az = e9
 repeat k_inBlock
 refine bA (k := 4) rfl (da hl) (by decide) ?_
 repeat k_inBlock
 repeat k_inBlock
 refine eH g0 ?_
 repeat k_inBlock
 refine aK g1 ⟨by rw [g2]; show r.length < 1000000; exact iB hr g2, ?_⟩
 repeat k_inBlock
 try dsimp only [List.set]
 have e2 : ((pre.length : Int) + 4) = (((pre ++ (Tk.never).text).length : Nat) : Int) := by simp [Tk.text]
 rw [e2]
 exact q _ _ _ _ _ g3
theorem tS {c : Nat} {Q : Fl → St → Prop} {pre R : List Nat} {held : Bool} {rs : List (List Sg)} {r : List Sg} {ids : List Nat} {fuel : Nat} {x4 x5 x6 x7 : Option V} {tl : List (Option V)} (hc : ag c = true) (hl : pre.length < 90000) (hR : 3 ≤ R.length) (hh : R.take 1 ≠ [42]) (h : RI cs ids (rs ++ [r])) (hr : r.length < 10000)
  (q : ∀ cs' x4 x5 x6 x7, RI cs' ids (rs ++ [r ++ [(Tk.lit c).sg]]) → aC (WT fns aF) (WSs fns au) Q fuel ⟨some (.str (pre ++ ((Tk.lit c).text ++ R))) :: some (.cell 1) :: some (.bool held) :: some (.int (((pre ++ (Tk.lit c).text).length : Nat) : Int)) :: x4 :: x5 :: x6 :: x7 :: tl, cs'⟩) :
  aC (WT fns aF) (WSs fns au) Q (fuel + 1) ⟨some (.str (pre ++ ((Tk.lit c).text ++ R))) :: some (.cell 1) :: some (.bool held) :: some (.int (pre.length : Nat)) :: x4 :: x5 :: x6 :: x7 :: tl, cs⟩ := by
 obtain ⟨is', i, vs, e, g1, g2, g3⟩ := h.sign (s := (false, [(c, c)])) (v := sgV (false, [(c, c)])) (.inl rfl)
 have g0 := h.c1
 rw [e, List.map_append] at g0
 refine ad ?_
 conv => enter [2]; unfold aF
 repeat k_inBlock
 refine af (by simp [Tk.text]; exact r9 hR) ?_
 have k1 : c ≠ 40 ∧ c ≠ 41 ∧ c ≠ 46 ∧ c ≠ 91 ∧ c ≠ 42 ∧ c ≠ 43 ∧ c ≠ 63 ∧ c ≠ 93 ∧ c ≠ 123 ∧ c ≠ 125 ∧ c ≠ 124 ∧ c ≠ 94 ∧ c ≠ 36 ∧ c ≠ 92 := ⟨aG hc rfl, aG hc rfl, aG hc rfl, aG hc rfl, aG hc rfl, aG hc rfl, aG hc rfl, aG hc rfl, aG hc rfl, aG hc rfl, aG hc rfl, aG hc rfl, aG hc rfl, aG hc rfl⟩
 refine dP (da hl) (by simp [Tk.text, k1]) (by simp [Tk.text, k1]) (by simp [Tk.text, k1]) (fun _ => by simp [Tk.text, k1]) ?_
 have hb : @Eq (List S) az [S.ite (((X.loc 0).slc (some (X.loc 3)) (some (X.bin Operator.Add (X.loc 3) (X.cst (V.int (4)))))).cmp CmpOp.Eq (X.cst (V.str [40, 63, 33, 41]))) (aJ az) [S.ite (((X.loc 0).idx (X.loc 3)).cmp CmpOp.Eq (X.cst (V.str [46]))) (aJ (aj az)) [S.ite ((((X.loc 0).idx (X.loc 3)).cmp CmpOp.Eq (X.cst (V.str [91]))).and ((X.cst (V.str [93])).cmp CmpOp.In ((X.loc 0).slc (some (X.loc 3)) none))) (aJ (aj (aj az))) [S.ite (((X.loc 0).idx (X.loc 3)).cmp CmpOp.In (X.cst (V.str [40, 41, 42, 43, 63, 91, 93, 123, 125, 124, 94, 36, 92]))) [S.ret X.new0] [S.expr (X.meth Mt.append ((X.loc 1).idx (X.cst (V.int (1))).neg) [X.tup [X.cst (V.bool false), X.lst [X.tup [(X.loc 0).idx (X.loc 3), (X.loc 0).idx (X.loc 3)]]]]), S.aug 3 Operator.Add (X.cst (V.int (1)))]]]]] := rfl
 conv => enter [2]; rw [hb]
 clear hb
 generalize aJ az = e8
 generalize aJ (aj az) = e7
 generalize aJ (aj (aj az)) = e6
 repeat k_inBlock
 refine bA (k := 4) rfl (da hl) (by decide) ?_
 repeat k_inBlock
 refine ai (by simp [Tk.text, k1]) ?_
 repeat k_inBlock
 refine i_s (ck _ _ _) ?_
 repeat k_inBlock
 refine ai (by simp [k1]) ?_
 repeat k_inBlock
 refine i_s (ck _ _ _) ?_
 repeat k_inBlock
 refine ai (by simp [k1]) ?_
 repeat k_inBlock
 refine i_s (ck _ _ _) ?_
 repeat k_inBlock
 refine ai (by simp [k1]) ?_
 repeat k_inBlock
 refine eH g0 ?_
 repeat k_inBlock
 refine i_s (ck _ _ _) ?_
 repeat k_inBlock
 refine i_s (ck _ _ _) ?_
 repeat k_inBlock
 refine aK g1 ⟨by rw [g2]; show r.length < 1000000; exact iB hr g2, ?_⟩
 repeat k_inBlock
 try dsimp only [List.set]
 have e2 : ((pre.length : Int) + 1) = (((pre ++ (Tk.lit c).text).length : Nat) : Int) := by simp [Tk.text]
 rw [e2]
 exact q _ _ _ _ _ g3
theorem tT {x y : Nat} {Q : Fl → St → Prop} {pre R : List Nat} {held : Bool} {rs : List (List Sg)} {r : List Sg} {ids : List Nat} {fuel : Nat} {x4 x5 x6 x7 : Option V} {tl : List (Option V)} (hx : ag x = true) (hy : ag y = true) (hxy : x ≤ y) (hl : pre.length < 90000) (hR : 3 ≤ R.length) (hh : R.take 1 ≠ [42]) (h : RI cs ids (rs ++ [r])) (hr : r.length < 10000)
  (q : ∀ cs' x4 x5 x6 x7, RI cs' ids (rs ++ [r ++ [(Tk.rng false x y).sg]]) → aC (WT fns aF) (WSs fns au) Q fuel ⟨some (.str (pre ++ ((Tk.rng false x y).text ++ R))) :: some (.cell 1) :: some (.bool held) :: some (.int (((pre ++ (Tk.rng false x y).text).length : Nat) : Int)) :: x4 :: x5 :: x6 :: x7 :: tl, cs'⟩) :
  aC (WT fns aF) (WSs fns au) Q (fuel + 1) ⟨some (.str (pre ++ ((Tk.rng false x y).text ++ R))) :: some (.cell 1) :: some (.bool held) :: some (.int (pre.length : Nat)) :: x4 :: x5 :: x6 :: x7 :: tl, cs⟩ := by
 obtain ⟨is', i, vs, e, g1, g2, g3⟩ := h.sign (s := (false, [(x, y)])) (v := sgV (false, [(x, y)])) (.inl rfl)
 have g0 := h.c1
 rw [e, List.map_append] at g0
 refine ad ?_
 conv => enter [2]; unfold aF
 repeat k_inBlock
 refine af (by simp [Tk.text]; exact xu hR) ?_
 have kx := dT hx
 have ky := dT hy
 refine dP (da hl) (by simp [Tk.text]) (by simp [Tk.text]) (by simp [Tk.text]) (fun _ => by simp [Tk.text]) ?_
 have hb : @Eq (List S) az [S.ite (((X.loc 0).slc (some (X.loc 3)) (some (X.bin Operator.Add (X.loc 3) (X.cst (V.int (4)))))).cmp CmpOp.Eq (X.cst (V.str [40, 63, 33, 41]))) (aJ az) [S.ite (((X.loc 0).idx (X.loc 3)).cmp CmpOp.Eq (X.cst (V.str [46]))) (aJ (aj az)) [S.ite ((((X.loc 0).idx (X.loc 3)).cmp CmpOp.Eq (X.cst (V.str [91]))).and ((X.cst (V.str [93])).cmp CmpOp.In ((X.loc 0).slc (some (X.loc 3)) none))) [S.assign 4 (X.meth Mt.find (X.loc 0) [X.cst (V.str [93]), X.loc 3]), S.assign 5 ((X.loc 0).slc (some (X.bin Operator.Add (X.loc 3) (X.cst (V.int (1))))) (some (X.loc 4))), S.assign 6 (((X.loc 5).slc none (some (X.cst (V.int (1))))).cmp CmpOp.Eq (X.cst (V.str [94]))), S.assign 5 ((X.loc 6).ite ((X.loc 5).slc (some (X.cst (V.int (1)))) none) (X.loc 5)), S.ite (((X.loc 5).cmp CmpOp.Eq (X.cst (V.str []))).or ((((X.loc 5).slc (some (X.cst (V.int (1)))) (some (X.cst (V.int (2))))).cmp CmpOp.Eq (X.cst (V.str [45]))).and (((X.loc 5).slc none (some (X.cst (V.int (1))))).cmp CmpOp.Gt ((X.loc 5).slc (some (X.cst (V.int (2)))) none)))) [S.ret X.new0] [], S.ite (((X.loc 5).slc (some (X.cst (V.int (1)))) (some (X.cst (V.int (2))))).cmp CmpOp.Eq (X.cst (V.str [45]))) [S.expr (X.meth Mt.append ((X.loc 1).idx (X.cst (V.int (1))).neg) [X.tup [X.loc 6, X.lst [X.tup [(X.loc 5).slc none (some (X.cst (V.int (1)))), (X.loc 5).slc (some (X.cst (V.int (2)))) none]]]])] [S.expr (X.meth Mt.append ((X.loc 1).idx (X.cst (V.int (1))).neg) [X.tup [X.loc 6, X.comp false 7 (X.tup [X.loc 7, X.loc 7]) (X.loc 5) []]])], S.assign 3 (X.bin Operator.Add (X.loc 4) (X.cst (V.int (1))))] (aj (aj (aj az)))]]] := rfl
 conv => enter [2]; rw [hb]
 clear hb
 generalize aJ az = e8
 generalize aJ (aj az) = e7
 generalize aj (aj (aj az)) = e6
 have hB : (Tk.rng false x y).text ++ R = 91 :: (([x, 45, y]) ++ 93 :: R) := by simp [Tk.text]
 rw [hB] at q ⊢
 repeat k_inBlock
 refine bA (k := 4) rfl (da hl) (by decide) ?_
 repeat k_inBlock
 repeat k_inBlock
 refine i_s (ck _ _ _) ?_
 repeat k_inBlock
 refine i_s (ck _ _ _) ?_
 repeat k_inBlock
 refine aD rfl rfl (aa (n7 hl)) aA ?_
 rw [cj, List.drop_left' rfl]
 repeat k_inBlock
 try refine ie ?_
 refine af (by simp) ?_
 repeat k_inBlock
 refine jw (j := pre.length + 4) (n6 hl) (dZ (by simp [List.findIdx?_cons, kx, ky])) ?_
 repeat k_inBlock
 refine aD rfl rfl (aa (n5 hl)) (aa (xt hl)) ?_
 rw [show cut (pre ++ 91 :: (([x, 45, y]) ++ 93 :: R)) (some (((pre.length : Nat) : Int) + 1)) (some ((pre.length + 4 : Nat) : Int)) = ([x, 45, y]) from jx _ rfl]
 repeat k_inBlock
 refine aD rfl rfl aA (aa (by decide)) ?_
 rw [show cut ([x, 45, y]) Option.none (some 1) = [x] from rfl]
 repeat k_inBlock
 rw [show decide (([x] : List Nat) = [94]) = false from by simp [kx]]
 repeat k_inBlock
 repeat k_inBlock
 refine aD rfl rfl (aa (by decide)) (aa (by decide)) ?_
 rw [show cut ([x, 45, y]) (some 1) (some 2) = [45] from rfl]
 repeat k_inBlock
 refine aD rfl rfl aA (aa (by decide)) ?_
 rw [show cut ([x, 45, y]) Option.none (some 1) = [x] from rfl]
 repeat k_inBlock
 refine aD rfl rfl (aa (by decide)) aA ?_
 rw [show cut ([x, 45, y]) (some 2) Option.none = [y] from cj _ 2]
 repeat k_inBlock
 rw [lt1]
 repeat k_inBlock
 refine ai (decide_eq_false (n8 hxy)) ?_
 repeat k_inBlock
 refine aD rfl rfl (aa (by decide)) (aa (by decide)) ?_
 rw [show cut ([x, 45, y]) (some 1) (some 2) = [45] from rfl]
 repeat k_inBlock
 refine eH g0 ?_
 repeat k_inBlock
 refine aD rfl rfl aA (aa (by decide)) ?_
 rw [show cut ([x, 45, y]) Option.none (some 1) = [x] from rfl]
 repeat k_inBlock
 refine aD rfl rfl (aa (by decide)) aA ?_
 rw [show cut ([x, 45, y]) (some 2) Option.none = [y] from cj _ 2]
 repeat k_inBlock
 refine aK g1 ⟨by rw [g2]; show r.length < 1000000; exact iB hr g2, ?_⟩
 repeat k_inBlock
 try dsimp only [List.set]
 have e3 : ((pre.length + 4 : Nat) : Int) + 1 = (pre.length : Int) + 5 := xr
 rw [e3]
 rw [← hB] at q ⊢
 have e2 : ((pre.length : Int) + 5) = (((pre ++ (Tk.rng false x y).text).length : Nat) : Int) := by simp [Tk.text]
 rw [e2]
 exact q _ _ _ _ _ g3
theorem rx {x y : Nat} {Q : Fl → St → Prop} {pre R : List Nat} {held : Bool} {rs : List (List Sg)} {r : List Sg} {ids : List Nat} {fuel : Nat} {x4 x5 x6 x7 : Option V} {tl : List (Option V)} (hx : ag x = true) (hy : ag y = true) (hxy : x ≤ y) (hl : pre.length < 90000) (hR : 3 ≤ R.length) (hh : R.take 1 ≠ [42]) (h : RI cs ids (rs ++ [r])) (hr : r.length < 10000)
  (q : ∀ cs' x4 x5 x6 x7, RI cs' ids (rs ++ [r ++ [(Tk.rng true x y).sg]]) → aC (WT fns aF) (WSs fns au) Q fuel ⟨some (.str (pre ++ ((Tk.rng true x y).text ++ R))) :: some (.cell 1) :: some (.bool held) :: some (.int (((pre ++ (Tk.rng true x y).text).length : Nat) : Int)) :: x4 :: x5 :: x6 :: x7 :: tl, cs'⟩) :
  aC (WT fns aF) (WSs fns au) Q (fuel + 1) ⟨some (.str (pre ++ ((Tk.rng true x y).text ++ R))) :: some (.cell 1) :: some (.bool held) :: some (.int (pre.length : Nat)) :: x4 :: x5 :: x6 :: x7 :: tl, cs⟩ := by
 obtain ⟨is', i, vs, e, g1, g2, g3⟩ := h.sign (s := (true, [(x, y)])) (v := sgV (true, [(x, y)])) (.inl rfl)
 have g0 := h.c1
 rw [e, List.map_append] at g0
 refine ad ?_
 conv => enter [2]; unfold aF
 repeat k_inBlock
 refine af (by simp [Tk.text]; exact xw hR) ?_
 have kx := dT hx
 have ky := dT hy
 refine dP (da hl) (by simp [Tk.text]) (by simp [Tk.text]) (by simp [Tk.text]) (fun _ => by simp [Tk.text]) ?_
 have hb : @Eq (List S) az [S.ite (((X.loc 0).slc (some (X.loc 3)) (some (X.bin Operator.Add (X.loc 3) (X.cst (V.int (4)))))).cmp CmpOp.Eq (X.cst (V.str [40, 63, 33, 41]))) (aJ az) [S.ite (((X.loc 0).idx (X.loc 3)).cmp CmpOp.Eq (X.cst (V.str [46]))) (aJ (aj az)) [S.ite ((((X.loc 0).idx (X.loc 3)).cmp CmpOp.Eq (X.cst (V.str [91]))).and ((X.cst (V.str [93])).cmp CmpOp.In ((X.loc 0).slc (some (X.loc 3)) none))) [S.assign 4 (X.meth Mt.find (X.loc 0) [X.cst (V.str [93]), X.loc 3]), S.assign 5 ((X.loc 0).slc (some (X.bin Operator.Add (X.loc 3) (X.cst (V.int (1))))) (some (X.loc 4))), S.assign 6 (((X.loc 5).slc none (some (X.cst (V.int (1))))).cmp CmpOp.Eq (X.cst (V.str [94]))), S.assign 5 ((X.loc 6).ite ((X.loc 5).slc (some (X.cst (V.int (1)))) none) (X.loc 5)), S.ite (((X.loc 5).cmp CmpOp.Eq (X.cst (V.str []))).or ((((X.loc 5).slc (some (X.cst (V.int (1)))) (some (X.cst (V.int (2))))).cmp CmpOp.Eq (X.cst (V.str [45]))).and (((X.loc 5).slc none (some (X.cst (V.int (1))))).cmp CmpOp.Gt ((X.loc 5).slc (some (X.cst (V.int (2)))) none)))) [S.ret X.new0] [], S.ite (((X.loc 5).slc (some (X.cst (V.int (1)))) (some (X.cst (V.int (2))))).cmp CmpOp.Eq (X.cst (V.str [45]))) [S.expr (X.meth Mt.append ((X.loc 1).idx (X.cst (V.int (1))).neg) [X.tup [X.loc 6, X.lst [X.tup [(X.loc 5).slc none (some (X.cst (V.int (1)))), (X.loc 5).slc (some (X.cst (V.int (2)))) none]]]])] [S.expr (X.meth Mt.append ((X.loc 1).idx (X.cst (V.int (1))).neg) [X.tup [X.loc 6, X.comp false 7 (X.tup [X.loc 7, X.loc 7]) (X.loc 5) []]])], S.assign 3 (X.bin Operator.Add (X.loc 4) (X.cst (V.int (1))))] (aj (aj (aj az)))]]] := rfl
 conv => enter [2]; rw [hb]
 clear hb
 generalize aJ az = e8
 generalize aJ (aj az) = e7
 generalize aj (aj (aj az)) = e6
 have hB : (Tk.rng true x y).text ++ R = 91 :: ((94 :: [x, 45, y]) ++ 93 :: R) := by simp [Tk.text]
 rw [hB] at q ⊢
 repeat k_inBlock
 refine bA (k := 4) rfl (da hl) (by decide) ?_
 repeat k_inBlock
 repeat k_inBlock
 refine i_s (ck _ _ _) ?_
 repeat k_inBlock
 refine i_s (ck _ _ _) ?_
 repeat k_inBlock
 refine aD rfl rfl (aa (n7 hl)) aA ?_
 rw [cj, List.drop_left' rfl]
 repeat k_inBlock
 try refine ie ?_
 refine af (by simp) ?_
 repeat k_inBlock
 refine jw (j := pre.length + 5) (n6 hl) (dZ (by simp [List.findIdx?_cons, kx, ky])) ?_
 repeat k_inBlock
 refine aD rfl rfl (aa (n5 hl)) (aa (De hl)) ?_
 rw [show cut (pre ++ 91 :: ((94 :: [x, 45, y]) ++ 93 :: R)) (some (((pre.length : Nat) : Int) + 1)) (some ((pre.length + 5 : Nat) : Int)) = (94 :: [x, 45, y]) from jx _ rfl]
 repeat k_inBlock
 refine aD rfl rfl aA (aa (by decide)) ?_
 rw [show cut (94 :: [x, 45, y]) Option.none (some 1) = [94] from rfl]
 repeat k_inBlock
 rw [show decide (([94] : List Nat) = [94]) = true from rfl]
 repeat k_inBlock
 refine aD rfl rfl (aa (by decide)) aA ?_
 rw [show cut (94 :: [x, 45, y]) (some 1) Option.none = [x, 45, y] from cj _ 1]
 repeat k_inBlock
 repeat k_inBlock
 refine aD rfl rfl (aa (by decide)) (aa (by decide)) ?_
 rw [show cut ([x, 45, y]) (some 1) (some 2) = [45] from rfl]
 repeat k_inBlock
 refine aD rfl rfl aA (aa (by decide)) ?_
 rw [show cut ([x, 45, y]) Option.none (some 1) = [x] from rfl]
 repeat k_inBlock
 refine aD rfl rfl (aa (by decide)) aA ?_
 rw [show cut ([x, 45, y]) (some 2) Option.none = [y] from cj _ 2]
 repeat k_inBlock
 rw [lt1]
 repeat k_inBlock
 refine ai (decide_eq_false (n8 hxy)) ?_
 repeat k_inBlock
 refine aD rfl rfl (aa (by decide)) (aa (by decide)) ?_
 rw [show cut ([x, 45, y]) (some 1) (some 2) = [45] from rfl]
 repeat k_inBlock
 refine eH g0 ?_
 repeat k_inBlock
 refine aD rfl rfl aA (aa (by decide)) ?_
 rw [show cut ([x, 45, y]) Option.none (some 1) = [x] from rfl]
 repeat k_inBlock
 refine aD rfl rfl (aa (by decide)) aA ?_
 rw [show cut ([x, 45, y]) (some 2) Option.none = [y] from cj _ 2]
 repeat k_inBlock
 refine aK g1 ⟨by rw [g2]; show r.length < 1000000; exact iB hr g2, ?_⟩
 repeat k_inBlock
 try dsimp only [List.set]
 have e3 : ((pre.length + 5 : Nat) : Int) + 1 = (pre.length : Int) + 6 := Dd
 rw [e3]
 rw [← hB] at q ⊢
 have e2 : ((pre.length : Int) + 6) = (((pre ++ (Tk.rng true x y).text).length : Nat) : Int) := by simp [Tk.text]
 rw [e2]
 exact q _ _ _ _ _ g3
theorem tU {x y : Nat} {Q : Fl → St → Prop} {pre R : List Nat} {held : Bool} {rs : List (List Sg)} {r : List Sg} {ids : List Nat} {fuel : Nat} {x4 x5 x6 x7 : Option V} {tl : List (Option V)} (hx : ag x = true) (hy : ag y = true) (hl : pre.length < 90000) (hR : 3 ≤ R.length) (hh : R.take 1 ≠ [42]) (h : RI cs ids (rs ++ [r])) (hr : r.length < 10000)
  (q : ∀ cs' x4 x5 x6 x7, RI cs' ids (rs ++ [r ++ [(Tk.two false x y).sg]]) → aC (WT fns aF) (WSs fns au) Q fuel ⟨some (.str (pre ++ ((Tk.two false x y).text ++ R))) :: some (.cell 1) :: some (.bool held) :: some (.int (((pre ++ (Tk.two false x y).text).length : Nat) : Int)) :: x4 :: x5 :: x6 :: x7 :: tl, cs'⟩) :
  aC (WT fns aF) (WSs fns au) Q (fuel + 1) ⟨some (.str (pre ++ ((Tk.two false x y).text ++ R))) :: some (.cell 1) :: some (.bool held) :: some (.int (pre.length : Nat)) :: x4 :: x5 :: x6 :: x7 :: tl, cs⟩ := by
 obtain ⟨is', i, vs, e, g1, g2, g3⟩ := h.sign (s := (false, [(x, x), (y, y)])) (v := sgV (false, [(x, x), (y, y)])) (.inl rfl)
 have g0 := h.c1
 rw [e, List.map_append] at g0
 refine ad ?_
 conv => enter [2]; unfold aF
 repeat k_inBlock
 refine af (by simp [Tk.text]; exact xv hR) ?_
 have kx := dT hx
 have ky := dT hy
 refine dP (da hl) (by simp [Tk.text]) (by simp [Tk.text]) (by simp [Tk.text]) (fun _ => by simp [Tk.text]) ?_
 have hb : @Eq (List S) az [S.ite (((X.loc 0).slc (some (X.loc 3)) (some (X.bin Operator.Add (X.loc 3) (X.cst (V.int (4)))))).cmp CmpOp.Eq (X.cst (V.str [40, 63, 33, 41]))) (aJ az) [S.ite (((X.loc 0).idx (X.loc 3)).cmp CmpOp.Eq (X.cst (V.str [46]))) (aJ (aj az)) [S.ite ((((X.loc 0).idx (X.loc 3)).cmp CmpOp.Eq (X.cst (V.str [91]))).and ((X.cst (V.str [93])).cmp CmpOp.In ((X.loc 0).slc (some (X.loc 3)) none))) [S.assign 4 (X.meth Mt.find (X.loc 0) [X.cst (V.str [93]), X.loc 3]), S.assign 5 ((X.loc 0).slc (some (X.bin Operator.Add (X.loc 3) (X.cst (V.int (1))))) (some (X.loc 4))), S.assign 6 (((X.loc 5).slc none (some (X.cst (V.int (1))))).cmp CmpOp.Eq (X.cst (V.str [94]))), S.assign 5 ((X.loc 6).ite ((X.loc 5).slc (some (X.cst (V.int (1)))) none) (X.loc 5)), S.ite (((X.loc 5).cmp CmpOp.Eq (X.cst (V.str []))).or ((((X.loc 5).slc (some (X.cst (V.int (1)))) (some (X.cst (V.int (2))))).cmp CmpOp.Eq (X.cst (V.str [45]))).and (((X.loc 5).slc none (some (X.cst (V.int (1))))).cmp CmpOp.Gt ((X.loc 5).slc (some (X.cst (V.int (2)))) none)))) [S.ret X.new0] [], S.ite (((X.loc 5).slc (some (X.cst (V.int (1)))) (some (X.cst (V.int (2))))).cmp CmpOp.Eq (X.cst (V.str [45]))) [S.expr (X.meth Mt.append ((X.loc 1).idx (X.cst (V.int (1))).neg) [X.tup [X.loc 6, X.lst [X.tup [(X.loc 5).slc none (some (X.cst (V.int (1)))), (X.loc 5).slc (some (X.cst (V.int (2)))) none]]]])] [S.expr (X.meth Mt.append ((X.loc 1).idx (X.cst (V.int (1))).neg) [X.tup [X.loc 6, X.comp false 7 (X.tup [X.loc 7, X.loc 7]) (X.loc 5) []]])], S.assign 3 (X.bin Operator.Add (X.loc 4) (X.cst (V.int (1))))] (aj (aj (aj az)))]]] := rfl
 conv => enter [2]; rw [hb]
 clear hb
 generalize aJ az = e8
 generalize aJ (aj az) = e7
 generalize aj (aj (aj az)) = e6
 have hB : (Tk.two false x y).text ++ R = 91 :: (([x, y]) ++ 93 :: R) := by simp [Tk.text]
 rw [hB] at q ⊢
 repeat k_inBlock
 refine bA (k := 4) rfl (da hl) (by decide) ?_
 repeat k_inBlock
 repeat k_inBlock
 refine i_s (ck _ _ _) ?_
 repeat k_inBlock
 refine i_s (ck _ _ _) ?_
 repeat k_inBlock
 refine aD rfl rfl (aa (n7 hl)) aA ?_
 rw [cj, List.drop_left' rfl]
 repeat k_inBlock
 try refine ie ?_
 refine af (by simp) ?_
 repeat k_inBlock
 refine jw (j := pre.length + 3) (n6 hl) (dZ (by simp [List.findIdx?_cons, kx, ky])) ?_
 repeat k_inBlock
 refine aD rfl rfl (aa (n5 hl)) (aa (Dc hl)) ?_
 rw [show cut (pre ++ 91 :: (([x, y]) ++ 93 :: R)) (some (((pre.length : Nat) : Int) + 1)) (some ((pre.length + 3 : Nat) : Int)) = ([x, y]) from jx _ rfl]
 repeat k_inBlock
 refine aD rfl rfl aA (aa (by decide)) ?_
 rw [show cut ([x, y]) Option.none (some 1) = [x] from rfl]
 repeat k_inBlock
 rw [show decide (([x] : List Nat) = [94]) = false from by simp [kx]]
 repeat k_inBlock
 repeat k_inBlock
 refine aD rfl rfl (aa (by decide)) (aa (by decide)) ?_
 rw [show cut ([x, y]) (some 1) (some 2) = [y] from rfl]
 repeat k_inBlock
 refine ai (by simp [ky]) ?_
 repeat k_inBlock
 refine aD rfl rfl (aa (by decide)) (aa (by decide)) ?_
 rw [show cut ([x, y]) (some 1) (some 2) = [y] from rfl]
 repeat k_inBlock
 refine ai (by simp [ky]) ?_
 repeat k_inBlock
 refine eH g0 ?_
 repeat k_inBlock
 repeat k_inBlock
 refine bZ rfl ⟨by show 2 ≤ 1000000; decide, ?_⟩
 repeat k_inBlock
 refine mv ?_
 repeat k_inBlock
 refine aK g1 ⟨by rw [g2]; show r.length < 1000000; exact iB hr g2, ?_⟩
 repeat k_inBlock
 try dsimp only [List.set]
 have e3 : ((pre.length + 3 : Nat) : Int) + 1 = (pre.length : Int) + 4 := Db
 rw [e3]
 rw [← hB] at q ⊢
 have e2 : ((pre.length : Int) + 4) = (((pre ++ (Tk.two false x y).text).length : Nat) : Int) := by simp [Tk.text]
 rw [e2]
 exact q _ _ _ _ _ g3
theorem rz {x y : Nat} {Q : Fl → St → Prop} {pre R : List Nat} {held : Bool} {rs : List (List Sg)} {r : List Sg} {ids : List Nat} {fuel : Nat} {x4 x5 x6 x7 : Option V} {tl : List (Option V)} (hx : ag x = true) (hy : ag y = true) (hl : pre.length < 90000) (hR : 3 ≤ R.length) (hh : R.take 1 ≠ [42]) (h : RI cs ids (rs ++ [r])) (hr : r.length < 10000)
  (q : ∀ cs' x4 x5 x6 x7, RI cs' ids (rs ++ [r ++ [(Tk.two true x y).sg]]) → aC (WT fns aF) (WSs fns au) Q fuel ⟨some (.str (pre ++ ((Tk.two true x y).text ++ R))) :: some (.cell 1) :: some (.bool held) :: some (.int (((pre ++ (Tk.two true x y).text).length : Nat) : Int)) :: x4 :: x5 :: x6 :: x7 :: tl, cs'⟩) :
  aC (WT fns aF) (WSs fns au) Q (fuel + 1) ⟨some (.str (pre ++ ((Tk.two true x y).text ++ R))) :: some (.cell 1) :: some (.bool held) :: some (.int (pre.length : Nat)) :: x4 :: x5 :: x6 :: x7 :: tl, cs⟩ := by
 obtain ⟨is', i, vs, e, g1, g2, g3⟩ := h.sign (s := (true, [(x, x), (y, y)])) (v := sgV (true, [(x, x), (y, y)])) (.inl rfl)
 have g0 := h.c1
 rw [e, List.map_append] at g0
 refine ad ?_
 conv => enter [2]; unfold aF
 repeat k_inBlock
 refine af (by simp [Tk.text]; exact xu hR) ?_
 have kx := dT hx
 have ky := dT hy
 refine dP (da hl) (by simp [Tk.text]) (by simp [Tk.text]) (by simp [Tk.text]) (fun _ => by simp [Tk.text]) ?_
 have hb : @Eq (List S) az [S.ite (((X.loc 0).slc (some (X.loc 3)) (some (X.bin Operator.Add (X.loc 3) (X.cst (V.int (4)))))).cmp CmpOp.Eq (X.cst (V.str [40, 63, 33, 41]))) (aJ az) [S.ite (((X.loc 0).idx (X.loc 3)).cmp CmpOp.Eq (X.cst (V.str [46]))) (aJ (aj az)) [S.ite ((((X.loc 0).idx (X.loc 3)).cmp CmpOp.Eq (X.cst (V.str [91]))).and ((X.cst (V.str [93])).cmp CmpOp.In ((X.loc 0).slc (some (X.loc 3)) none))) [S.assign 4 (X.meth Mt.find (X.loc 0) [X.cst (V.str [93]), X.loc 3]), S.assign 5 ((X.loc 0).slc (some (X.bin Operator.Add (X.loc 3) (X.cst (V.int (1))))) (some (X.loc 4))), S.assign 6 (((X.loc 5).slc none (some (X.cst (V.int (1))))).cmp CmpOp.Eq (X.cst (V.str [94]))), S.assign 5 ((X.loc 6).ite ((X.loc 5).slc (some (X.cst (V.int (1)))) none) (X.loc 5)), S.ite (((X.loc 5).cmp CmpOp.Eq (X.cst (V.str []))).or ((((X.loc 5).slc (some (X.cst (V.int (1)))) (some (X.cst (V.int (2))))).cmp CmpOp.Eq (X.cst (V.str [45]))).and (((X.loc 5).slc none (some (X.cst (V.int (1))))).cmp CmpOp.Gt ((X.loc 5).slc (some (X.cst (V.int (2)))) none)))) [S.ret X.new0] [], S.ite (((X.loc 5).slc (some (X.cst (V.int (1)))) (some (X.cst (V.int (2))))).cmp CmpOp.Eq (X.cst (V.str [45]))) [S.expr (X.meth Mt.append ((X.loc 1).idx (X.cst (V.int (1))).neg) [X.tup [X.loc 6, X.lst [X.tup [(X.loc 5).slc none (some (X.cst (V.int (1)))), (X.loc 5).slc (some (X.cst (V.int (2)))) none]]]])] [S.expr (X.meth Mt.append ((X.loc 1).idx (X.cst (V.int (1))).neg) [X.tup [X.loc 6, X.comp false 7 (X.tup [X.loc 7, X.loc 7]) (X.loc 5) []]])], S.assign 3 (X.bin Operator.Add (X.loc 4) (X.cst (V.int (1))))] (aj (aj (aj az)))]]] := rfl
 conv => enter [2]; rw [hb]
 clear hb
 generalize aJ az = e8
 generalize aJ (aj az) = e7
 generalize aj (aj (aj az)) = e6
 have hB : (Tk.two true x y).text ++ R = 91 :: ((94 :: [x, y]) ++ 93 :: R) := by simp [Tk.text]
 rw [hB] at q ⊢
 repeat k_inBlock
 refine bA (k := 4) rfl (da hl) (by decide) ?_
 repeat k_inBlock
 repeat k_inBlock
 refine i_s (ck _ _ _) ?_
 repeat k_inBlock
 refine i_s (ck _ _ _) ?_
 repeat k_inBlock
 refine aD rfl rfl (aa (n7 hl)) aA ?_
 rw [cj, List.drop_left' rfl]
 repeat k_inBlock
 try refine ie ?_
 refine af (by simp) ?_
 repeat k_inBlock
 refine jw (j := pre.length + 4) (n6 hl) (dZ (by simp [List.findIdx?_cons, kx, ky])) ?_
 repeat k_inBlock
 refine aD rfl rfl (aa (n5 hl)) (aa (xt hl)) ?_
 rw [show cut (pre ++ 91 :: ((94 :: [x, y]) ++ 93 :: R)) (some (((pre.length : Nat) : Int) + 1)) (some ((pre.length + 4 : Nat) : Int)) = (94 :: [x, y]) from jx _ rfl]
 repeat k_inBlock
 refine aD rfl rfl aA (aa (by decide)) ?_
 rw [show cut (94 :: [x, y]) Option.none (some 1) = [94] from rfl]
 repeat k_inBlock
 rw [show decide (([94] : List Nat) = [94]) = true from rfl]
 repeat k_inBlock
 refine aD rfl rfl (aa (by decide)) aA ?_
 rw [show cut (94 :: [x, y]) (some 1) Option.none = [x, y] from cj _ 1]
 repeat k_inBlock
 repeat k_inBlock
 refine aD rfl rfl (aa (by decide)) (aa (by decide)) ?_
 rw [show cut ([x, y]) (some 1) (some 2) = [y] from rfl]
 repeat k_inBlock
 refine ai (by simp [ky]) ?_
 repeat k_inBlock
 refine aD rfl rfl (aa (by decide)) (aa (by decide)) ?_
 rw [show cut ([x, y]) (some 1) (some 2) = [y] from rfl]
 repeat k_inBlock
 refine ai (by simp [ky]) ?_
 repeat k_inBlock
 refine eH g0 ?_
 repeat k_inBlock
 repeat k_inBlock
 refine bZ rfl ⟨by show 2 ≤ 1000000; decide, ?_⟩
 repeat k_inBlock
 refine mv ?_
 repeat k_inBlock
 refine aK g1 ⟨by rw [g2]; show r.length < 1000000; exact iB hr g2, ?_⟩
 repeat k_inBlock
 try dsimp only [List.set]
 have e3 : ((pre.length + 4 : Nat) : Int) + 1 = (pre.length : Int) + 5 := xr
 rw [e3]
 rw [← hB] at q ⊢
 have e2 : ((pre.length : Int) + 5) = (((pre ++ (Tk.two true x y).text).length : Nat) : Int) := by simp [Tk.text]
 rw [e2]
 exact q _ _ _ _ _ g3
end
noncomputable def tkT (g : List Tk) : Txt := g.flatMap Tk.text
noncomputable def sgs (g : List Tk) : List Sg := g.map Tk.sg
noncomputable def ij : List (List Tk) → Nat
 | [] => 1
 | [g] => g.length + 2
 | g :: g' :: r => g.length + 2 + ij (g' :: r)
section
variable {fns : Fns} {cs : List (List V)} {K : V → Prop} {KS : V → St → Prop} {st : St} {loc : List (Option V)}
theorem wo {t : Tk} (ht : t.ok) {Q : Fl → St → Prop} {pre R : List Nat} {held : Bool} {rs : List (List Sg)} {r : List Sg} {ids : List Nat} {fuel : Nat} {x4 x5 x6 x7 : Option V} {tl : List (Option V)} (hl : pre.length < 90000) (hR : 3 ≤ R.length) (hh : R.take 1 ≠ [42]) (h : RI cs ids (rs ++ [r])) (hr : r.length < 10000)
  (q : ∀ cs' x4 x5 x6 x7, RI cs' ids (rs ++ [r ++ [t.sg]]) → aC (WT fns aF) (WSs fns au) Q fuel ⟨some (.str (pre ++ (t.text ++ R))) :: some (.cell 1) :: some (.bool held) :: some (.int (((pre ++ t.text).length : Nat) : Int)) :: x4 :: x5 :: x6 :: x7 :: tl, cs'⟩) :
  aC (WT fns aF) (WSs fns au) Q (fuel + 1) ⟨some (.str (pre ++ (t.text ++ R))) :: some (.cell 1) :: some (.bool held) :: some (.int (pre.length : Nat)) :: x4 :: x5 :: x6 :: x7 :: tl, cs⟩ := by
 cases t with
 | any => exact tR hl hR hh h hr q
 | never => exact pP hl hR hh h hr q
 | lit c => exact tS ht hl hR hh h hr q
 | rng b x y => cases b with
  | false => exact tT ht.1 ht.2.1 ht.2.2 hl hR hh h hr q
  | true => exact rx ht.1 ht.2.1 ht.2.2 hl hR hh h hr q
 | two b x y => cases b with
  | false => exact tU ht.1 ht.2 hl hR hh h hr q
  | true => exact rz ht.1 ht.2 hl hR hh h hr q
theorem Tk.head {t : Tk} (ht : t.ok) (R : List Nat) : (t.text ++ R).take 1 ≠ [42] := by
 cases t with
 | any => simp [Tk.text]
 | never => simp [Tk.text]
 | lit c =>
  have : c ≠ 42 := by rcases iw ht with q | q | q <;> (first | exact Dk q | exact Dl q | exact Dm q)
  simp [Tk.text, this]
 | rng b x y => cases b <;> simp [Tk.text]
 | two b x y => cases b <;> simp [Tk.text]
theorem tV {g : List Tk} (hg : ∀ t ∈ g, t.ok) {R : List Nat} (hR : R.take 1 ≠ [42]) : (tkT g ++ R).take 1 ≠ [42] := by
 cases g with
 | nil => exact hR
 | cons t g =>
  have := Tk.head (hg t (by simp)) (tkT g ++ R)
  simpa [tkT] using this
theorem hJ {Q : Fl → St → Prop} {held : Bool} {rs : List (List Sg)} {ids : List Nat} {fuel : Nat} {tl : List (Option V)} {R : List Nat} (hR : 3 ≤ R.length) (hh : R.take 1 ≠ [42]) : ∀ (g : List Tk) (pre : List Nat) (r : List Sg) (cs : List (List V)) (x4 x5 x6 x7 : Option V), (∀ t ∈ g, t.ok) → (pre ++ tkT g).length < 90000 → RI cs ids (rs ++ [r]) → r.length + g.length < 10000 →
  (∀ cs' x4 x5 x6 x7, RI cs' ids (rs ++ [r ++ sgs g]) → aC (WT fns aF) (WSs fns au) Q fuel ⟨some (.str (pre ++ (tkT g ++ R))) :: some (.cell 1) :: some (.bool held) :: some (.int (((pre ++ tkT g).length : Nat) : Int)) :: x4 :: x5 :: x6 :: x7 :: tl, cs'⟩) →
  aC (WT fns aF) (WSs fns au) Q (g.length + fuel) ⟨some (.str (pre ++ (tkT g ++ R))) :: some (.cell 1) :: some (.bool held) :: some (.int (pre.length : Nat)) :: x4 :: x5 :: x6 :: x7 :: tl, cs⟩ := by
 intro g
 induction g with
 | nil =>
  intro pre r cs x4 x5 x6 x7 hg hl h hr q
  have q' := q cs x4 x5 x6 x7 (by simpa [sgs] using h)
  simpa [tkT] using q'
 | cons t g ih =>
  intro pre r cs x4 x5 x6 x7 hg hl h hr q
  have e : tkT (t :: g) ++ R = t.text ++ (tkT g ++ R) := by simp [tkT]
  have el : (t :: g).length + fuel = (g.length + fuel) + 1 := by simp; exact xA
  have hl2 : pre.length < 90000 := by simp at hl; exact Dj hl
  rw [e, el]
  refine wo (hg t (by simp)) hl2 (by simp; exact Di hR) (tV (fun t' h' => hg t' (by simp [h'])) hh) h (by simp at hr; exact Dh hr el) (fun cs' x4 x5 x6 x7 h' => ?_)
  rw [← List.append_assoc]
  refine ih (pre ++ t.text) (r ++ [t.sg]) cs' x4 x5 x6 x7 (fun t' h'' => hg t' (by simp [h''])) (by simpa [tkT] using hl) h' (by simp at hr ⊢; exact Dg hr el) (fun cs' x4 x5 x6 x7 h'' => ?_)
  have q' := q cs' x4 x5 x6 x7 (by simpa [sgs] using h'')
  simpa [tkT] using q'
theorem rF {Q : Fl → St → Prop} {pre R : List Nat} {rs : List (List Sg)} {ids : List Nat} {fuel : Nat} {x4 x5 x6 x7 : Option V} {tl : List (Option V)} (hl : pre.length < 90000) (hR : 3 ≤ R.length) (h : RI cs ids rs) (hi : ids.length < 10000)
  (q : ∀ cs' x4 x5 x6 x7, RI cs' (ids ++ [cs.length]) (rs ++ [[]]) → aC (WT fns aF) (WSs fns au) Q fuel ⟨some (.str (pre ++ ([40, 63, 62, 46, 42, 63] ++ R))) :: some (.cell 1) :: some (.bool true) :: some (.int (((pre ++ [40, 63, 62, 46, 42, 63]).length : Nat) : Int)) :: x4 :: x5 :: x6 :: x7 :: tl, cs'⟩) :
  aC (WT fns aF) (WSs fns au) Q (fuel + 1) ⟨some (.str (pre ++ ([40, 63, 62, 46, 42, 63] ++ R))) :: some (.cell 1) :: some (.bool false) :: some (.int (pre.length : Nat)) :: x4 :: x5 :: x6 :: x7 :: tl, cs⟩ := by
 refine ad ?_
 conv => enter [2]; unfold aF
 repeat k_inBlock
 refine af (by simp; exact xw hR) ?_
 have hb : @Eq (List S) au [S.ite ((((X.loc 0).slc (some (X.loc 3)) (some (X.bin Operator.Add (X.loc 3) (X.cst (V.int (6)))))).cmp CmpOp.Eq (X.cst (V.str [40, 63, 62, 46, 42, 63]))).and (X.loc 2).not) [S.expr (X.meth Mt.append (X.loc 1) [X.new0]), S.assign 2 (X.cst (V.bool true)), S.aug 3 Operator.Add (X.cst (V.int (6)))] (aj au)] := rfl
 conv => enter [2]; rw [hb]
 clear hb
 generalize aj au = e9
 repeat k_inBlock
 refine bA (k := 6) rfl (da hl) (by decide) ?_
 repeat k_inBlock
 repeat k_inBlock
 have hc1 : (cs ++ [[]])[1]? = some (ids.map V.cell) := by rw [List.getElem?_append_left (List.getElem?_eq_some_iff.1 h.c1).1]; exact h.c1
 refine aK hc1 ⟨by rw [List.length_map]; show ids.length < 1000000; exact xz hi, ?_⟩
 repeat k_inBlock
 try dsimp only [List.set]
 have e2 : ((pre.length : Int) + 6) = (((pre ++ [40, 63, 62, 46, 42, 63]).length : Nat) : Int) := by simp
 rw [e2]
 exact q _ _ _ _ _ h.run
theorem rG {Q : Fl → St → Prop} {pre R : List Nat} {rs : List (List Sg)} {ids : List Nat} {fuel : Nat} {x4 x5 x6 x7 : Option V} {tl : List (Option V)} (hl : pre.length < 90000) (hR : 3 ≤ R.length) (h : RI cs ids rs) (hi : ids.length < 10000)
  (q : ∀ cs' x4 x5 x6 x7, RI cs' (ids ++ [cs.length]) (rs ++ [[]]) → aC (WT fns aF) (WSs fns au) Q fuel ⟨some (.str (pre ++ ([46, 42] ++ R))) :: some (.cell 1) :: some (.bool false) :: some (.int (((pre ++ [46, 42]).length : Nat) : Int)) :: x4 :: x5 :: x6 :: x7 :: tl, cs'⟩) :
  aC (WT fns aF) (WSs fns au) Q (fuel + 1) ⟨some (.str (pre ++ ([46, 42] ++ R))) :: some (.cell 1) :: some (.bool false) :: some (.int (pre.length : Nat)) :: x4 :: x5 :: x6 :: x7 :: tl, cs⟩ := by
 refine ad ?_
 conv => enter [2]; unfold aF
 repeat k_inBlock
 refine af (by simp; exact Df hR) ?_
 have hb : @Eq (List S) au [S.ite ((((X.loc 0).slc (some (X.loc 3)) (some (X.bin Operator.Add (X.loc 3) (X.cst (V.int (6)))))).cmp CmpOp.Eq (X.cst (V.str [40, 63, 62, 46, 42, 63]))).and (X.loc 2).not) (aJ au)
  [S.ite ((X.loc 2).and ((((X.loc 0).slc (some (X.loc 3)) (some (X.bin Operator.Add (X.loc 3) (X.cst (V.int (3)))))).cmp CmpOp.Eq (X.cst (V.str [41, 46, 42]))).or (((X.loc 0).slc (some (X.loc 3)) (some (X.bin Operator.Add (X.loc 3) (X.cst (V.int (4)))))).cmp CmpOp.Eq (X.cst (V.str [41, 40, 63, 62]))))) (aJ (aj au))
  [S.ite ((((X.loc 0).slc (some (X.loc 3)) (some (X.bin Operator.Add (X.loc 3) (X.cst (V.int (2)))))).cmp CmpOp.Eq (X.cst (V.str [46, 42]))).and (X.loc 2).not) [S.expr (X.meth Mt.append (X.loc 1) [X.new0]), S.aug 3 Operator.Add (X.cst (V.int (2)))] az]]] := rfl
 conv => enter [2]; rw [hb]
 clear hb
 generalize az = e9
 generalize aJ au = e8
 generalize aJ (aj au) = e7
 repeat k_inBlock
 refine bA (k := 6) rfl (da hl) (by decide) ?_
 repeat k_inBlock
 repeat k_inBlock
 refine bA (k := 2) rfl (da hl) (by decide) ?_
 repeat k_inBlock
 repeat k_inBlock
 have hc1 : (cs ++ [[]])[1]? = some (ids.map V.cell) := by rw [List.getElem?_append_left (List.getElem?_eq_some_iff.1 h.c1).1]; exact h.c1
 refine aK hc1 ⟨by rw [List.length_map]; show ids.length < 1000000; exact xz hi, ?_⟩
 repeat k_inBlock
 try dsimp only [List.set]
 have e2 : ((pre.length : Int) + 2) = (((pre ++ [46, 42]).length : Nat) : Int) := by simp
 rw [e2]
 exact q _ _ _ _ _ h.run
theorem pQ {Q : Fl → St → Prop} {pre R : List Nat} {fuel : Nat} {x1 x4 x5 x6 x7 : Option V} {tl : List (Option V)} (hl : pre.length < 90000) (hR : 3 ≤ R.length) (hh : R.take 2 = [46, 42] ∨ R.take 3 = [40, 63, 62])
  (q : ∀ x4 x5 x6 x7, aC (WT fns aF) (WSs fns au) Q fuel ⟨some (.str (pre ++ (41 :: R))) :: x1 :: some (.bool false) :: some (.int (((pre ++ [41]).length : Nat) : Int)) :: x4 :: x5 :: x6 :: x7 :: tl, cs⟩) :
  aC (WT fns aF) (WSs fns au) Q (fuel + 1) ⟨some (.str (pre ++ (41 :: R))) :: x1 :: some (.bool true) :: some (.int (pre.length : Nat)) :: x4 :: x5 :: x6 :: x7 :: tl, cs⟩ := by
 refine ad ?_
 conv => enter [2]; unfold aF
 repeat k_inBlock
 refine af (by simp; exact r9 hR) ?_
 have hb : @Eq (List S) au [S.ite ((((X.loc 0).slc (some (X.loc 3)) (some (X.bin Operator.Add (X.loc 3) (X.cst (V.int (6)))))).cmp CmpOp.Eq (X.cst (V.str [40, 63, 62, 46, 42, 63]))).and (X.loc 2).not) (aJ au)
  [S.ite ((X.loc 2).and ((((X.loc 0).slc (some (X.loc 3)) (some (X.bin Operator.Add (X.loc 3) (X.cst (V.int (3)))))).cmp CmpOp.Eq (X.cst (V.str [41, 46, 42]))).or (((X.loc 0).slc (some (X.loc 3)) (some (X.bin Operator.Add (X.loc 3) (X.cst (V.int (4)))))).cmp CmpOp.Eq (X.cst (V.str [41, 40, 63, 62]))))) [S.assign 2 (X.cst (V.bool false)), S.aug 3 Operator.Add (X.cst (V.int (1)))] (aj (aj au))]] := rfl
 conv => enter [2]; rw [hb]
 clear hb
 generalize aj (aj au) = e9
 generalize aJ au = e8
 have e2 : ((pre.length : Int) + 1) = (((pre ++ [41]).length : Nat) : Int) := by simp
 repeat k_inBlock
 refine bA (k := 6) rfl (sb e2 hl) (by decide) ?_
 repeat k_inBlock
 repeat k_inBlock
 refine bA (k := 3) rfl (sb e2 hl) (by decide) ?_
 rcases hh with hh | hh
 ·repeat k_inBlock
  refine af (by simp [hh]) ?_
  repeat k_inBlock
  try dsimp only [List.set]
  rw [e2]
  exact q _ _ _ _
 ·repeat k_inBlock
  refine dh (fun g => ?_) (fun g => ?_)
  ·repeat k_inBlock
   try dsimp only [List.set]
   rw [e2]
   exact q _ _ _ _
  ·repeat k_inBlock
   refine bA (k := 4) rfl (sb e2 hl) (by decide) ?_
   repeat k_inBlock
   refine af (by simp [hh]) ?_
   repeat k_inBlock
   try dsimp only [List.set]
   rw [e2]
   exact q _ _ _ _
end
noncomputable def txs (g : List Tk) : List Txt := g.map Tk.text
theorem tW (g : List Tk) : (txs g).flatten = tkT g := rfl
noncomputable def bI (more : List (List Tk)) : Txt := b0 (more.map txs)
theorem kz (g : List Tk) : bI [g] = [46, 42] ++ tkT g := rfl
theorem jy (g g' : List Tk) (r : List (List Tk)) : bI (g :: g' :: r) = [40, 63, 62, 46, 42, 63] ++ tkT g ++ [41] ++ bI (g' :: r) := rfl
theorem jz (g : List Tk) (r : List (List Tk)) (R : List Nat) : (bI (g :: r) ++ R).take 2 = [46, 42] ∨ (bI (g :: r) ++ R).take 3 = [40, 63, 62] := by
 cases r with
 | nil => exact .inl rfl
 | cons => exact .inr rfl
section
variable {fns : Fns} {cs : List (List V)} {K : V → Prop} {KS : V → St → Prop} {st : St} {loc : List (Option V)}
theorem tX {Q : Fl → St → Prop} {tl : List (Option V)} {T : List Nat} (hT : T.length < 90000) : ∀ (more : List (List Tk)) (pre : List Nat) (ids : List Nat) (rs : List (List Sg)) (cs : List (List V)) (x4 x5 x6 x7 : Option V), T = pre ++ (bI more ++ [41, 92, 90]) → (∀ g ∈ more, g.length < 9000 ∧ ∀ t ∈ g, t.ok) → RI cs ids rs → ids.length + more.length < 9000 →
  (∀ cs' ids' x3 x4 x5 x6 x7, RI cs' ids' (rs ++ more.map sgs) → Q .next ⟨some (.str T) :: some (.cell 1) :: some (.bool false) :: x3 :: x4 :: x5 :: x6 :: x7 :: tl, cs'⟩) →
  aC (WT fns aF) (WSs fns au) Q (ij more) ⟨some (.str T) :: some (.cell 1) :: some (.bool false) :: some (.int (pre.length : Nat)) :: x4 :: x5 :: x6 :: x7 :: tl, cs⟩ := by
 intro more
 induction more with
 | nil =>
  intro pre ids rs cs x4 x5 x6 x7 hP hg h hi q
  refine ad ?_
  conv => enter [2]; unfold aF
  repeat k_inBlock
  refine ai (by rw [hP]; simp [bI, b0]) ?_
  exact q cs ids _ _ _ _ _ (by simpa using h)
 | cons g more ih =>
  intro pre ids rs cs x4 x5 x6 x7 hP hg h hi q
  obtain ⟨hg1, hg2⟩ := hg g (by simp)
  have hTl : T.length = pre.length + (bI (g :: more)).length + 3 := by rw [hP]; simp; exact DC
  cases more with
  | nil =>
   have e : T = pre ++ ([46, 42] ++ (tkT g ++ [41, 92, 90])) := by rw [hP, kz]; simp
   have hl : T.length = pre.length + 2 + (tkT g).length + 3 := by rw [e]; simp; exact DB
   show aC _ _ Q (g.length + 1 + 1) _
   rw [e] at q ⊢
   refine rG (DA hT hl hTl) (by simp) h (xC hi) (fun cs' x4 x5 x6 x7 h' => ?_)
   have e2 : pre ++ ([46, 42] ++ (tkT g ++ [41, 92, 90])) = (pre ++ [46, 42]) ++ (tkT g ++ [41, 92, 90]) := by simp
   rw [e2] at q ⊢
   refine hJ (by decide) (by simp) g _ [] cs' _ _ _ _ hg2 (by simp; exact Dz hT hl hTl) h' (by simp; exact Dy hg1) (fun cs' x4 x5 x6 x7 h'' => ?_)
   refine ad ?_
   conv => enter [2]; unfold aF
   repeat k_inBlock
   refine ai (by simp; exact Dx) ?_
   exact q cs' _ _ _ _ _ _ (by simpa [sgs] using h'')
  | cons g' r =>
   have e : T = pre ++ ([40, 63, 62, 46, 42, 63] ++ (tkT g ++ (41 :: (bI (g' :: r) ++ [41, 92, 90])))) := by rw [hP, jy]; simp
   have hl : T.length = pre.length + 6 + (tkT g).length + 1 + (bI (g' :: r)).length + 3 := by rw [e]; simp; exact Dw
   have ef : ij (g :: g' :: r) = (g.length + (ij (g' :: r) + 1)) + 1 := by simp [ij]; exact Dv
   rw [ef]
   have e2 : T = (pre ++ [40, 63, 62, 46, 42, 63]) ++ (tkT g ++ (41 :: (bI (g' :: r) ++ [41, 92, 90]))) := by rw [e]; simp
   have e3 : T = (pre ++ [40, 63, 62, 46, 42, 63] ++ tkT g) ++ (41 :: (bI (g' :: r) ++ [41, 92, 90])) := by rw [e]; simp
   have e4 : T = (pre ++ [40, 63, 62, 46, 42, 63] ++ tkT g ++ [41]) ++ (bI (g' :: r) ++ [41, 92, 90]) := by rw [e]; simp
   rw [e]
   refine rF (Du hT hl hTl) (by simp; exact Dt hl hTl) h (xC hi) (fun cs' x4 x5 x6 x7 h' => ?_)
   rw [← e, e2]
   refine hJ (by simp) (by simp) g _ [] cs' _ _ _ _ hg2 (by simp; exact xB hT hl hTl) h' (by simp; exact Ds hg1 ef) (fun cs' x4 x5 x6 x7 h'' => ?_)
   rw [← e2, e3]
   refine pQ (by simp; exact xB hT hl hTl) (by simp) (jz g' r _) (fun x4 x5 x6 x7 => ?_)
   rw [← e3]
   refine ih _ _ _ _ _ _ _ _ e4 (fun g'' h => hg g'' (by simp at h ⊢; exact .inr h)) h'' (by simp at hi ⊢; exact Dr hi) (fun cs' ids' x3 x4 x5 x6 x7 h3 => q cs' ids' x3 x4 x5 x6 x7 ?_)
   simpa [sgs] using h3
noncomputable def cB (r0 : List Tk) (more : List (List Tk)) : Txt := [40, 63, 115, 58] ++ (tkT r0 ++ bI more) ++ [41, 92, 90]
theorem An {r0 : List Tk} {more : List (List Tk)} (hT : (cB r0 more).length < 90000) (h0 : r0.length < 9000 ∧ ∀ t ∈ r0, t.ok) (hg : ∀ g ∈ more, g.length < 9000 ∧ ∀ t ∈ g, t.ok) (hm : more.length < 8000) :
  WSs fns c32 (ba (.lst (rsV (sgs r0) :: more.map fun g => rsV (sgs g)))) ⟨[some (.str (cB r0 more)), none, none, none, none, none, none, none, none, none, none, none, none, none, none], []⟩ := by
 unfold c32
 repeat k_inBlock
 refine aD rfl rfl aA (aa (by decide)) ?_
 rw [show cut (cB r0 more) Option.none (some 4) = [40, 63, 115, 58] from mj _ 4]
 repeat k_inBlock
 refine aD rfl rfl (aa (by decide)) aA ?_
 have e3 : cut (cB r0 more) (some (-3)) Option.none = [41, 92, 90] := by
  simp only [cut, Option.elim, ce]
  rw [if_pos (by decide), List.take_length]
  have : (-3 + ((cB r0 more).length : Int)).toNat = ([40, 63, 115, 58] ++ (tkT r0 ++ bI more)).length := by
   unfold cB; rw [List.length_append]; simp; exact Dq
  rw [this]; exact List.drop_left' rfl
 rw [e3]
 repeat k_inBlock
 try dsimp only [List.set]
 refine bN (r0.length + ij more) ?_
 have e : cB r0 more = [40, 63, 115, 58] ++ (tkT r0 ++ (bI more ++ [41, 92, 90])) := by unfold cB; simp
 have hl : (cB r0 more).length = 4 + (tkT r0).length + (bI more).length + 3 := by unfold cB; simp; exact Dp
 have hi : RI [[], [V.cell 0]] [0] ([] ++ [[]]) := ⟨rfl, by decide, by decide, ⟨⟨[], rfl, trivial⟩, trivial⟩⟩
 have e4 : cB r0 more = ([40, 63, 115, 58] ++ tkT r0) ++ (bI more ++ [41, 92, 90]) := by unfold cB; simp
 rw [e]
 refine hJ (by simp) ?_ r0 [40, 63, 115, 58] [] _ _ _ _ _ h0.2 (by simp; exact Do hT hl) hi (by simp; omega) (fun cs' x4 x5 x6 x7 h' => ?_)
 ·cases more with
  | nil => simp [bI, b0]
  | cons g r =>
   rcases jz g r [41, 92, 90] with q | q
   ·intro q2
    have := congrArg (List.take 1) q
    rw [List.take_take] at this
    rw [show min 1 2 = 1 from rfl, q2] at this
    cases this
   ·intro q2
    have := congrArg (List.take 1) q
    rw [List.take_take] at this
    rw [show min 1 3 = 1 from rfl, q2] at this
    cases this
 rw [← e]
 refine tX hT more _ _ _ _ _ _ _ _ e4 hg h' (by simp; exact Dn hm) (fun cs' ids' x3 x4 x5 x6 x7 h3 => ?_)
 repeat k_inBlock
 have := h3.freeze
 refine ⟨_, 5, rfl, ?_⟩
 rw [this]
 simp [sgs]
end
set_option genInjectivity false in
inductive Pt where
 | star | eq
 | hf (h : Hf)
noncomputable def Pt.text : Pt → Txt
 | .star => [42]
 | .eq => [61]
 | .hf h => h.text
noncomputable def Pt.ok : Pt → Prop
 | .star | .eq => True
 | .hf h => h.wf
noncomputable def hTk : Hf → Tk
 | .any => .any
 | .dig x => .lit (hx x)
 | .rng b x y => if x ≤ y then .rng b (hx x) (hx y) else if b then .any else .never
 | .two b x y => .two b (hx x) (hx y)
theorem cC (n : Nat) (h : n < 16) : ag (hx n) = true := hG (fun c => ag c = true) (by decide) n h
theorem ik {x y : Nat} (hx' : x < 16) (hy : y < 16) : hx x ≤ hx y ↔ x ≤ y := by
 have : ∀ a b : Fin 16, hx a ≤ hx b ↔ (a : Nat) ≤ b := by decide
 exact this ⟨x, hx'⟩ ⟨y, hy⟩
theorem Ao {h : Hf} (w : h.wf) : (hTk h).ok := by
 cases h with
 | any => trivial
 | dig x => exact cC x w
 | rng b x y =>
  simp only [hTk]
  split
  ·rename_i q; exact ⟨cC _ w.1, cC _ w.2, (ik w.1 w.2).2 q⟩
  ·split <;> trivial
 | two b x y => exact ⟨cC _ w.1, cC _ w.2⟩
section
variable {fns : Fns} {cs : List (List V)} {K : V → Prop} {KS : V → St → Prop} {st : St} {loc : List (Option V)}
noncomputable def k7 (fns : Fns) : Prop := ∀ c, ag c = true → fns 1 [.str [c]] (.str [c])
theorem rH {u v : List Nat} {c : Nat} {K : V → List (List V) → Prop} (hc : u.contains c = false) (h : K (.str u) cs) : bL cs .replace (.str u) [.str [c], .str v] K := ⟨hc, h⟩
theorem bW {x : Nat} (h : ag x = true) : x ≠ 42 ∧ x ≠ 63 ∧ x ≠ 91 ∧ x ≠ 93 ∧ x ≠ 33 ∧ x ≠ 45 ∧ x ≠ 94 ∧ x ≠ 92 ∧ x ≠ 38 ∧ x ≠ 124 ∧ x ≠ 126 := ⟨aG h rfl, aG h rfl, aG h rfl, aG h rfl, aG h rfl, aG h rfl, aG h rfl, aG h rfl, aG h rfl, aG h rfl, aG h rfl⟩
theorem eS {pre B : List Nat} {c p q j : Nat} (e : ((B.take q).drop p).findIdx? (· == c) = some j) : bl c (pre ++ B) (pre.length + p) (pre.length + q) = ((pre.length + p + j : Nat) : Int) := by
 unfold bl
 rw [List.take_length_add_append, ← List.drop_drop, List.drop_left' rfl, e]
theorem eT {pre B : List Nat} {c p q : Nat} (e : ((B.take q).drop p).findIdx? (· == c) = Option.none) : bl c (pre ++ B) (pre.length + p) (pre.length + q) = -1 := by
 unfold bl
 rw [List.take_length_add_append, ← List.drop_drop, List.drop_left' rfl, e]
theorem dU {u : List Nat} {c a b : Nat} {j : Int} {K : V → List (List V) → Prop} (ha : a < 1000000000) (hb : b < 1000000000 ∧ b ≤ u.length) (h : bl c u a b = j) (k : K (.int j) cs) : bL cs .find (.str u) [.str [c], .int (a : Nat), .int (b : Nat)] K := by
 refine ⟨xy ha, cN ha, DP hb, cN hb.1, DO hb, ?_⟩
 rw [Int.toNat_natCast, Int.toNat_natCast, h]; exact k
theorem bS {pre B : List Nat} {p q : Nat} : cut (pre ++ B) (some ((pre.length + p : Nat) : Int)) (some ((pre.length + q : Nat) : Int)) = (B.take q).drop p := by
 rw [eD, List.take_length_add_append, ← List.drop_drop, List.drop_left' rfl]
theorem jA {sep : List Nat} {i k : Nat} {l : List Txt} (e : loc[i]? = some (some (.cell k))) (h : cs[k]? = some (stL l)) (ha : l.all (fun x => !x.contains 92 && !x.contains 45) = true) (hl : (bf sep l).length ≤ lim) (q : KS (.str (bf sep l)) ⟨loc, cs⟩) : WE fns (.jgen sep i) KS ⟨loc, cs⟩ := by
 have hb : (aE cs (.cell k)).bind txts = some l := by show (cs[k]?).bind txts = _; rw [h]; exact fr l
 refine hW e ?_
 show cu ((aE cs (.cell k)).bind txts) _
 rw [hb]; exact ⟨ha, hl, q⟩
noncomputable def pR (fns : Fns) (a : Addr) (p : Pt) (t : Txt) : Prop := ∀ {Q : Fl → St → Prop} {pre R : List Nat} {fuel : Nat} {parts : List V} {junk : List (List V)} {x7 x8 x9 x10 x11 x12 : Option V} {tl : List (Option V)},
 pre.length < 9000 → R.length < 9000 → parts.length < 90000 →
 (∀ junk x7 x8 x9 x10 x11 x12, aC (WT fns bc) (WSs fns bg) Q fuel ⟨some (.str (pre ++ (p.text ++ R))) :: some (.con (.ref a)) :: some (.str [46]) :: some (.cell 0) :: some (.app 0) :: some (.int (((pre ++ p.text).length : Nat) : Int)) :: some (.int (((pre ++ (p.text ++ R)).length : Nat) : Int)) :: x7 :: x8 :: x9 :: x10 :: x11 :: x12 :: tl, (parts ++ [.str t]) :: junk⟩) →
 aC (WT fns bc) (WSs fns bg) Q (fuel + 1) ⟨some (.str (pre ++ (p.text ++ R))) :: some (.con (.ref a)) :: some (.str [46]) :: some (.cell 0) :: some (.app 0) :: some (.int (pre.length : Nat)) :: some (.int (((pre ++ (p.text ++ R)).length : Nat) : Int)) :: x7 :: x8 :: x9 :: x10 :: x11 :: x12 :: tl, parts :: junk⟩
theorem Ap {a : Addr} : pR fns a (.hf .any) [46] := by
 intro Q pre R fuel parts junk x7 x8 x9 x10 x11 x12 tl hl hR hp q
 refine ad ?_
 conv => enter [2]; unfold bc
 repeat k_inBlock
 refine af (by simp [Pt.text, Hf.text]; (try clear k1 k2); exact sn hR) ?_
 conv => enter [2]; unfold bg
 repeat k_inBlock
 refine i_s (ck _ _ _) ?_
 repeat k_inBlock
 refine aK rfl ⟨by show parts.length < 1000000; exact fH hp, ?_⟩
 repeat k_inBlock
 try dsimp only [List.set]
 have e2 : ((pre.length : Int) + 1) = (((pre ++ (Pt.hf .any).text).length : Nat) : Int) := by simp [Pt.text, Hf.text]
 rw [e2]
 exact q _ _ _ _ _ _ _
theorem mw {a : Addr} (he : k7 fns) {c : Nat} {p : Pt} (hp : p.text = [c]) (hc : ag c = true) : pR fns a p [c] := by
 intro Q pre R fuel parts junk x7 x8 x9 x10 x11 x12 tl hl hR hpl q
 have k1 : c ≠ 42 ∧ c ≠ 63 ∧ c ≠ 91 := by rcases iw hc with q | q | q <;> (first | exact DL q | exact DM q | exact DN q)
 rw [hp] at q ⊢
 refine ad ?_
 conv => enter [2]; unfold bc
 repeat k_inBlock
 refine af (by simp; (try clear k1 k2); exact sn hR) ?_
 conv => enter [2]; unfold bg
 repeat k_inBlock
 refine i_s (ck _ _ _) ?_
 repeat k_inBlock
 refine ai (by simp [k1]) ?_
 repeat k_inBlock
 refine ai (by simp [k1]) ?_
 repeat k_inBlock
 refine ai (by simp [k1]) ?_
 repeat k_inBlock
 refine dz ⟨rfl, _, he c hc, ?_⟩
 repeat k_inBlock
 refine aK rfl ⟨by show parts.length < 1000000; exact fH hpl, ?_⟩
 repeat k_inBlock
 try dsimp only [List.set]
 have e2 : ((pre.length : Int) + 1) = (((pre ++ [c]).length : Nat) : Int) := by simp
 rw [e2]
 exact q _ _ _ _ _ _ _
theorem Aq {a : Addr} {x y : Nat} (hx' : ag x = true) (hy : ag y = true) {Q : Fl → St → Prop} {pre R : List Nat} {fuel : Nat} {parts : List V} {junk : List (List V)} {x7 x8 x9 x10 x11 x12 : Option V} {tl : List (Option V)}
 (hl : pre.length < 9000) (hR : R.length < 9000) (hpl : parts.length < 90000)
 (q : ∀ junk x7 x8 x9 x10 x11 x12, aC (WT fns bc) (WSs fns bg) Q fuel ⟨some (.str (pre ++ (91 :: x :: y :: 93 :: R))) :: some (.con (.ref a)) :: some (.str [46]) :: some (.cell 0) :: some (.app 0) :: some (.int ((pre.length + 4 : Nat) : Int)) :: some (.int (((pre ++ (91 :: x :: y :: 93 :: R)).length : Nat) : Int)) :: x7 :: x8 :: x9 :: x10 :: x11 :: x12 :: tl, (parts ++ [.str [91, x, y, 93]]) :: junk⟩) :
 aC (WT fns bc) (WSs fns bg) Q (fuel + 1) ⟨some (.str (pre ++ (91 :: x :: y :: 93 :: R))) :: some (.con (.ref a)) :: some (.str [46]) :: some (.cell 0) :: some (.app 0) :: some (.int (pre.length : Nat)) :: some (.int (((pre ++ (91 :: x :: y :: 93 :: R)).length : Nat) : Int)) :: x7 :: x8 :: x9 :: x10 :: x11 :: x12 :: tl, parts :: junk⟩ := by
 have k1 := bW hx'
 have k2 := bW hy
 have ln : (pre ++ (91 :: x :: y :: 93 :: R)).length = pre.length + R.length + 4 := by simp; exact DK
 refine ad ?_
 conv => enter [2]; unfold bc
 repeat k_inBlock
 refine af (by rw [ln]; simp; (try clear k1 k2); exact DJ hR) ?_
 conv => enter [2]; unfold bg
 repeat k_inBlock
 refine i_s (ck _ _ _) ?_
 repeat k_inBlock
 try dsimp only [List.set]
 rw [ln]
 repeat k_inBlock
 refine af (by simp; (try clear k1 k2); exact sm hR) ?_
 repeat k_inBlock
 refine i_s (n := pre.length + 1) (c := x) (by rw [av]; rfl) ?_
 repeat k_inBlock
 refine ai (by simp [k1]) ?_
 repeat k_inBlock
 refine af (by simp; (try clear k1 k2); exact sm hR) ?_
 repeat k_inBlock
 refine i_s (n := pre.length + 1) (c := x) (by rw [av]; rfl) ?_
 repeat k_inBlock
 refine ai (by simp [k1]) ?_
 repeat k_inBlock
 refine bN 3 ?_
 refine ad ?_
 conv => enter [2]; unfold bF
 repeat k_inBlock
 refine af (by simp; (try clear k1 k2); exact sm hR) ?_
 repeat k_inBlock
 refine i_s (n := pre.length + 1) (c := x) (by rw [av]; rfl) ?_
 repeat k_inBlock
 refine af (by simp [k1, k2]) ?_
 conv => enter [2]; unfold cA
 repeat k_inBlock
 try dsimp only [List.set]
 refine ad ?_
 conv => enter [2]; unfold bF
 repeat k_inBlock
 refine af (by simp; (try clear k1 k2); exact DI hR) ?_
 repeat k_inBlock
 refine i_s (n := pre.length + 2) (c := y) (by rw [av]; rfl) ?_
 repeat k_inBlock
 refine af (by simp [k1, k2]) ?_
 conv => enter [2]; unfold cA
 repeat k_inBlock
 try dsimp only [List.set]
 refine ad ?_
 conv => enter [2]; unfold bF
 repeat k_inBlock
 refine af (by simp; (try clear k1 k2); exact DH hR) ?_
 repeat k_inBlock
 refine i_s (n := pre.length + 3) (c := 93) (by rw [av]; rfl) ?_
 repeat k_inBlock
 have ej : (pre.length : Int) + 1 + 1 + 1 = ((pre.length + 3 : Nat) : Int) := by (try clear k1 k2); exact DG
 have ei : (pre.length : Int) + 1 = ((pre.length + 1 : Nat) : Int) := rfl
 rw [ej]
 try rw [ei]
 refine ai (by simp; (try clear k1 k2); exact DF hR) ?_
 repeat k_inBlock
 refine aD rfl rfl (aa (by (try clear k1 k2); exact DE hl ln)) (aa (by (try clear k1 k2); exact DD hl ln)) ?_
 rw [bS, show List.drop 1 (List.take 3 (91 :: x :: y :: 93 :: R)) = [x, y] from rfl]
 repeat k_inBlock
 refine af (by simp [k1, k2, eq_comm (a := 45)]) ?_
 repeat k_inBlock
 refine rH (by simp [k1, k2, eq_comm (a := 92)]) ?_
 repeat k_inBlock
 refine ⟨by simp [k1, k2], ?_⟩
 repeat k_inBlock
 repeat k_inBlock
 refine ai (by simp [k1, k2]) ?_
 repeat k_inBlock
 refine i_s (n := 0) rfl ?_
 repeat k_inBlock
 refine ai (by simp [k1, k2]) ?_
 repeat k_inBlock
 refine ai (by simp [k1, k2]) ?_
 repeat k_inBlock
 refine ⟨by show _ ≤ 1000000; simp, ?_⟩
 repeat k_inBlock
 refine aK rfl ⟨by show parts.length < 1000000; exact fH hpl, ?_⟩
 repeat k_inBlock
 try dsimp only [List.set]
 have e9 : ((pre.length + 3 : Nat) : Int) + 1 = ((pre.length + 4 : Nat) : Int) := rfl
 rw [e9, ← ln]
 exact q _ _ _ _ _ _ _
theorem wq {a : Addr} {x y : Nat} (hx' : ag x = true) (hy : ag y = true) {Q : Fl → St → Prop} {pre R : List Nat} {fuel : Nat} {parts : List V} {junk : List (List V)} {x7 x8 x9 x10 x11 x12 : Option V} {tl : List (Option V)}
 (hl : pre.length < 9000) (hR : R.length < 9000) (hpl : parts.length < 90000)
 (q : ∀ junk x7 x8 x9 x10 x11 x12, aC (WT fns bc) (WSs fns bg) Q fuel ⟨some (.str (pre ++ (91 :: 33 :: x :: y :: 93 :: R))) :: some (.con (.ref a)) :: some (.str [46]) :: some (.cell 0) :: some (.app 0) :: some (.int ((pre.length + 5 : Nat) : Int)) :: some (.int (((pre ++ (91 :: 33 :: x :: y :: 93 :: R)).length : Nat) : Int)) :: x7 :: x8 :: x9 :: x10 :: x11 :: x12 :: tl, (parts ++ [.str [91, 94, x, y, 93]]) :: junk⟩) :
 aC (WT fns bc) (WSs fns bg) Q (fuel + 1) ⟨some (.str (pre ++ (91 :: 33 :: x :: y :: 93 :: R))) :: some (.con (.ref a)) :: some (.str [46]) :: some (.cell 0) :: some (.app 0) :: some (.int (pre.length : Nat)) :: some (.int (((pre ++ (91 :: 33 :: x :: y :: 93 :: R)).length : Nat) : Int)) :: x7 :: x8 :: x9 :: x10 :: x11 :: x12 :: tl, parts :: junk⟩ := by
 have k1 := bW hx'
 have k2 := bW hy
 have ln : (pre ++ (91 :: 33 :: x :: y :: 93 :: R)).length = pre.length + R.length + 5 := by simp; exact sk
 refine ad ?_
 conv => enter [2]; unfold bc
 repeat k_inBlock
 refine af (by rw [ln]; simp; (try clear k1 k2); exact si hR) ?_
 conv => enter [2]; unfold bg
 repeat k_inBlock
 refine i_s (ck _ _ _) ?_
 repeat k_inBlock
 try dsimp only [List.set]
 rw [ln]
 repeat k_inBlock
 refine af (by simp; (try clear k1 k2); exact iC hR) ?_
 repeat k_inBlock
 refine i_s (n := pre.length + 1) (c := 33) (by rw [av]; rfl) ?_
 repeat k_inBlock
 try dsimp only [List.set]
 refine af (by simp; (try clear k1 k2); exact oh hR) ?_
 repeat k_inBlock
 refine i_s (n := pre.length + 2) (c := x) (by rw [av]; rfl) ?_
 repeat k_inBlock
 refine ai (by simp [k1]) ?_
 repeat k_inBlock
 refine bN 3 ?_
 refine ad ?_
 conv => enter [2]; unfold bF
 repeat k_inBlock
 refine af (by simp; (try clear k1 k2); exact oh hR) ?_
 repeat k_inBlock
 refine i_s (n := pre.length + 2) (c := x) (by rw [av]; rfl) ?_
 repeat k_inBlock
 refine af (by simp [k1, k2]) ?_
 conv => enter [2]; unfold cA
 repeat k_inBlock
 try dsimp only [List.set]
 refine ad ?_
 conv => enter [2]; unfold bF
 repeat k_inBlock
 refine af (by simp; (try clear k1 k2); exact sh hR) ?_
 repeat k_inBlock
 refine i_s (n := pre.length + 3) (c := y) (by rw [av]; rfl) ?_
 repeat k_inBlock
 refine af (by simp [k1, k2]) ?_
 conv => enter [2]; unfold cA
 repeat k_inBlock
 try dsimp only [List.set]
 refine ad ?_
 conv => enter [2]; unfold bF
 repeat k_inBlock
 refine af (by simp; (try clear k1 k2); exact sf hR) ?_
 repeat k_inBlock
 refine i_s (n := pre.length + 4) (c := 93) (by rw [av]; rfl) ?_
 repeat k_inBlock
 have ej : (pre.length : Int) + 1 + 1 + 1 + 1 = ((pre.length + 4 : Nat) : Int) := by (try clear k1 k2); exact se
 have ei : (pre.length : Int) + 1 = ((pre.length + 1 : Nat) : Int) := rfl
 rw [ej]
 try rw [ei]
 refine ai (by simp; (try clear k1 k2); exact sd hR) ?_
 repeat k_inBlock
 refine aD rfl rfl (aa (by (try clear k1 k2); exact lc hl ln)) (aa (by (try clear k1 k2); exact lb hl ln)) ?_
 rw [bS, show List.drop 1 (List.take 4 (91 :: 33 :: x :: y :: 93 :: R)) = [33, x, y] from rfl]
 repeat k_inBlock
 refine af (by simp [k1, k2, eq_comm (a := 45)]) ?_
 repeat k_inBlock
 refine rH (by simp [k1, k2, eq_comm (a := 92)]) ?_
 repeat k_inBlock
 refine ⟨by simp [k1, k2], ?_⟩
 repeat k_inBlock
 repeat k_inBlock
 repeat k_inBlock
 refine i_s (n := 0) rfl ?_
 repeat k_inBlock
 refine aD rfl rfl (aa (by decide)) aA ?_
 rw [show cut ([33, x, y]) (some 1) Option.none = [x, y] from cj _ 1]
 repeat k_inBlock
 refine bk ⟨by show _ ≤ 1000000; simp, ?_⟩
 repeat k_inBlock
 refine ⟨by show _ ≤ 1000000; simp, ?_⟩
 repeat k_inBlock
 refine aK rfl ⟨by show parts.length < 1000000; exact fH hpl, ?_⟩
 repeat k_inBlock
 try dsimp only [List.set]
 have e9 : ((pre.length + 4 : Nat) : Int) + 1 = ((pre.length + 5 : Nat) : Int) := rfl
 rw [e9, ← ln]
 exact q _ _ _ _ _ _ _
theorem Ar {a : Addr} {x y : Nat} (hx' : ag x = true) (hy : ag y = true) (hxy : x ≤ y) {Q : Fl → St → Prop} {pre R : List Nat} {fuel : Nat} {parts : List V} {junk : List (List V)} {x7 x8 x9 x10 x11 x12 : Option V} {tl : List (Option V)}
 (hl : pre.length < 9000) (hR : R.length < 9000) (hpl : parts.length < 90000)
 (q : ∀ junk x7 x8 x9 x10 x11 x12, aC (WT fns bc) (WSs fns bg) Q fuel ⟨some (.str (pre ++ (91 :: x :: 45 :: y :: 93 :: R))) :: some (.con (.ref a)) :: some (.str [46]) :: some (.cell 0) :: some (.app 0) :: some (.int ((pre.length + 5 : Nat) : Int)) :: some (.int (((pre ++ (91 :: x :: 45 :: y :: 93 :: R)).length : Nat) : Int)) :: x7 :: x8 :: x9 :: x10 :: x11 :: x12 :: tl, (parts ++ [.str [91, x, 45, y, 93]]) :: junk⟩) :
 aC (WT fns bc) (WSs fns bg) Q (fuel + 1) ⟨some (.str (pre ++ (91 :: x :: 45 :: y :: 93 :: R))) :: some (.con (.ref a)) :: some (.str [46]) :: some (.cell 0) :: some (.app 0) :: some (.int (pre.length : Nat)) :: some (.int (((pre ++ (91 :: x :: 45 :: y :: 93 :: R)).length : Nat) : Int)) :: x7 :: x8 :: x9 :: x10 :: x11 :: x12 :: tl, parts :: junk⟩ := by
 have k1 := bW hx'
 have k2 := bW hy
 have ln : (pre ++ (91 :: x :: 45 :: y :: 93 :: R)).length = pre.length + R.length + 5 := by simp; exact sk
 refine ad ?_
 conv => enter [2]; unfold bc
 repeat k_inBlock
 refine af (by rw [ln]; simp; (try clear k1 k2); exact si hR) ?_
 conv => enter [2]; unfold bg
 repeat k_inBlock
 refine i_s (ck _ _ _) ?_
 repeat k_inBlock
 try dsimp only [List.set]
 rw [ln]
 repeat k_inBlock
 refine af (by simp; (try clear k1 k2); exact iC hR) ?_
 repeat k_inBlock
 refine i_s (n := pre.length + 1) (c := x) (by rw [av]; rfl) ?_
 repeat k_inBlock
 refine ai (by simp [k1]) ?_
 repeat k_inBlock
 refine af (by simp; (try clear k1 k2); exact iC hR) ?_
 repeat k_inBlock
 refine i_s (n := pre.length + 1) (c := x) (by rw [av]; rfl) ?_
 repeat k_inBlock
 refine ai (by simp [k1]) ?_
 repeat k_inBlock
 refine bN 4 ?_
 refine ad ?_
 conv => enter [2]; unfold bF
 repeat k_inBlock
 refine af (by simp; (try clear k1 k2); exact iC hR) ?_
 repeat k_inBlock
 refine i_s (n := pre.length + 1) (c := x) (by rw [av]; rfl) ?_
 repeat k_inBlock
 refine af (by simp [k1, k2]) ?_
 conv => enter [2]; unfold cA
 repeat k_inBlock
 try dsimp only [List.set]
 refine ad ?_
 conv => enter [2]; unfold bF
 repeat k_inBlock
 refine af (by simp; (try clear k1 k2); exact oh hR) ?_
 repeat k_inBlock
 refine i_s (n := pre.length + 2) (c := 45) (by rw [av]; rfl) ?_
 repeat k_inBlock
 conv => enter [2]; unfold cA
 repeat k_inBlock
 try dsimp only [List.set]
 refine ad ?_
 conv => enter [2]; unfold bF
 repeat k_inBlock
 refine af (by simp; (try clear k1 k2); exact sh hR) ?_
 repeat k_inBlock
 refine i_s (n := pre.length + 3) (c := y) (by rw [av]; rfl) ?_
 repeat k_inBlock
 refine af (by simp [k1, k2]) ?_
 conv => enter [2]; unfold cA
 repeat k_inBlock
 try dsimp only [List.set]
 refine ad ?_
 conv => enter [2]; unfold bF
 repeat k_inBlock
 refine af (by simp; (try clear k1 k2); exact sf hR) ?_
 repeat k_inBlock
 refine i_s (n := pre.length + 4) (c := 93) (by rw [av]; rfl) ?_
 repeat k_inBlock
 have ej : (pre.length : Int) + 1 + 1 + 1 + 1 = ((pre.length + 4 : Nat) : Int) := by (try clear k1 k2); exact se
 have ei : (pre.length : Int) + 1 = ((pre.length + 1 : Nat) : Int) := rfl
 rw [ej]
 try rw [ei]
 refine ai (by simp; (try clear k1 k2); exact sd hR) ?_
 repeat k_inBlock
 refine aD rfl rfl (aa (by (try clear k1 k2); exact lc hl ln)) (aa (by (try clear k1 k2); exact lb hl ln)) ?_
 rw [bS, show List.drop 1 (List.take 4 (91 :: x :: 45 :: y :: 93 :: R)) = [x, 45, y] from rfl]
 repeat k_inBlock
 refine ai (by simp) ?_
 repeat k_inBlock
 refine i_s (n := pre.length + 1) (c := x) (by rw [av]; rfl) ?_
 repeat k_inBlock
 refine ai (by simp [k1]) ?_
 repeat k_inBlock
 try dsimp only [List.set]
 have ek : ((pre.length + 1 : Nat) : Int) + 1 = ((pre.length + 2 : Nat) : Int) := rfl
 rw [ek]
 refine bN 2 ?_
 refine ad ?_
 conv => enter [2]; unfold eP
 repeat k_inBlock
 conv => enter [2]; unfold eQ
 repeat k_inBlock
 refine dU (by (try clear k1 k2); exact xS hl ln) ⟨og hl ln, by simp⟩ (eS (j := 0) rfl) ?_
 repeat k_inBlock
 repeat k_inBlock
 refine aD rfl rfl (aa (by (try clear k1 k2); exact lc hl ln)) (aa (by simp; (try clear k1 k2); exact xR hl ln)) ?_
 rw [show cut (pre ++ 91 :: x :: 45 :: y :: 93 :: R) (some ((pre.length + 1 : Nat) : Int)) (some ((pre.length + 2 + 0 : Nat) : Int)) = [x] from bS]
 repeat k_inBlock
 refine aK (am (parts :: junk) []) ⟨by show 0 < 1000000; decide, ?_⟩
 rw [bK]
 repeat k_inBlock
 try dsimp only [List.set]
 have ek2 : ((pre.length + 2 + 0 : Nat) : Int) + 3 = ((pre.length + 5 : Nat) : Int) := rfl
 have ek3 : ((pre.length + 2 + 0 : Nat) : Int) + 1 = ((pre.length + 3 : Nat) : Int) := rfl
 rw [ek2, ek3]
 refine ad ?_
 conv => enter [2]; unfold eP
 repeat k_inBlock
 conv => enter [2]; unfold eQ
 repeat k_inBlock
 refine dU (by (try clear k1 k2); exact xQ hl ln) ⟨og hl ln, by simp⟩ (eT rfl) ?_
 repeat k_inBlock
 repeat k_inBlock
 refine aD rfl rfl (aa (by (try clear k1 k2); exact xP hl ln)) (aa (by (try clear k1 k2); exact lb hl ln)) ?_
 rw [bS, show List.drop 3 (List.take 4 (91 :: x :: 45 :: y :: 93 :: R)) = [y] from rfl]
 repeat k_inBlock
 repeat k_inBlock
 refine aK (am (parts :: junk) _) ⟨by show 1 < 1000000; decide, ?_⟩
 rw [bK]
 repeat k_inBlock
 try dsimp only [List.set]
 refine cQ ?_
 conv => enter [2]; unfold jd
 repeat k_inBlock
 refine f7 (am (parts :: junk) _) ?_
 repeat k_inBlock
 refine jr ⟨bw (by simp), bw (by decide), rfl, ?_⟩
 repeat k_inBlock
 refine bZ (l := [.int 1]) rfl ⟨by show 1 ≤ 1000000; decide, ?_⟩
 refine bV ?_
 try dsimp only [List.set]
 conv => enter [2]; unfold je
 repeat k_inBlock
 refine i_c (n := 0) (am (parts :: junk) _) rfl ?_
 repeat k_inBlock
 refine mh (u := []) (n := x) ?_
 repeat k_inBlock
 refine i_c (n := 1) (am (parts :: junk) _) rfl ?_
 repeat k_inBlock
 refine i_s (n := 0) (c := y) rfl ?_
 repeat k_inBlock
 rw [lt1]
 repeat k_inBlock
 refine ai (decide_eq_false (by (try clear k1 k2); exact n8 hxy)) ?_
 repeat k_inBlock
 refine cy ?_
 repeat k_inBlock
 refine jA (k := (parts :: junk).length) (l := [[x], [y]]) rfl (am (parts :: junk) _) (by simp [k1, k2, eq_comm (a := 92), eq_comm (a := 45)]) (by show _ ≤ 1000000; simp [bf]) ?_
 rw [show bf [45] [[x], [y]] = [x, 45, y] from rfl]
 repeat k_inBlock
 refine ⟨by simp [k1, k2], ?_⟩
 repeat k_inBlock
 repeat k_inBlock
 refine ai (by simp [k1, k2]) ?_
 repeat k_inBlock
 refine i_s (n := 0) rfl ?_
 repeat k_inBlock
 refine ai (by simp [k1, k2]) ?_
 repeat k_inBlock
 refine ai (by simp [k1, k2]) ?_
 repeat k_inBlock
 refine ⟨by show _ ≤ 1000000; simp, ?_⟩
 repeat k_inBlock
 refine aK rfl ⟨by show parts.length < 1000000; exact fH hpl, ?_⟩
 repeat k_inBlock
 try dsimp only [List.set]
 have e9 : ((pre.length + 4 : Nat) : Int) + 1 = ((pre.length + 5 : Nat) : Int) := rfl
 rw [e9, ← ln]
 exact q _ _ _ _ _ _ _
theorem wr {a : Addr} {x y : Nat} (hx' : ag x = true) (hy : ag y = true) (hxy : y < x) {Q : Fl → St → Prop} {pre R : List Nat} {fuel : Nat} {parts : List V} {junk : List (List V)} {x7 x8 x9 x10 x11 x12 : Option V} {tl : List (Option V)}
 (hl : pre.length < 9000) (hR : R.length < 9000) (hpl : parts.length < 90000)
 (q : ∀ junk x7 x8 x9 x10 x11 x12, aC (WT fns bc) (WSs fns bg) Q fuel ⟨some (.str (pre ++ (91 :: x :: 45 :: y :: 93 :: R))) :: some (.con (.ref a)) :: some (.str [46]) :: some (.cell 0) :: some (.app 0) :: some (.int ((pre.length + 5 : Nat) : Int)) :: some (.int (((pre ++ (91 :: x :: 45 :: y :: 93 :: R)).length : Nat) : Int)) :: x7 :: x8 :: x9 :: x10 :: x11 :: x12 :: tl, (parts ++ [.str [40, 63, 33, 41]]) :: junk⟩) :
 aC (WT fns bc) (WSs fns bg) Q (fuel + 1) ⟨some (.str (pre ++ (91 :: x :: 45 :: y :: 93 :: R))) :: some (.con (.ref a)) :: some (.str [46]) :: some (.cell 0) :: some (.app 0) :: some (.int (pre.length : Nat)) :: some (.int (((pre ++ (91 :: x :: 45 :: y :: 93 :: R)).length : Nat) : Int)) :: x7 :: x8 :: x9 :: x10 :: x11 :: x12 :: tl, parts :: junk⟩ := by
 have k1 := bW hx'
 have k2 := bW hy
 have ln : (pre ++ (91 :: x :: 45 :: y :: 93 :: R)).length = pre.length + R.length + 5 := by simp; exact sk
 refine ad ?_
 conv => enter [2]; unfold bc
 repeat k_inBlock
 refine af (by rw [ln]; simp; (try clear k1 k2); exact si hR) ?_
 conv => enter [2]; unfold bg
 repeat k_inBlock
 refine i_s (ck _ _ _) ?_
 repeat k_inBlock
 try dsimp only [List.set]
 rw [ln]
 repeat k_inBlock
 refine af (by simp; (try clear k1 k2); exact iC hR) ?_
 repeat k_inBlock
 refine i_s (n := pre.length + 1) (c := x) (by rw [av]; rfl) ?_
 repeat k_inBlock
 refine ai (by simp [k1]) ?_
 repeat k_inBlock
 refine af (by simp; (try clear k1 k2); exact iC hR) ?_
 repeat k_inBlock
 refine i_s (n := pre.length + 1) (c := x) (by rw [av]; rfl) ?_
 repeat k_inBlock
 refine ai (by simp [k1]) ?_
 repeat k_inBlock
 refine bN 4 ?_
 refine ad ?_
 conv => enter [2]; unfold bF
 repeat k_inBlock
 refine af (by simp; (try clear k1 k2); exact iC hR) ?_
 repeat k_inBlock
 refine i_s (n := pre.length + 1) (c := x) (by rw [av]; rfl) ?_
 repeat k_inBlock
 refine af (by simp [k1, k2]) ?_
 conv => enter [2]; unfold cA
 repeat k_inBlock
 try dsimp only [List.set]
 refine ad ?_
 conv => enter [2]; unfold bF
 repeat k_inBlock
 refine af (by simp; (try clear k1 k2); exact oh hR) ?_
 repeat k_inBlock
 refine i_s (n := pre.length + 2) (c := 45) (by rw [av]; rfl) ?_
 repeat k_inBlock
 conv => enter [2]; unfold cA
 repeat k_inBlock
 try dsimp only [List.set]
 refine ad ?_
 conv => enter [2]; unfold bF
 repeat k_inBlock
 refine af (by simp; (try clear k1 k2); exact sh hR) ?_
 repeat k_inBlock
 refine i_s (n := pre.length + 3) (c := y) (by rw [av]; rfl) ?_
 repeat k_inBlock
 refine af (by simp [k1, k2]) ?_
 conv => enter [2]; unfold cA
 repeat k_inBlock
 try dsimp only [List.set]
 refine ad ?_
 conv => enter [2]; unfold bF
 repeat k_inBlock
 refine af (by simp; (try clear k1 k2); exact sf hR) ?_
 repeat k_inBlock
 refine i_s (n := pre.length + 4) (c := 93) (by rw [av]; rfl) ?_
 repeat k_inBlock
 have ej : (pre.length : Int) + 1 + 1 + 1 + 1 = ((pre.length + 4 : Nat) : Int) := by (try clear k1 k2); exact se
 have ei : (pre.length : Int) + 1 = ((pre.length + 1 : Nat) : Int) := rfl
 rw [ej]
 try rw [ei]
 refine ai (by simp; (try clear k1 k2); exact sd hR) ?_
 repeat k_inBlock
 refine aD rfl rfl (aa (by (try clear k1 k2); exact lc hl ln)) (aa (by (try clear k1 k2); exact lb hl ln)) ?_
 rw [bS, show List.drop 1 (List.take 4 (91 :: x :: 45 :: y :: 93 :: R)) = [x, 45, y] from rfl]
 repeat k_inBlock
 refine ai (by simp) ?_
 repeat k_inBlock
 refine i_s (n := pre.length + 1) (c := x) (by rw [av]; rfl) ?_
 repeat k_inBlock
 refine ai (by simp [k1]) ?_
 repeat k_inBlock
 try dsimp only [List.set]
 have ek : ((pre.length + 1 : Nat) : Int) + 1 = ((pre.length + 2 : Nat) : Int) := rfl
 rw [ek]
 refine bN 2 ?_
 refine ad ?_
 conv => enter [2]; unfold eP
 repeat k_inBlock
 conv => enter [2]; unfold eQ
 repeat k_inBlock
 refine dU (by (try clear k1 k2); exact xS hl ln) ⟨og hl ln, by simp⟩ (eS (j := 0) rfl) ?_
 repeat k_inBlock
 repeat k_inBlock
 refine aD rfl rfl (aa (by (try clear k1 k2); exact lc hl ln)) (aa (by simp; (try clear k1 k2); exact xR hl ln)) ?_
 rw [show cut (pre ++ 91 :: x :: 45 :: y :: 93 :: R) (some ((pre.length + 1 : Nat) : Int)) (some ((pre.length + 2 + 0 : Nat) : Int)) = [x] from bS]
 repeat k_inBlock
 refine aK (am (parts :: junk) []) ⟨by show 0 < 1000000; decide, ?_⟩
 rw [bK]
 repeat k_inBlock
 try dsimp only [List.set]
 have ek2 : ((pre.length + 2 + 0 : Nat) : Int) + 3 = ((pre.length + 5 : Nat) : Int) := rfl
 have ek3 : ((pre.length + 2 + 0 : Nat) : Int) + 1 = ((pre.length + 3 : Nat) : Int) := rfl
 rw [ek2, ek3]
 refine ad ?_
 conv => enter [2]; unfold eP
 repeat k_inBlock
 conv => enter [2]; unfold eQ
 repeat k_inBlock
 refine dU (by (try clear k1 k2); exact xQ hl ln) ⟨og hl ln, by simp⟩ (eT rfl) ?_
 repeat k_inBlock
 repeat k_inBlock
 refine aD rfl rfl (aa (by (try clear k1 k2); exact xP hl ln)) (aa (by (try clear k1 k2); exact lb hl ln)) ?_
 rw [bS, show List.drop 3 (List.take 4 (91 :: x :: 45 :: y :: 93 :: R)) = [y] from rfl]
 repeat k_inBlock
 repeat k_inBlock
 refine aK (am (parts :: junk) _) ⟨by show 1 < 1000000; decide, ?_⟩
 rw [bK]
 repeat k_inBlock
 try dsimp only [List.set]
 refine cQ ?_
 conv => enter [2]; unfold jd
 repeat k_inBlock
 refine f7 (am (parts :: junk) _) ?_
 repeat k_inBlock
 refine jr ⟨bw (by simp), bw (by decide), rfl, ?_⟩
 repeat k_inBlock
 refine bZ (l := [.int 1]) rfl ⟨by show 1 ≤ 1000000; decide, ?_⟩
 refine bV ?_
 try dsimp only [List.set]
 conv => enter [2]; unfold je
 repeat k_inBlock
 refine i_c (n := 0) (am (parts :: junk) _) rfl ?_
 repeat k_inBlock
 refine mh (u := []) (n := x) ?_
 repeat k_inBlock
 refine i_c (n := 1) (am (parts :: junk) _) rfl ?_
 repeat k_inBlock
 refine i_s (n := 0) (c := y) rfl ?_
 repeat k_inBlock
 rw [lt1]
 repeat k_inBlock
 refine af (decide_eq_true hxy) ?_
 repeat k_inBlock
 refine kr ?_
 repeat k_inBlock
 refine i_c (n := 0) (am (parts :: junk) _) rfl ?_
 repeat k_inBlock
 refine aD rfl rfl aA (aa (by decide)) ?_
 rw [show cut [x] Option.none (some (-1)) = [] from ml [] x]
 repeat k_inBlock
 refine i_c (n := 1) (am (parts :: junk) _) rfl ?_
 repeat k_inBlock
 refine aD rfl rfl (aa (by decide)) aA ?_
 rw [show cut [y] (some 1) Option.none = [] from cj _ 1]
 repeat k_inBlock
 refine bk ⟨by show _ ≤ 1000000; simp, ?_⟩
 repeat k_inBlock
 refine jn ⟨rfl, rfl, am (parts :: junk) _, by decide, by simp, ?_⟩
 rw [bK]
 try refine z2 ?_
 refine q6 ?_
 repeat k_inBlock
 refine jn ⟨rfl, rfl, am (parts :: junk) _, by decide, by simp, ?_⟩
 rw [bK]
 repeat k_inBlock
 refine cy ?_
 repeat k_inBlock
 refine jA (k := (parts :: junk).length) (l := [[]]) rfl (am (parts :: junk) _) (by simp) (by show _ ≤ 1000000; simp [bf]) ?_
 rw [show bf [45] [[]] = [] from rfl]
 repeat k_inBlock
 refine ⟨by simp, ?_⟩
 repeat k_inBlock
 refine aK rfl ⟨by show parts.length < 1000000; exact fH hpl, ?_⟩
 repeat k_inBlock
 try dsimp only [List.set]
 have e9 : ((pre.length + 4 : Nat) : Int) + 1 = ((pre.length + 5 : Nat) : Int) := rfl
 rw [e9, ← ln]
 exact q _ _ _ _ _ _ _
theorem wt {a : Addr} {x y : Nat} (hx' : ag x = true) (hy : ag y = true) (hxy : x ≤ y) {Q : Fl → St → Prop} {pre R : List Nat} {fuel : Nat} {parts : List V} {junk : List (List V)} {x7 x8 x9 x10 x11 x12 : Option V} {tl : List (Option V)}
 (hl : pre.length < 9000) (hR : R.length < 9000) (hpl : parts.length < 90000)
 (q : ∀ junk x7 x8 x9 x10 x11 x12, aC (WT fns bc) (WSs fns bg) Q fuel ⟨some (.str (pre ++ (91 :: 33 :: x :: 45 :: y :: 93 :: R))) :: some (.con (.ref a)) :: some (.str [46]) :: some (.cell 0) :: some (.app 0) :: some (.int ((pre.length + 6 : Nat) : Int)) :: some (.int (((pre ++ (91 :: 33 :: x :: 45 :: y :: 93 :: R)).length : Nat) : Int)) :: x7 :: x8 :: x9 :: x10 :: x11 :: x12 :: tl, (parts ++ [.str [91, 94, x, 45, y, 93]]) :: junk⟩) :
 aC (WT fns bc) (WSs fns bg) Q (fuel + 1) ⟨some (.str (pre ++ (91 :: 33 :: x :: 45 :: y :: 93 :: R))) :: some (.con (.ref a)) :: some (.str [46]) :: some (.cell 0) :: some (.app 0) :: some (.int (pre.length : Nat)) :: some (.int (((pre ++ (91 :: 33 :: x :: 45 :: y :: 93 :: R)).length : Nat) : Int)) :: x7 :: x8 :: x9 :: x10 :: x11 :: x12 :: tl, parts :: junk⟩ := by
 have k1 := bW hx'
 have k2 := bW hy
 have ln : (pre ++ (91 :: 33 :: x :: 45 :: y :: 93 :: R)).length = pre.length + R.length + 6 := by simp; exact xO
 refine ad ?_
 conv => enter [2]; unfold bc
 repeat k_inBlock
 refine af (by rw [ln]; simp; (try clear k1 k2); exact xN hR) ?_
 conv => enter [2]; unfold bg
 repeat k_inBlock
 refine i_s (ck _ _ _) ?_
 repeat k_inBlock
 try dsimp only [List.set]
 rw [ln]
 repeat k_inBlock
 refine af (by simp; (try clear k1 k2); exact xM hR) ?_
 repeat k_inBlock
 refine i_s (n := pre.length + 1) (c := 33) (by rw [av]; rfl) ?_
 repeat k_inBlock
 try dsimp only [List.set]
 refine af (by simp; (try clear k1 k2); exact oe hR) ?_
 repeat k_inBlock
 refine i_s (n := pre.length + 2) (c := x) (by rw [av]; rfl) ?_
 repeat k_inBlock
 refine ai (by simp [k1]) ?_
 repeat k_inBlock
 refine bN 4 ?_
 refine ad ?_
 conv => enter [2]; unfold bF
 repeat k_inBlock
 refine af (by simp; (try clear k1 k2); exact oe hR) ?_
 repeat k_inBlock
 refine i_s (n := pre.length + 2) (c := x) (by rw [av]; rfl) ?_
 repeat k_inBlock
 refine af (by simp [k1, k2]) ?_
 conv => enter [2]; unfold cA
 repeat k_inBlock
 try dsimp only [List.set]
 refine ad ?_
 conv => enter [2]; unfold bF
 repeat k_inBlock
 refine af (by simp; (try clear k1 k2); exact xL hR) ?_
 repeat k_inBlock
 refine i_s (n := pre.length + 3) (c := 45) (by rw [av]; rfl) ?_
 repeat k_inBlock
 conv => enter [2]; unfold cA
 repeat k_inBlock
 try dsimp only [List.set]
 refine ad ?_
 conv => enter [2]; unfold bF
 repeat k_inBlock
 refine af (by simp; (try clear k1 k2); exact xK hR) ?_
 repeat k_inBlock
 refine i_s (n := pre.length + 4) (c := y) (by rw [av]; rfl) ?_
 repeat k_inBlock
 refine af (by simp [k1, k2]) ?_
 conv => enter [2]; unfold cA
 repeat k_inBlock
 try dsimp only [List.set]
 refine ad ?_
 conv => enter [2]; unfold bF
 repeat k_inBlock
 refine af (by simp; (try clear k1 k2); exact xJ hR) ?_
 repeat k_inBlock
 refine i_s (n := pre.length + 5) (c := 93) (by rw [av]; rfl) ?_
 repeat k_inBlock
 have ej : (pre.length : Int) + 1 + 1 + 1 + 1 + 1 = ((pre.length + 5 : Nat) : Int) := by (try clear k1 k2); exact xI
 have ei : (pre.length : Int) + 1 = ((pre.length + 1 : Nat) : Int) := rfl
 rw [ej]
 try rw [ei]
 refine ai (by simp; (try clear k1 k2); exact xH hR) ?_
 repeat k_inBlock
 refine aD rfl rfl (aa (by (try clear k1 k2); exact od hl ln)) (aa (by (try clear k1 k2); exact n9 hl ln)) ?_
 rw [bS, show List.drop 1 (List.take 5 (91 :: 33 :: x :: 45 :: y :: 93 :: R)) = [33, x, 45, y] from rfl]
 repeat k_inBlock
 refine ai (by simp) ?_
 repeat k_inBlock
 refine i_s (n := pre.length + 1) (c := 33) (by rw [av]; rfl) ?_
 repeat k_inBlock
 try dsimp only [List.set]
 have ek : ((pre.length + 1 : Nat) : Int) + 2 = ((pre.length + 3 : Nat) : Int) := rfl
 rw [ek]
 refine bN 2 ?_
 refine ad ?_
 conv => enter [2]; unfold eP
 repeat k_inBlock
 conv => enter [2]; unfold eQ
 repeat k_inBlock
 refine dU (by (try clear k1 k2); exact xG hl ln) ⟨oa hl ln, by simp⟩ (eS (j := 0) rfl) ?_
 repeat k_inBlock
 repeat k_inBlock
 refine aD rfl rfl (aa (by (try clear k1 k2); exact od hl ln)) (aa (by simp; (try clear k1 k2); exact xF hl ln)) ?_
 rw [show cut (pre ++ 91 :: 33 :: x :: 45 :: y :: 93 :: R) (some ((pre.length + 1 : Nat) : Int)) (some ((pre.length + 3 + 0 : Nat) : Int)) = [33, x] from bS]
 repeat k_inBlock
 refine aK (am (parts :: junk) []) ⟨by show 0 < 1000000; decide, ?_⟩
 rw [bK]
 repeat k_inBlock
 try dsimp only [List.set]
 have ek2 : ((pre.length + 3 + 0 : Nat) : Int) + 3 = ((pre.length + 6 : Nat) : Int) := rfl
 have ek3 : ((pre.length + 3 + 0 : Nat) : Int) + 1 = ((pre.length + 4 : Nat) : Int) := rfl
 rw [ek2, ek3]
 refine ad ?_
 conv => enter [2]; unfold eP
 repeat k_inBlock
 conv => enter [2]; unfold eQ
 repeat k_inBlock
 refine dU (by (try clear k1 k2); exact xE hl ln) ⟨oa hl ln, by simp⟩ (eT rfl) ?_
 repeat k_inBlock
 repeat k_inBlock
 refine aD rfl rfl (aa (by (try clear k1 k2); exact xD hl ln)) (aa (by (try clear k1 k2); exact n9 hl ln)) ?_
 rw [bS, show List.drop 4 (List.take 5 (91 :: 33 :: x :: 45 :: y :: 93 :: R)) = [y] from rfl]
 repeat k_inBlock
 repeat k_inBlock
 refine aK (am (parts :: junk) _) ⟨by show 1 < 1000000; decide, ?_⟩
 rw [bK]
 repeat k_inBlock
 try dsimp only [List.set]
 refine cQ ?_
 conv => enter [2]; unfold jd
 repeat k_inBlock
 refine f7 (am (parts :: junk) _) ?_
 repeat k_inBlock
 refine jr ⟨bw (by simp), bw (by decide), rfl, ?_⟩
 repeat k_inBlock
 refine bZ (l := [.int 1]) rfl ⟨by show 1 ≤ 1000000; decide, ?_⟩
 refine bV ?_
 try dsimp only [List.set]
 conv => enter [2]; unfold je
 repeat k_inBlock
 refine i_c (n := 0) (am (parts :: junk) _) rfl ?_
 repeat k_inBlock
 refine mh (u := [33]) (n := x) ?_
 repeat k_inBlock
 refine i_c (n := 1) (am (parts :: junk) _) rfl ?_
 repeat k_inBlock
 refine i_s (n := 0) (c := y) rfl ?_
 repeat k_inBlock
 rw [lt1]
 repeat k_inBlock
 refine ai (decide_eq_false (by (try clear k1 k2); exact n8 hxy)) ?_
 repeat k_inBlock
 refine cy ?_
 repeat k_inBlock
 refine jA (k := (parts :: junk).length) (l := [[33, x], [y]]) rfl (am (parts :: junk) _) (by simp [k1, k2, eq_comm (a := 92), eq_comm (a := 45)]) (by show _ ≤ 1000000; simp [bf]) ?_
 rw [show bf [45] [[33, x], [y]] = [33, x, 45, y] from rfl]
 repeat k_inBlock
 refine ⟨by simp [k1, k2], ?_⟩
 repeat k_inBlock
 repeat k_inBlock
 repeat k_inBlock
 refine i_s (n := 0) rfl ?_
 repeat k_inBlock
 refine aD rfl rfl (aa (by decide)) aA ?_
 rw [show cut ([33, x, 45, y]) (some 1) Option.none = [x, 45, y] from cj _ 1]
 repeat k_inBlock
 refine bk ⟨by show _ ≤ 1000000; simp, ?_⟩
 repeat k_inBlock
 refine ⟨by show _ ≤ 1000000; simp, ?_⟩
 repeat k_inBlock
 refine aK rfl ⟨by show parts.length < 1000000; exact fH hpl, ?_⟩
 repeat k_inBlock
 try dsimp only [List.set]
 have e9 : ((pre.length + 5 : Nat) : Int) + 1 = ((pre.length + 6 : Nat) : Int) := rfl
 rw [e9, ← ln]
 exact q _ _ _ _ _ _ _
theorem tY {a : Addr} {x y : Nat} (hx' : ag x = true) (hy : ag y = true) (hxy : y < x) {Q : Fl → St → Prop} {pre R : List Nat} {fuel : Nat} {parts : List V} {junk : List (List V)} {x7 x8 x9 x10 x11 x12 : Option V} {tl : List (Option V)}
 (hl : pre.length < 9000) (hR : R.length < 9000) (hpl : parts.length < 90000)
 (q : ∀ junk x7 x8 x9 x10 x11 x12, aC (WT fns bc) (WSs fns bg) Q fuel ⟨some (.str (pre ++ (91 :: 33 :: x :: 45 :: y :: 93 :: R))) :: some (.con (.ref a)) :: some (.str [46]) :: some (.cell 0) :: some (.app 0) :: some (.int ((pre.length + 6 : Nat) : Int)) :: some (.int (((pre ++ (91 :: 33 :: x :: 45 :: y :: 93 :: R)).length : Nat) : Int)) :: x7 :: x8 :: x9 :: x10 :: x11 :: x12 :: tl, (parts ++ [.str [46]]) :: junk⟩) :
 aC (WT fns bc) (WSs fns bg) Q (fuel + 1) ⟨some (.str (pre ++ (91 :: 33 :: x :: 45 :: y :: 93 :: R))) :: some (.con (.ref a)) :: some (.str [46]) :: some (.cell 0) :: some (.app 0) :: some (.int (pre.length : Nat)) :: some (.int (((pre ++ (91 :: 33 :: x :: 45 :: y :: 93 :: R)).length : Nat) : Int)) :: x7 :: x8 :: x9 :: x10 :: x11 :: x12 :: tl, parts :: junk⟩ := by
 have k1 := bW hx'
 have k2 := bW hy
 have ln : (pre ++ (91 :: 33 :: x :: 45 :: y :: 93 :: R)).length = pre.length + R.length + 6 := by simp; exact xO
 refine ad ?_
 conv => enter [2]; unfold bc
 repeat k_inBlock
 refine af (by rw [ln]; simp; (try clear k1 k2); exact xN hR) ?_
 conv => enter [2]; unfold bg
 repeat k_inBlock
 refine i_s (ck _ _ _) ?_
 repeat k_inBlock
 try dsimp only [List.set]
 rw [ln]
 repeat k_inBlock
 refine af (by simp; (try clear k1 k2); exact xM hR) ?_
 repeat k_inBlock
 refine i_s (n := pre.length + 1) (c := 33) (by rw [av]; rfl) ?_
 repeat k_inBlock
 try dsimp only [List.set]
 refine af (by simp; (try clear k1 k2); exact oe hR) ?_
 repeat k_inBlock
 refine i_s (n := pre.length + 2) (c := x) (by rw [av]; rfl) ?_
 repeat k_inBlock
 refine ai (by simp [k1]) ?_
 repeat k_inBlock
 refine bN 4 ?_
 refine ad ?_
 conv => enter [2]; unfold bF
 repeat k_inBlock
 refine af (by simp; (try clear k1 k2); exact oe hR) ?_
 repeat k_inBlock
 refine i_s (n := pre.length + 2) (c := x) (by rw [av]; rfl) ?_
 repeat k_inBlock
 refine af (by simp [k1, k2]) ?_
 conv => enter [2]; unfold cA
 repeat k_inBlock
 try dsimp only [List.set]
 refine ad ?_
 conv => enter [2]; unfold bF
 repeat k_inBlock
 refine af (by simp; (try clear k1 k2); exact xL hR) ?_
 repeat k_inBlock
 refine i_s (n := pre.length + 3) (c := 45) (by rw [av]; rfl) ?_
 repeat k_inBlock
 conv => enter [2]; unfold cA
 repeat k_inBlock
 try dsimp only [List.set]
 refine ad ?_
 conv => enter [2]; unfold bF
 repeat k_inBlock
 refine af (by simp; (try clear k1 k2); exact xK hR) ?_
 repeat k_inBlock
 refine i_s (n := pre.length + 4) (c := y) (by rw [av]; rfl) ?_
 repeat k_inBlock
 refine af (by simp [k1, k2]) ?_
 conv => enter [2]; unfold cA
 repeat k_inBlock
 try dsimp only [List.set]
 refine ad ?_
 conv => enter [2]; unfold bF
 repeat k_inBlock
 refine af (by simp; (try clear k1 k2); exact xJ hR) ?_
 repeat k_inBlock
 refine i_s (n := pre.length + 5) (c := 93) (by rw [av]; rfl) ?_
 repeat k_inBlock
 have ej : (pre.length : Int) + 1 + 1 + 1 + 1 + 1 = ((pre.length + 5 : Nat) : Int) := by (try clear k1 k2); exact xI
 have ei : (pre.length : Int) + 1 = ((pre.length + 1 : Nat) : Int) := rfl
 rw [ej]
 try rw [ei]
 refine ai (by simp; (try clear k1 k2); exact xH hR) ?_
 repeat k_inBlock
 refine aD rfl rfl (aa (by (try clear k1 k2); exact od hl ln)) (aa (by (try clear k1 k2); exact n9 hl ln)) ?_
 rw [bS, show List.drop 1 (List.take 5 (91 :: 33 :: x :: 45 :: y :: 93 :: R)) = [33, x, 45, y] from rfl]
 repeat k_inBlock
 refine ai (by simp) ?_
 repeat k_inBlock
 refine i_s (n := pre.length + 1) (c := 33) (by rw [av]; rfl) ?_
 repeat k_inBlock
 try dsimp only [List.set]
 have ek : ((pre.length + 1 : Nat) : Int) + 2 = ((pre.length + 3 : Nat) : Int) := rfl
 rw [ek]
 refine bN 2 ?_
 refine ad ?_
 conv => enter [2]; unfold eP
 repeat k_inBlock
 conv => enter [2]; unfold eQ
 repeat k_inBlock
 refine dU (by (try clear k1 k2); exact xG hl ln) ⟨oa hl ln, by simp⟩ (eS (j := 0) rfl) ?_
 repeat k_inBlock
 repeat k_inBlock
 refine aD rfl rfl (aa (by (try clear k1 k2); exact od hl ln)) (aa (by simp; (try clear k1 k2); exact xF hl ln)) ?_
 rw [show cut (pre ++ 91 :: 33 :: x :: 45 :: y :: 93 :: R) (some ((pre.length + 1 : Nat) : Int)) (some ((pre.length + 3 + 0 : Nat) : Int)) = [33, x] from bS]
 repeat k_inBlock
 refine aK (am (parts :: junk) []) ⟨by show 0 < 1000000; decide, ?_⟩
 rw [bK]
 repeat k_inBlock
 try dsimp only [List.set]
 have ek2 : ((pre.length + 3 + 0 : Nat) : Int) + 3 = ((pre.length + 6 : Nat) : Int) := rfl
 have ek3 : ((pre.length + 3 + 0 : Nat) : Int) + 1 = ((pre.length + 4 : Nat) : Int) := rfl
 rw [ek2, ek3]
 refine ad ?_
 conv => enter [2]; unfold eP
 repeat k_inBlock
 conv => enter [2]; unfold eQ
 repeat k_inBlock
 refine dU (by (try clear k1 k2); exact xE hl ln) ⟨oa hl ln, by simp⟩ (eT rfl) ?_
 repeat k_inBlock
 repeat k_inBlock
 refine aD rfl rfl (aa (by (try clear k1 k2); exact xD hl ln)) (aa (by (try clear k1 k2); exact n9 hl ln)) ?_
 rw [bS, show List.drop 4 (List.take 5 (91 :: 33 :: x :: 45 :: y :: 93 :: R)) = [y] from rfl]
 repeat k_inBlock
 repeat k_inBlock
 refine aK (am (parts :: junk) _) ⟨by show 1 < 1000000; decide, ?_⟩
 rw [bK]
 repeat k_inBlock
 try dsimp only [List.set]
 refine cQ ?_
 conv => enter [2]; unfold jd
 repeat k_inBlock
 refine f7 (am (parts :: junk) _) ?_
 repeat k_inBlock
 refine jr ⟨bw (by simp), bw (by decide), rfl, ?_⟩
 repeat k_inBlock
 refine bZ (l := [.int 1]) rfl ⟨by show 1 ≤ 1000000; decide, ?_⟩
 refine bV ?_
 try dsimp only [List.set]
 conv => enter [2]; unfold je
 repeat k_inBlock
 refine i_c (n := 0) (am (parts :: junk) _) rfl ?_
 repeat k_inBlock
 refine mh (u := [33]) (n := x) ?_
 repeat k_inBlock
 refine i_c (n := 1) (am (parts :: junk) _) rfl ?_
 repeat k_inBlock
 refine i_s (n := 0) (c := y) rfl ?_
 repeat k_inBlock
 rw [lt1]
 repeat k_inBlock
 refine af (decide_eq_true hxy) ?_
 repeat k_inBlock
 refine kr ?_
 repeat k_inBlock
 refine i_c (n := 0) (am (parts :: junk) _) rfl ?_
 repeat k_inBlock
 refine aD rfl rfl aA (aa (by decide)) ?_
 rw [show cut [33, x] Option.none (some (-1)) = [33] from ml [33] x]
 repeat k_inBlock
 refine i_c (n := 1) (am (parts :: junk) _) rfl ?_
 repeat k_inBlock
 refine aD rfl rfl (aa (by decide)) aA ?_
 rw [show cut [y] (some 1) Option.none = [] from cj _ 1]
 repeat k_inBlock
 refine bk ⟨by show _ ≤ 1000000; simp, ?_⟩
 repeat k_inBlock
 refine jn ⟨rfl, rfl, am (parts :: junk) _, by decide, by simp, ?_⟩
 rw [bK]
 try refine z2 ?_
 refine q6 ?_
 repeat k_inBlock
 refine jn ⟨rfl, rfl, am (parts :: junk) _, by decide, by simp, ?_⟩
 rw [bK]
 repeat k_inBlock
 refine cy ?_
 repeat k_inBlock
 refine jA (k := (parts :: junk).length) (l := [[33]]) rfl (am (parts :: junk) _) (by simp) (by show _ ≤ 1000000; simp [bf]) ?_
 rw [show bf [45] [[33]] = [33] from rfl]
 repeat k_inBlock
 refine ⟨by simp, ?_⟩
 repeat k_inBlock
 refine aK rfl ⟨by show parts.length < 1000000; exact fH hpl, ?_⟩
 repeat k_inBlock
 try dsimp only [List.set]
 have e9 : ((pre.length + 5 : Nat) : Int) + 1 = ((pre.length + 6 : Nat) : Int) := rfl
 rw [e9, ← ln]
 exact q _ _ _ _ _ _ _
end
noncomputable def Pt.tk : Pt → Tk
 | .star => .any
 | .eq => .lit 61
 | .hf h => hTk h
noncomputable def Pt.isStar : Pt → Bool
 | .star => true
 | _ => false
noncomputable def aS (a : Addr) : Bool → List Pt → List V
 | _, [] => []
 | b, .star :: r => if b then aS a true r else .con (.ref a) :: aS a true r
 | _, .eq :: r => .str (Pt.tk .eq).text :: aS a false r
 | _, .hf h :: r => .str (hTk h).text :: aS a false r
noncomputable def ptT (ps : List Pt) : Txt := ps.flatMap Pt.text
section
variable {fns : Fns} {cs : List (List V)} {K : V → Prop} {KS : V → St → Prop} {st : St} {loc : List (Option V)}
theorem wu {a : Addr} (he : k7 fns) {h : Hf} (w : h.wf) : pR fns a (.hf h) (hTk h).text := by
 cases h with
 | any => exact Ap
 | dig x => exact mw he rfl (cC x w)
 | two b x y =>
  have px := cC x w.1
  have py := cC y w.2
  intro Q pre R fuel parts junk x7 x8 x9 x10 x11 x12 tl hl hR hp q
  cases b
  ·have e : (pre ++ (Pt.hf (.two false x y)).text).length = pre.length + 4 := by simp [Pt.text, Hf.text]
   rw [e] at q
   exact Aq px py hl hR hp q
  ·have e : (pre ++ (Pt.hf (.two true x y)).text).length = pre.length + 5 := by simp [Pt.text, Hf.text]
   rw [e] at q
   exact wq px py hl hR hp q
 | rng b x y =>
  have px := cC x w.1
  have py := cC y w.2
  have hxy := ik w.1 w.2
  intro Q pre R fuel parts junk x7 x8 x9 x10 x11 x12 tl hl hR hp q
  by_cases le : x ≤ y
  ·have et : hTk (.rng b x y) = .rng b (hx x) (hx y) := if_pos le
   rw [et] at q
   cases b
   ·have e : (pre ++ (Pt.hf (.rng false x y)).text).length = pre.length + 5 := by simp [Pt.text, Hf.text]
    rw [e] at q
    exact Ar px py (hxy.2 le) hl hR hp q
   ·have e : (pre ++ (Pt.hf (.rng true x y)).text).length = pre.length + 6 := by simp [Pt.text, Hf.text]
    rw [e] at q
    exact wt px py (hxy.2 le) hl hR hp q
  ·have gt : hx y < hx x := by
    have : ¬ hx x ≤ hx y := fun q => le (hxy.1 q)
    exact k9 this
   cases b
   ·have et : hTk (.rng false x y) = .never := by simp [hTk, le]
    rw [et] at q
    have e : (pre ++ (Pt.hf (.rng false x y)).text).length = pre.length + 5 := by simp [Pt.text, Hf.text]
    rw [e] at q
    exact wr px py gt hl hR hp q
   ·have et : hTk (.rng true x y) = .any := by simp [hTk, le]
    rw [et] at q
    have e : (pre ++ (Pt.hf (.rng true x y)).text).length = pre.length + 6 := by simp [Pt.text, Hf.text]
    rw [e] at q
    exact tY px py gt hl hR hp q
noncomputable def tZ (a : Addr) : Bool → List V → Prop
 | true, l => ∃ l', l = l' ++ [.con (.ref a)]
 | false, l => l = [] ∨ ∃ l' t, l = l' ++ [.str t]
theorem wv {a : Addr} {b : Bool} {Q : Fl → St → Prop} {pre R : List Nat} {fuel : Nat} {parts : List V} {junk : List (List V)} {x7 x8 x9 x10 x11 x12 : Option V} {tl : List (Option V)}
 (hl : pre.length < 9000) (hR : R.length < 9000) (hp : parts.length < 90000) (hb : tZ a b parts)
 (q : ∀ x7, aC (WT fns bc) (WSs fns bg) Q fuel ⟨some (.str (pre ++ (42 :: R))) :: some (.con (.ref a)) :: some (.str [46]) :: some (.cell 0) :: some (.app 0) :: some (.int (((pre ++ [42]).length : Nat) : Int)) :: some (.int (((pre ++ (42 :: R)).length : Nat) : Int)) :: x7 :: x8 :: x9 :: x10 :: x11 :: x12 :: tl, (parts ++ if b then [] else [.con (.ref a)]) :: junk⟩) :
 aC (WT fns bc) (WSs fns bg) Q (fuel + 1) ⟨some (.str (pre ++ (42 :: R))) :: some (.con (.ref a)) :: some (.str [46]) :: some (.cell 0) :: some (.app 0) :: some (.int (pre.length : Nat)) :: some (.int (((pre ++ (42 :: R)).length : Nat) : Int)) :: x7 :: x8 :: x9 :: x10 :: x11 :: x12 :: tl, parts :: junk⟩ := by
 have e2 : ((pre.length : Int) + 1) = (((pre ++ [42]).length : Nat) : Int) := by simp
 refine ad ?_
 conv => enter [2]; unfold bc
 repeat k_inBlock
 refine af (by simp; exact sn hR) ?_
 conv => enter [2]; unfold bg
 repeat k_inBlock
 refine i_s (ck _ _ _) ?_
 repeat k_inBlock
 try dsimp only [List.set]
 rw [e2]
 repeat k_inBlock
 refine r_c rfl ?_
 cases b with
 | true =>
  obtain ⟨l', rfl⟩ := hb
  refine ai (by simp) ?_
  repeat k_inBlock
  refine eH rfl ?_
  repeat k_inBlock
  refine iG ?_
  repeat k_inBlock
  have q' := q (some (.str [42]))
  rw [if_pos rfl, List.append_nil] at q'
  exact q'
 | false =>
  have fin : bL (parts :: junk) .append (.cell 0) [.con (.ref a)] (fun r cs => r = .none ∧ cs = (parts ++ [.con (.ref a)]) :: junk) := aK rfl ⟨by show parts.length < 1000000; exact fH hp, rfl, rfl⟩
  rcases hb with rfl | ⟨l', t, rfl⟩
  ·repeat k_inBlock
   repeat k_inBlock
   refine aK rfl ⟨by show 0 < 1000000; decide, ?_⟩
   repeat k_inBlock
   exact q _
  ·repeat k_inBlock
   refine ai (by simp) ?_
   repeat k_inBlock
   refine eH rfl ?_
   repeat k_inBlock
   refine gy ?_
   repeat k_inBlock
   refine aK rfl ⟨by show _ < 1000000; exact fH hp, ?_⟩
   repeat k_inBlock
   exact q _
theorem ww {a : Addr} (he : k7 fns) {Q : Fl → St → Prop} {T : List Nat} {tl : List (Option V)} (hT : T.length < 9000) : ∀ (ps : List Pt) (b : Bool) (pre : List Nat) (parts : List V) (junk : List (List V)) (x7 x8 x9 x10 x11 x12 : Option V), T = pre ++ ptT ps → (∀ p ∈ ps, p.ok) → parts.length + ps.length < 80000 → tZ a b parts →
 (∀ junk x7 x8 x9 x10 x11 x12, Q .next ⟨some (.str T) :: some (.con (.ref a)) :: some (.str [46]) :: some (.cell 0) :: some (.app 0) :: some (.int (T.length : Nat)) :: some (.int (T.length : Nat)) :: x7 :: x8 :: x9 :: x10 :: x11 :: x12 :: tl, (parts ++ aS a b ps) :: junk⟩) →
 aC (WT fns bc) (WSs fns bg) Q (ps.length + 1) ⟨some (.str T) :: some (.con (.ref a)) :: some (.str [46]) :: some (.cell 0) :: some (.app 0) :: some (.int (pre.length : Nat)) :: some (.int (T.length : Nat)) :: x7 :: x8 :: x9 :: x10 :: x11 :: x12 :: tl, parts :: junk⟩ := by
 intro ps
 induction ps with
 | nil =>
  intro b pre parts junk x7 x8 x9 x10 x11 x12 hP hok hlen hb q
  have e : T.length = pre.length := by rw [hP]; simp [ptT]
  refine ad ?_
  conv => enter [2]; unfold bc
  repeat k_inBlock
  refine ai (by rw [e]; simp) ?_
  rw [← e]
  have := q junk x7 x8 x9 x10 x11 x12
  simpa [aS] using this
 | cons p ps ih =>
  intro b pre parts junk x7 x8 x9 x10 x11 x12 hP hok hlen hb q
  have hP2 : T = pre ++ (p.text ++ ptT ps) := by rw [hP]; simp [ptT]
  have hP3 : T = (pre ++ p.text) ++ ptT ps := by rw [hP2]; simp
  have hl : T.length = pre.length + p.text.length + (ptT ps).length := by rw [hP3]; simp; exact DS
  have hok' : ∀ p ∈ ps, p.ok := fun p' h' => hok p' (by simp [h'])
  have hp := hok p (by simp)
  have add : ∀ t : Txt, pR fns a p t → aS a b (p :: ps) = .str t :: aS a false ps → aC (WT fns bc) (WSs fns bg) Q ((p :: ps).length + 1) ⟨some (.str T) :: some (.con (.ref a)) :: some (.str [46]) :: some (.cell 0) :: some (.app 0) :: some (.int (pre.length : Nat)) :: some (.int (T.length : Nat)) :: x7 :: x8 :: x9 :: x10 :: x11 :: x12 :: tl, parts :: junk⟩ := by
   intro t ha hv
   have key := @ha Q pre (ptT ps) (ps.length + 1) parts junk x7 x8 x9 x10 x11 x12 tl (xW hT hl) (xV hT hl) (by simp at hlen; exact xU hlen)
   rw [← hP2] at key
   refine key fun junk x7 x8 x9 x10 x11 x12 => ?_
   have hb' : tZ a false (parts ++ [.str t]) := .inr ⟨parts, t, rfl⟩
   have hlen' : (parts ++ [V.str t]).length + ps.length < 80000 := by simp at hlen ⊢; exact xT hlen
   have key2 := ih false (pre ++ p.text) (parts ++ [.str t]) junk x7 x8 x9 x10 x11 x12 hP3 hok' hlen' hb'
   refine key2 (fun junk x7 x8 x9 x10 x11 x12 => ?_)
   have q' := q junk x7 x8 x9 x10 x11 x12
   rw [hv] at q'
   have e9 : parts ++ [V.str t] ++ aS a false ps = parts ++ V.str t :: aS a false ps := by simp
   rw [e9]
   exact q'
  cases p with
  | eq => exact add [61] (mw he rfl (by decide)) rfl
  | hf h => exact add _ (wu he hp) rfl
  | star =>
   have e1 : T = pre ++ (42 :: ptT ps) := hP2
   have e2 : pre ++ [42] = pre ++ Pt.text .star := rfl
   have key := wv (fns := fns) (Q := Q) (pre := pre) (R := ptT ps) (fuel := ps.length + 1) (junk := junk) (x7 := x7) (x8 := x8) (x9 := x9) (x10 := x10) (x11 := x11) (x12 := x12) (tl := tl) (xW hT hl) (xV hT hl) (by simp at hlen; exact xU hlen) hb
   rw [← e1] at key
   refine key fun x7 => ?_
   rw [e2]
   refine ih true (pre ++ Pt.text .star) _ junk x7 x8 x9 x10 x11 x12 hP3 hok' ?_ ?_ (fun junk x7 x8 x9 x10 x11 x12 => ?_)
   ·cases b <;> simp at hlen ⊢ <;> (first | exact xT hlen | exact DR hlen)
   ·cases b with
    | true => obtain ⟨l', rfl⟩ := hb; exact ⟨l', by simp⟩
    | false => exact ⟨parts, rfl⟩
   ·have q' := q junk x7 x8 x9 x10 x11 x12
    cases b
    ·simpa [aS] using q'
    ·simpa [aS] using q'
theorem f9 {cs : List (List V)} {n : Nat} : ∀ {l : List V}, V.fz.fzs l = true → l.mapM (aq cs (n + 1)) = some l
 | [], _ => rfl
 | v :: l, h => by
  have h := Bool.and_eq_true_iff.1 (show (v.fz && V.fz.fzs l) = true from h)
  have e : aq cs (n + 1) v = some v := if_pos h.1
  rw [List.mapM_cons, e, f9 h.2]; rfl
theorem d8 (a : Addr) : ∀ (ps : List Pt) (b : Bool), V.fz.fzs (aS a b ps) = true
 | [], _ => rfl
 | .star :: r, b => by
  cases b
  ·exact bD (v := V.con (.ref a)) rfl (d8 a r true)
  ·exact d8 a r true
 | .eq :: r, b => bD (v := V.str _) rfl (d8 a r false)
 | .hf h :: r, b => bD (v := V.str _) rfl (d8 a r false)
theorem wx {a : Addr} (he : k7 fns) {ps : List Pt} (hT : (ptT ps).length < 9000) (hps : ps.length < 9000) (hok : ∀ p ∈ ps, p.ok) :
  WSs fns c8 (ba (.lst (aS a false ps))) ⟨[some (.str (ptT ps)), some (.con (.ref a)), some (.str [46]), none, none, none, none, none, none, none, none, none, none, none, none, none, none, none, none, none, none], []⟩ := by
 unfold c8
 repeat k_inBlock
 try dsimp only [List.set]
 refine bN (ps.length + 1) ?_
 refine ww he hT ps false [] [] [] _ _ _ _ _ _ rfl hok (by simp; exact DQ hps) (.inl rfl) (fun junk x7 x8 x9 x10 x11 x12 => ?_)
 repeat k_inBlock
 refine ⟨by simp, ?_⟩
 repeat k_inBlock
 refine ⟨_, 2, rfl, ?_⟩
 have e1 : (V.cell 0).fz = false := rfl
 unfold aq; rw [e1]
 show Option.map V.lst ((aS a false ps).mapM (aq _ 1)) = _
 rw [f9 (d8 a ps false)]; rfl
end
noncomputable def ao : List Pt → List Tk × List (List Tk)
 | [] => ([], [])
 | .star :: r => match ao r with
  | ([], g :: m) => ([], g :: m)
  | (g, m) => ([], g :: m)
 | .eq :: r => (Tk.lit 61 :: (ao r).1, (ao r).2)
 | .hf h :: r => (hTk h :: (ao r).1, (ao r).2)
noncomputable def ft : List Tk × List (List Tk) → List Tk × List (List Tk)
 | ([], g :: m) => ([], g :: m)
 | (g, m) => ([], g :: m)
theorem ds (r : List Pt) : ao (.star :: r) = ft (ao r) := by
 show (match ao r with | ([], g :: m) => ([], g :: m) | (g, m) => ([], g :: m)) = _
 cases hp : ao r with
 | mk g m => cases g <;> cases m <;> rfl
theorem d0 (a : Addr) : ∀ r : List Pt, aS a false r = stL (txs (ao r).1) ++ cX a ((ao r).2.map txs) ∧
  aS a true r = (match ao r with | ([], g :: m) => stL (txs g) ++ cX a (m.map txs) | (g, m) => stL (txs g) ++ cX a (m.map txs))
 | [] => ⟨rfl, rfl⟩
 | .star :: r => by
  obtain ⟨h1, h2⟩ := d0 a r
  have e1 : aS a false (.star :: r) = .con (.ref a) :: aS a true r := rfl
  have e2 : aS a true (.star :: r) = aS a true r := rfl
  rw [e1, e2, h2]
  rw [ds]
  cases hp : ao r with
  | mk g m =>
   cases g with
   | nil =>
    cases m with
    | nil => exact ⟨rfl, rfl⟩
    | cons g' m' => exact ⟨rfl, rfl⟩
   | cons t g => exact ⟨rfl, rfl⟩
 | .eq :: r => by
  obtain ⟨h1, h2⟩ := d0 a r
  have e1 : ∀ b, aS a b (.eq :: r) = .str [61] :: aS a false r := fun b => rfl
  rw [e1, e1, h1]
  exact ⟨rfl, rfl⟩
 | .hf h :: r => by
  obtain ⟨h1, h2⟩ := d0 a r
  have e1 : ∀ b, aS a b (.hf h :: r) = .str (hTk h).text :: aS a false r := fun b => rfl
  rw [e1, e1, h1]
  exact ⟨rfl, rfl⟩
noncomputable def cK (p : List Tk × List (List Tk)) : Nat := p.1.length + p.2.flatten.length
theorem du : ∀ r : List Pt, cK (ao r) ≤ r.length ∧ (ao r).2.length ≤ r.length
 | [] => by simp [ao, cK]
 | .star :: r => by
  obtain ⟨h1, h2⟩ := du r
  rw [ds]
  cases hp : ao r with
  | mk g m =>
   rw [hp] at h1 h2
   simp only [cK] at h1 h2
   cases g with
   | nil =>
    cases m with
    | nil => simp [cK, ft]
    | cons g' m' => simp only [cK, ft, List.length_nil, List.length_cons] at *; exact D2 h1 h2
   | cons t g => simp only [cK, ft, List.length_nil, List.length_cons, List.flatten_cons, List.length_append] at *; exact D1 h1 h2
 | .eq :: r => by
  obtain ⟨h1, h2⟩ := du r
  simp only [ao, cK, List.length_cons] at *; exact xX h1 h2
 | .hf h :: r => by
  obtain ⟨h1, h2⟩ := du r
  simp only [ao, cK, List.length_cons] at *; exact xX h1 h2
theorem eU : ∀ r : List Pt, jv ((ao r).2.map txs)
 | [] => trivial
 | .star :: r => by
  have h := eU r
  rw [ds]
  cases hp : ao r with
  | mk g m =>
   rw [hp] at h
   cases g with
   | nil =>
    cases m with
    | nil => trivial
    | cons g' m' => exact h
   | cons t g =>
    cases m with
    | nil => trivial
    | cons g' m' => exact ⟨by simp [txs], h⟩
 | .eq :: r => eU r
 | .hf h :: r => eU r
theorem gH : ∀ r : List Pt, (∀ p ∈ r, p.ok) → (∀ t ∈ (ao r).1, t.ok) ∧ ∀ g ∈ (ao r).2, ∀ t ∈ g, t.ok
 | [], _ => ⟨fun t h => by simp [ao] at h, fun t h => by simp [ao] at h⟩
 | .star :: r, hr => by
  obtain ⟨h1, h2⟩ := gH r fun p h => hr p (by simp [h])
  rw [ds]
  cases hp : ao r with
  | mk g m =>
   rw [hp] at h1 h2
   cases g with
   | nil =>
    cases m with
    | nil => exact ⟨fun t h => (by cases h), fun g hg t ht => by simp [ft] at hg; subst hg; cases ht⟩
    | cons g' m' => exact ⟨fun t h => (by cases h), h2⟩
   | cons t g =>
    refine ⟨fun t h => (by cases h), fun g'' hg t' ht => ?_⟩
    rcases List.mem_cons.1 hg with rfl | hg
    ·exact h1 t' ht
    ·exact h2 g'' hg t' ht
 | .eq :: r, hr => by
  obtain ⟨h1, h2⟩ := gH r fun p h => hr p (by simp [h])
  refine ⟨fun t h => ?_, h2⟩
  rcases List.mem_cons.1 h with rfl | h
  ·show ag 61 = true; decide
  ·exact h1 t h
 | .hf hh :: r, hr => by
  obtain ⟨h1, h2⟩ := gH r fun p h => hr p (by simp [h])
  refine ⟨fun t h => ?_, h2⟩
  rcases List.mem_cons.1 h with rfl | h
  ·exact Ao (hr (.hf hh) (by simp))
  ·exact h1 t h
theorem As (t : Tk) : t.text.length ≤ 6 := by
 cases t with
 | any => decide
 | never => decide
 | lit c => simp [Tk.text]
 | rng b x y => cases b <;> simp [Tk.text]
 | two b x y => cases b <;> simp [Tk.text]
theorem gb : ∀ g : List Tk, (tkT g).length ≤ 6 * g.length
 | [] => by simp [tkT]
 | t :: g => by
  have h1 := As t
  have h2 := gb g
  have e : tkT (t :: g) = t.text ++ tkT g := by simp [tkT]
  rw [e, List.length_append, List.length_cons]; exact D0 h2 h1
theorem hM : ∀ m : List (List Tk), (bI m).length ≤ 6 * m.flatten.length + 7 * m.length
 | [] => by simp [bI, b0]
 | [g] => by
  have := gb g
  rw [kz]
  simp only [List.length_append, List.length_cons, List.length_nil, List.flatten_cons, List.flatten_nil]; exact DZ this
 | g :: g' :: r => by
  have h1 := gb g
  have h2 := hM (g' :: r)
  rw [jy]
  simp only [List.length_append, List.length_cons, List.length_nil, List.flatten_cons] at h2 ⊢; exact DY h2 h1
noncomputable def dm (ps : List Pt) : Txt := cB (ao ps).1 (ao ps).2
theorem pS (ps : List Pt) : (dm ps).length ≤ 13 * ps.length + 7 := by
 obtain ⟨h1, h2⟩ := du ps
 have h3 := gb (ao ps).1
 have h4 := hM (ao ps).2
 unfold cK at h1
 unfold dm cB
 simp only [List.length_append, List.length_cons, List.length_nil]; exact DX h1 h4 h2 h3
theorem nR (a : Addr) : ∀ m : List (List Txt), (cX a m).length = m.length + m.flatten.length
 | [] => rfl
 | g :: r => by
  have := nR a r
  simp [cX, stL] at this ⊢; omega
section
variable {fns : Fns} {cs : List (List V)} {K : V → Prop} {KS : V → St → Prop} {st : St} {loc : List (Option V)}
theorem m8 {a : Addr} {ps : List Pt} (h : ps.length < 1000) : WSs fns c9 (ba (.str (dm ps))) ⟨[some (.lst (aS a false ps)), some (.con (.ref a)), none, none, none, none, none, none, none, none, none, none, none, none, none], []⟩ := by
 obtain ⟨h1, h2⟩ := du ps
 have h3 := gb (ao ps).1
 have h4 := hM (ao ps).2
 unfold cK at h1
 rw [(d0 a ps).1]
 have hf : ((ao ps).2.map txs).flatten.length = (ao ps).2.flatten.length := by
  generalize (ao ps).2 = m
  induction m with
  | nil => rfl
  | cons g r ih => simp only [List.map_cons, List.flatten_cons, List.length_append, txs, List.length_map] at *; exact DW ih
 have e : dm ps = [40, 63, 115, 58] ++ ((txs (ao ps).1).flatten ++ b0 ((ao ps).2.map txs)) ++ [41, 92, 90] := rfl
 rw [e]
 refine Am (eU ps) ?_ ?_ ?_
 ·rw [List.length_append, nR, hf, cJ, List.length_map]
  simp only [txs, List.length_map]; exact DV h1 h hf h2
 ·rw [tW]; show (tkT _).length + (bI (ao ps).2).length < _; exact DU h h1 h2 h3 h4 hf
 ·simp only [txs, List.length_map]; exact DT h1 h hf h2
theorem m9 {ps : List Pt} (h2 : ∀ a, fns 2 [.str (ptT ps), .con (.ref a), .str [46]] (.lst (aS a false ps))) (h3 : ∀ a, fns 3 [.lst (aS a false ps), .con (.ref a)] (.str (dm ps))) :
  WSs fns c3 (ba (.str (dm ps))) ⟨[some (.str (ptT ps)), none, none, none, none, none, none, none, none, none, none], []⟩ := by
 unfold c3
 repeat k_inBlock
 refine Be fun a => ?_
 repeat k_inBlock
 refine dz ⟨rfl, _, h2 a, ?_⟩
 repeat k_inBlock
 refine dz ⟨?_, _, h3 a, ?_⟩
 ·exact bD (d8 _ _ _) rfl
 exact aB rfl
end
abbrev PR := Hf × Hf
set_option genInjectivity false in
inductive It where
 | star (n : Nat)
 | pair (p : PR)
noncomputable def It.pts : It → List Pt
 | .star n => List.replicate n .star
 | .pair p => [.eq, .hf p.1, .hf p.2]
noncomputable def rv (r : List PR) : Run := r.map fun p => (p.1.vals, p.2.vals)
noncomputable def aN : List It → List (List PR)
 | [] => [[]]
 | .star _ :: r => [] :: aN r
 | .pair p :: r => match aN r with
  | g :: m => (p :: g) :: m
  | [] => [[p]]
noncomputable def bp (x : Nat) : It × List Nat :=
 if x % 8 < 2 then (.star (1 + x % 8), [x / 24 % 256, 10].take (x / 8 % 3))
 else if x % 8 = 2 then (.pair (.dig (x / 8 % 256 / 16), .dig (x / 8 % 256 % 16)), [x / 8 % 256])
 else (.pair (aQ (x / 8 * 37 % 1536), aQ ((x / 12288 + x * 53) % 1536)),
  [if (aQ (x / 8 * 37 % 1536)).vals.isEmpty || (aQ ((x / 12288 + x * 53) % 1536)).vals.isEmpty then x / 8 % 256
   else 16 * ((aQ (x / 8 * 37 % 1536)).vals[x / 9 % (aQ (x / 8 * 37 % 1536)).vals.length]?.getD 0) + ((aQ ((x / 12288 + x * 53) % 1536)).vals[x / 11 % (aQ ((x / 12288 + x * 53) % 1536)).vals.length]?.getD 0)])
noncomputable def numsOf (script : List Int) : List Nat :=
 ((script.take 5).map fun i => (i % 100000000).toNat) ++ if ((script.take 5).map fun i => (i % 100000000).toNat).length < 3 then [65, 13, 8] else []
noncomputable def RB (cs : List (List V)) : List Nat → List (List PR) → Prop
 | [], [] => True
 | i :: is, r :: rs => cs[i]? = some ((rv r).map cD) ∧ RB cs is rs
 | _, _ => False
structure BI (cs : List (List V)) (ids : List Nat) (raw : List (List PR)) (row : List Nat) : Prop where
 c1 : cs[1]? = some (ids.map V.cell)
 c2 : cs[2]? = some (nv row)
 nd : ids.Nodup
 n1 : 1 ∉ ids
 n2 : 2 ∉ ids
 rl : RB cs ids raw
theorem RB.mono {cs cs' : List (List V)} : ∀ {is : List Nat} {rs : List (List PR)}, (∀ i ∈ is, cs'[i]? = cs[i]?) → RB cs is rs → RB cs' is rs
 | [], [], _, _ => trivial
 | i :: is, r :: rs, hi, ⟨h1, h2⟩ => ⟨by rw [hi i (by simp)]; exact h1, RB.mono (fun j hj => hi j (by simp [hj])) h2⟩
 | [], _ :: _, _, h' => h'.elim
 | _ :: _, [], _, h' => h'.elim
theorem RB.snoc {cs : List (List V)} {i : Nat} {r : List PR} (h : cs[i]? = some ((rv r).map cD)) : ∀ {is : List Nat} {rs : List (List PR)}, RB cs is rs → RB cs (is ++ [i]) (rs ++ [r])
 | [], [], _ => ⟨h, trivial⟩
 | j :: is, q :: rs, ⟨h1, h2⟩ => ⟨h1, RB.snoc h h2⟩
 | [], _ :: _, h' => h'.elim
 | _ :: _, [], h' => h'.elim
theorem RB.unsnoc {cs : List (List V)} : ∀ {is : List Nat} {rs : List (List PR)} {r : List PR}, RB cs is (rs ++ [r]) → ∃ is' i, is = is' ++ [i] ∧ RB cs is' rs ∧ cs[i]? = some ((rv r).map cD)
 | [], [], r, h => h.elim
 | [], _ :: _, r, h => h.elim
 | i :: is, [], r, h => by
  obtain ⟨a, h2⟩ := h
  cases is with
  | nil => exact ⟨[], i, rfl, trivial, a⟩
  | cons => exact h2.elim
 | i :: is, q :: rs, r, ⟨h1, h2⟩ => by
  obtain ⟨is', j, rfl, a, b⟩ := RB.unsnoc h2
  exact ⟨i :: is', j, rfl, ⟨h1, a⟩, b⟩
theorem RB.lt {cs : List (List V)} : ∀ {is : List Nat} {rs : List (List PR)}, RB cs is rs → ∀ i ∈ is, i < cs.length
 | [], [], _, i, h => by cases h
 | j :: is, r :: rs, ⟨h1, h2⟩, i, h => by
  rcases List.mem_cons.1 h with rfl | h
  ·exact (List.getElem?_eq_some_iff.1 h1).1
  ·exact RB.lt h2 i h
 | [], _ :: _, h', _, _ => h'.elim
 | _ :: _, [], h', _, _ => h'.elim
theorem RB.len {cs : List (List V)} : ∀ {is : List Nat} {rs : List (List PR)}, RB cs is rs → is.length = rs.length
 | [], [], _ => rfl
 | _ :: is, _ :: rs, ⟨_, h2⟩ => by simp [RB.len h2]
 | [], _ :: _, h' => h'.elim
 | _ :: _, [], h' => h'.elim
theorem BI.more {cs : List (List V)} {ids : List Nat} {raw : List (List PR)} {row : List Nat} (h : BI cs ids raw row) (l : List V) : BI (cs ++ [l]) ids raw row := by
 refine ⟨by rw [List.getElem?_append_left (List.getElem?_eq_some_iff.1 h.c1).1]; exact h.c1, by rw [List.getElem?_append_left (List.getElem?_eq_some_iff.1 h.c2).1]; exact h.c2, h.nd, h.n1, h.n2, RB.mono (fun i hi => ?_) h.rl⟩
 rw [List.getElem?_append_left (h.rl.lt i hi)]
theorem BI.run {cs : List (List V)} {ids : List Nat} {raw : List (List PR)} {row : List Nat} (h : BI cs ids raw row) : BI ((cs ++ [[]]).set 1 (ids.map V.cell ++ [V.cell cs.length])) (ids ++ [cs.length]) (raw ++ [[]]) row := by
 have hl := (List.getElem?_eq_some_iff.1 h.c1).1
 have hl2 := (List.getElem?_eq_some_iff.1 h.c2).1
 have lt := h.rl.lt
 have g : ∀ k, k ≠ 1 → ((cs ++ [[]]).set 1 (ids.map V.cell ++ [V.cell cs.length]))[k]? = (cs ++ [[]])[k]? := fun k hk => List.getElem?_set_ne (fun e => hk e.symm)
 refine ⟨?_, ?_, ?_, ?_, ?_, ?_⟩
 ·rw [List.getElem?_set_self (by simp; exact D6 hl2)]; simp
 ·rw [g 2 (by decide), List.getElem?_append_left hl2]; exact h.c2
 ·refine List.nodup_append.2 ⟨h.nd, by simp, fun a ha b hb e => ?_⟩
  simp at hb; have := lt a ha; exact xq this e hb
 ·intro hm
  rcases List.mem_append.1 hm with hm | hm
  ·exact h.n1 hm
  ·simp at hm; exact D5 hm hl2
 ·intro hm
  rcases List.mem_append.1 hm with hm | hm
  ·exact h.n2 hm
  ·simp at hm; exact D4 hl2 hm
 ·refine RB.snoc (r := []) ?_ (RB.mono (fun i hi => ?_) h.rl)
  ·rw [g _ (D3 hl2), am]; rfl
  ·have h1 : i ≠ 1 := fun e => h.n1 (e ▸ hi)
   rw [g i h1, List.getElem?_append_left (lt i hi)]
theorem BI.pair {cs : List (List V)} {ids : List Nat} {raw : List (List PR)} {r : List PR} {row : List Nat} (p : PR) (h : BI cs ids (raw ++ [r]) row) :
  ∃ is' i, ids = is' ++ [i] ∧ cs[i]? = some ((rv r).map cD) ∧ BI (cs.set i ((rv r).map cD ++ [cD (p.1.vals, p.2.vals)])) ids (raw ++ [r ++ [p]]) row := by
 obtain ⟨is', i, e, h1, h2⟩ := h.rl.unsnoc
 have hi : i ∈ ids := by rw [e]; simp
 have i1 : i ≠ 1 := fun q => h.n1 (q ▸ hi)
 have i2 : i ≠ 2 := fun q => h.n2 (q ▸ hi)
 have hlt := h.rl.lt i hi
 refine ⟨is', i, e, h2, ?_, ?_, h.nd, h.n1, h.n2, ?_⟩
 ·rw [List.getElem?_set_ne i1]; exact h.c1
 ·rw [List.getElem?_set_ne i2]; exact h.c2
 ·have key : RB (cs.set i ((rv r).map cD ++ [cD (p.1.vals, p.2.vals)])) (is' ++ [i]) (raw ++ [r ++ [p]]) := by
   refine RB.snoc ?_ (RB.mono (fun j hj => ?_) h1)
   ·rw [List.getElem?_set_self hlt]; simp [rv]
   ·refine List.getElem?_set_ne fun q => ?_
    have nd := h.nd
    rw [e] at nd
    exact (List.nodup_append.1 nd).2.2 j hj i (by simp) q.symm
  rwa [← e] at key
theorem BI.row {cs : List (List V)} {ids : List Nat} {raw : List (List PR)} {row : List Nat} (h : BI cs ids raw row) (l : List Nat) : BI (cs.set 2 (nv row ++ nv l)) ids raw (row ++ l) := by
 have hl2 := (List.getElem?_eq_some_iff.1 h.c2).1
 refine ⟨by rw [List.getElem?_set_ne (by decide)]; exact h.c1, by rw [List.getElem?_set_self hl2]; simp [nv], h.nd, h.n1, h.n2, RB.mono (fun i hi => ?_) h.rl⟩
 exact List.getElem?_set_ne fun q => h.n2 (by rw [q]; exact hi)
section
variable {fns : Fns} {cs : List (List V)} {K : V → Prop} {KS : V → St → Prop} {st : St} {loc : List (Option V)}
noncomputable def mx (fns : Fns) : Prop := ∀ n : Nat, n < 1536 → fns 7 [.int (n : Nat)] (.tup [.str (aQ n).text, .lst (nv (aQ n).vals)])
noncomputable def eW (fns : Fns) : Prop := ∀ c : Nat, c < 256 → fns 5 [.str [c]] (.str (q3 c))
theorem jB (h : Hf) : h.text.length ≤ 6 := by
 cases h with
 | any => decide
 | dig x => simp [Hf.text]
 | rng b x y => cases b <;> simp [Hf.text]
 | two b x y => cases b <;> simp [Hf.text]
noncomputable def gc (raw : List (List PR)) (r : List PR) : It → List (List PR)
 | .star _ => raw ++ [r, []]
 | .pair p => raw ++ [r ++ [p]]
theorem iK : ∀ n : Nat, (List.replicate n [42]).flatten = (List.replicate n Pt.star).flatMap Pt.text
 | 0 => rfl
 | n + 1 => by rw [List.replicate_succ, List.replicate_succ, List.flatten_cons, List.flatMap_cons, iK n]; rfl
theorem il {h : Hf} (w : h.wf) : ∀ v ∈ h.vals, v < 16 := by
 have hin : ∀ x y r, ∀ v ∈ Hf.inside x y r, v < 16 := fun x y r v hv => List.mem_range.1 (List.mem_filter.1 hv).1
 have hout : ∀ x y r, ∀ v ∈ Hf.outside x y r, v < 16 := fun x y r v hv => List.mem_range.1 (List.mem_filter.1 hv).1
 intro v hv
 cases h with
 | any => exact List.mem_range.1 hv
 | dig x => simp [Hf.vals] at hv; subst hv; exact w
 | rng b x y =>
  cases b
  ·exact hin _ _ _ v hv
  ·exact hout _ _ _ v hv
 | two b x y =>
  cases b
  ·exact hin _ _ _ v hv
  ·exact hout _ _ _ v hv
theorem pT {Q : Fl → St → Prop} {x : Nat} (hx : x < 100000000) (hh : mx fns) (hq : eW fns) {x0 x1 x2 x6 x7 x8 x9 x10 : Option V} {tl : List (Option V)} {T : Txt} {ids : List Nat} {raw : List (List PR)} {r : List PR} {row : List Nat} {xs : List V}
 (h : BI cs ids (raw ++ [r]) row) (hT : T.length < 1000) (hi : ids.length < 1000) (hr : row.length < 1000) (hrl : r.length < 1000)
 (q : ∀ cs' ids' x6 x7 x8 x9 x10, BI cs' ids' (gc raw r (bp x).1) (row ++ (bp x).2) → cf (dO fns 1 f0) Q xs ⟨x0 :: some (.int (x : Nat)) :: x2 :: some (.str (T ++ ptT (bp x).1.pts)) :: some (.cell 1) :: some (.cell 2) :: x6 :: x7 :: x8 :: x9 :: x10 :: tl, cs'⟩) :
 cf (dO fns 1 f0) Q (.int (x : Nat) :: xs) ⟨x0 :: x1 :: x2 :: some (.str T) :: some (.cell 1) :: some (.cell 2) :: x6 :: x7 :: x8 :: x9 :: x10 :: tl, cs⟩ := by
 refine bV ?_
 conv => enter [2]; unfold f0
 repeat k_inBlock
 refine di (j := 8) rfl (by decide) ?_
 repeat k_inBlock
 refine bG (j := 256) rfl (by decide) ?_
 repeat k_inBlock
 refine bG (j := 8) rfl (by decide) ?_
 repeat k_inBlock
 try dsimp only [List.set]
 have ho : x / 8 % 256 < 256 := Nat.mod_lt _ (by decide)
 by_cases g1 : x % 8 < 2
 ·have ei : bp x = (.star (1 + x % 8), [x / 24 % 256, 10].take (x / 8 % 3)) := if_pos g1
  rw [ei] at q
  repeat k_inBlock
  refine af (by simp; exact Er g1) ?_
  repeat k_inBlock
  refine bG (j := 8) rfl (by decide) ?_
  repeat k_inBlock
  refine z9 (i := 1 + ((x % 8 : Nat) : Int)) ⟨Ep g1, bw (Eo g1), by show 1 * (1 + ((x % 8 : Nat) : Int)).toNat ≤ 1000000; exact En g1, ?_⟩
  have et : (1 + ((x % 8 : Nat) : Int)).toNat = 1 + x % 8 := Em g1
  rw [et]
  have ep : (List.replicate (1 + x % 8) [42]).flatten = ptT (It.star (1 + x % 8)).pts := iK _
  have el : (List.replicate (1 + x % 8) [42]).flatten.length ≤ 2 := by simp; exact El et g1
  refine gY ⟨by show _ ≤ 1000000; exact xZ hT el, ?_⟩
  rw [ep]
  repeat k_inBlock
  have hc1 : (cs ++ [[]])[1]? = some (ids.map V.cell) := by rw [List.getElem?_append_left (List.getElem?_eq_some_iff.1 h.c1).1]; exact h.c1
  refine aK hc1 ⟨by rw [List.length_map]; show ids.length < 1000000; exact jH hi, ?_⟩
  repeat k_inBlock
  have h2 := h.run
  refine di (j := 24) rfl (by decide) ?_
  repeat k_inBlock
  refine bG (j := 256) rfl (by decide) ?_
  repeat k_inBlock
  refine di (j := 8) rfl (by decide) ?_
  repeat k_inBlock
  refine bG (j := 3) rfl (by decide) ?_
  repeat k_inBlock
  refine iH rfl rfl aA (aa (Ek)) ?_
  rw [mj, show List.take (x / 8 % 3) [V.int ((x / 24 % 256 : Nat) : Int), V.int 10] = nv ([x / 24 % 256, 10].take (x / 8 % 3)) by rw [nv, List.map_take]; rfl]
  repeat k_inBlock
  have hl2 : (List.take (x / 8 % 3) [x / 24 % 256, 10]).length ≤ 2 := by rw [List.length_take]; simp; exact ya
  refine Bf h2.c2 ⟨by rw [aV, aV]; show _ ≤ 1000000; exact xZ hr hl2, ?_⟩
  repeat k_inBlock
  try dsimp only [List.set]
  have h3 := h2.row ([x / 24 % 256, 10].take (x / 8 % 3))
  have h4 : raw ++ [r] ++ [[]] = gc raw r (.star (1 + x % 8)) := by simp [gc]
  rw [h4] at h3
  exact q _ _ _ _ _ _ _ h3
 refine ai (by simp; exact Ej g1) ?_
 repeat k_inBlock
 refine bG (j := 8) rfl (by decide) ?_
 repeat k_inBlock
 by_cases g2 : x % 8 = 2
 ·have ei : bp x = (.pair (.dig (x / 8 % 256 / 16), .dig (x / 8 % 256 % 16)), [x / 8 % 256]) := by unfold bp; rw [if_neg g1, if_pos g2]
  rw [ei] at q
  repeat k_inBlock
  refine af (by simp; exact Ei g2) ?_
  repeat k_inBlock
  refine kY ⟨Eh ho, Eg ho, ?_⟩
  rw [Int.toNat_natCast]
  repeat k_inBlock
  refine dz ⟨rfl, _, hq _ ho, ?_⟩
  have et : q3 (x / 8 % 256) = ptT (It.pair (.dig (x / 8 % 256 / 16), .dig (x / 8 % 256 % 16))).pts := rfl
  refine gY ⟨by show T.length + 3 ≤ 1000000; exact Ef hT, ?_⟩
  rw [et]
  repeat k_inBlock
  obtain ⟨is', i, e1, e2, e3⟩ := h.pair (.dig (x / 8 % 256 / 16), .dig (x / 8 % 256 % 16))
  have g0 := h.c1
  rw [e1, List.map_append] at g0
  repeat k_inBlock
  refine eH g0 ?_
  repeat k_inBlock
  refine di (j := 16) rfl (by decide) ?_
  repeat k_inBlock
  refine bG (j := 16) rfl (by decide) ?_
  repeat k_inBlock
  refine aK e2 ⟨by rw [List.length_map]; simp [rv]; show r.length < 1000000; exact jH hrl, ?_⟩
  repeat k_inBlock
  have ev : ((rv r).map cD ++ [V.tup [.lst [.int ((x / 8 % 256 / 16 : Nat) : Int)], .lst [.int ((x / 8 % 256 % 16 : Nat) : Int)]]]) = (rv r).map cD ++ [cD ((Hf.dig (x / 8 % 256 / 16)).vals, (Hf.dig (x / 8 % 256 % 16)).vals)] := rfl
  rw [ev]
  repeat k_inBlock
  refine aK e3.c2 ⟨by rw [aV]; show _ < 1000000; exact jH hr, ?_⟩
  repeat k_inBlock
  try dsimp only [List.set]
  have h3 := e3.row [x / 8 % 256]
  exact q _ _ _ _ _ _ _ h3
 have ei : bp x = (.pair (aQ (x / 8 * 37 % 1536), aQ ((x / 12288 + x * 53) % 1536)),
  [if (aQ (x / 8 * 37 % 1536)).vals.isEmpty || (aQ ((x / 12288 + x * 53) % 1536)).vals.isEmpty then x / 8 % 256
   else 16 * ((aQ (x / 8 * 37 % 1536)).vals[x / 9 % (aQ (x / 8 * 37 % 1536)).vals.length]?.getD 0) + ((aQ ((x / 12288 + x * 53) % 1536)).vals[x / 11 % (aQ ((x / 12288 + x * 53) % 1536)).vals.length]?.getD 0)]) := by
  unfold bp; rw [if_neg g1, if_neg g2]
 rw [ei] at q
 have m1 : x / 8 * 37 % 1536 < 1536 := Nat.mod_lt _ (by decide)
 have m2 : (x / 12288 + x * 53) % 1536 < 1536 := Nat.mod_lt _ (by decide)
 have f1 := hh _ m1
 have f2 := hh _ m2
 refine ai (by simp; exact Ee g2) ?_
 repeat k_inBlock
 refine di (j := 8) rfl (by decide) ?_
 repeat k_inBlock
 refine rd (j := 37) rfl (Ed hx g1) (by decide) ?_
 repeat k_inBlock
 refine bG (j := 1536) rfl (by decide) ?_
 repeat k_inBlock
 refine dz ⟨rfl, _, f1, ?_⟩
 repeat k_inBlock
 try dsimp only [List.set]
 refine di (j := 12288) rfl (by decide) ?_
 repeat k_inBlock
 refine rd (j := 53) rfl (Ec hx) (by decide) ?_
 repeat k_inBlock
 rw [← Int.natCast_add]
 repeat k_inBlock
 refine bG (j := 1536) rfl (by decide) ?_
 repeat k_inBlock
 refine dz ⟨rfl, _, f2, ?_⟩
 clear f1 f2
 have w1 := dS (x / 8 * 37 % 1536)
 have w2 := dS ((x / 12288 + x * 53) % 1536)
 generalize aQ (x / 8 * 37 % 1536) = h1 at *
 generalize aQ ((x / 12288 + x * 53) % 1536) = h2 at *
 have l1 := jB h1
 have l2 := jB h2
 repeat k_inBlock
 try dsimp only [List.set]
 refine bk ⟨by show 1 + h1.text.length ≤ 1000000; exact xY l1, ?_⟩
 repeat k_inBlock
 refine bk ⟨by rw [List.length_append]; show 1 + h1.text.length + h2.text.length ≤ 1000000; exact Eb l1 l2, ?_⟩
 have et : [61] ++ h1.text ++ h2.text = ptT (It.pair (h1, h2)).pts := by simp [ptT, It.pts, Pt.text]
 have etl : ([61] ++ h1.text ++ h2.text).length ≤ 13 := by simp; exact Ea l1 l2
 refine gY ⟨by show _ ≤ 1000000; exact D9 hT etl, ?_⟩
 rw [et]
 repeat k_inBlock
 obtain ⟨is', i, e1, e2, e3⟩ := h.pair (h1, h2)
 have g0 := h.c1
 rw [e1, List.map_append] at g0
 repeat k_inBlock
 refine eH g0 ?_
 repeat k_inBlock
 refine aK e2 ⟨by rw [List.length_map]; simp [rv]; show r.length < 1000000; exact jH hrl, ?_⟩
 repeat k_inBlock
 refine pK (am _ _) ?_
 have hemp : ∀ l : List Nat, (nv l).isEmpty = l.isEmpty := fun l => by cases l <;> rfl
 rw [hemp]
 have fin : ∀ (o : Nat) (cs' : List (List V)), BI cs' ids (raw ++ [r ++ [(h1, h2)]]) row → o = (if (h1.vals.isEmpty || h2.vals.isEmpty) = true then x / 8 % 256
        else 16 * h1.vals[x / 9 % h1.vals.length]?.getD 0 + h2.vals[x / 11 % h2.vals.length]?.getD 0) →
   WSs fns [S.expr (X.meth Mt.append (X.loc 5) [X.loc 6])] (jo (dO fns 1 f0) Q xs)
    ⟨x0 :: some (.int (x : Nat)) :: x2 :: some (.str (T ++ ptT (It.pair (h1, h2)).pts)) :: some (.cell 1) :: some (.cell 2) :: some (.int (o : Nat)) :: some (.str h1.text) :: some (.lst (nv h1.vals)) :: some (.str h2.text) :: some (.lst (nv h2.vals)) :: tl, cs'⟩ := by
  intro o cs' hb eo
  repeat k_inBlock
  refine aK hb.c2 ⟨by rw [aV]; show _ < 1000000; exact jH hr, ?_⟩
  repeat k_inBlock
  have h3 := hb.row [o]
  rw [eo] at h3
  rw [eo]
  exact q _ _ _ _ _ _ _ h3
 cases g3 : h1.vals.isEmpty with
 | true =>
  first | exact fin _ _ (e3.more []) (by rw [if_pos (by simp [g3])]) | (k_inBlock; first | exact fin _ _ (e3.more []) (by rw [if_pos (by simp [g3])]) | (k_inBlock; first | exact fin _ _ (e3.more []) (by rw [if_pos (by simp [g3])]) | (k_inBlock; first | exact fin _ _ (e3.more []) (by rw [if_pos (by simp [g3])]) | (k_inBlock; first | exact fin _ _ (e3.more []) (by rw [if_pos (by simp [g3])]) | (k_inBlock; first | exact fin _ _ (e3.more []) (by rw [if_pos (by simp [g3])]) | (k_inBlock; first | exact fin _ _ (e3.more []) (by rw [if_pos (by simp [g3])]) | (k_inBlock; first | exact fin _ _ (e3.more []) (by rw [if_pos (by simp [g3])]))))))))
 | false =>
  repeat k_inBlock
  repeat k_inBlock
  refine pK (am _ _) ?_
  rw [hemp]
  cases g4 : h2.vals.isEmpty with
  | true =>
   first | exact fin _ _ ((e3.more []).more []) (by rw [if_pos (by simp [g4])]) | (k_inBlock; first | exact fin _ _ ((e3.more []).more []) (by rw [if_pos (by simp [g4])]) | (k_inBlock; first | exact fin _ _ ((e3.more []).more []) (by rw [if_pos (by simp [g4])]) | (k_inBlock; first | exact fin _ _ ((e3.more []).more []) (by rw [if_pos (by simp [g4])]) | (k_inBlock; first | exact fin _ _ ((e3.more []).more []) (by rw [if_pos (by simp [g4])]) | (k_inBlock; exact fin _ _ ((e3.more []).more []) (by rw [if_pos (by simp [g4])]))))))
  | false =>
   repeat k_inBlock
   have p1 : 0 < h1.vals.length := by cases hv : h1.vals with | nil => rw [hv] at g3; cases g3 | cons => simp
   have p2 : 0 < h2.vals.length := by cases hv : h2.vals with | nil => rw [hv] at g4; cases g4 | cons => simp
   obtain ⟨v1, hv1⟩ : ∃ v, h1.vals[x / 9 % h1.vals.length]? = some v := ⟨_, List.getElem?_eq_getElem (Nat.mod_lt _ p1)⟩
   obtain ⟨v2, hv2⟩ : ∃ v, h2.vals[x / 11 % h2.vals.length]? = some v := ⟨_, List.getElem?_eq_getElem (Nat.mod_lt _ p2)⟩
   have b1 := il w1 v1 (List.mem_of_getElem? hv1)
   have b2 := il w2 v2 (List.mem_of_getElem? hv2)
   repeat k_inBlock
   refine di (j := 9) rfl (by decide) ?_
   repeat k_inBlock
   rw [aV]
   repeat k_inBlock
   refine bG rfl p1 ?_
   repeat k_inBlock
   refine i_l (js hv1) ?_
   repeat k_inBlock
   refine uV ⟨bw (by decide), cN (D8 b1), ?_⟩
   repeat k_inBlock
   refine di (j := 11) rfl (by decide) ?_
   repeat k_inBlock
   rw [aV]
   repeat k_inBlock
   refine bG rfl p2 ?_
   repeat k_inBlock
   refine i_l (js hv2) ?_
   repeat k_inBlock
   try dsimp only [List.set]
   have ev : (16 : Int) * ((v1 : Nat) : Int) + ((v2 : Nat) : Int) = ((16 * v1 + v2 : Nat) : Int) := D7
   rw [ev]
   have eo : 16 * v1 + v2 = (if (h1.vals.isEmpty || h2.vals.isEmpty) = true then x / 8 % 256
        else 16 * h1.vals[x / 9 % h1.vals.length]?.getD 0 + h2.vals[x / 11 % h2.vals.length]?.getD 0) := by
    rw [if_neg (by simp [g3, g4]), hv1, hv2]; rfl
   have hb := (e3.more []).more []
   refine aK hb.c2 ⟨by rw [aV]; show _ < 1000000; exact jH hr, ?_⟩
   repeat k_inBlock
   have h3 := hb.row [16 * v1 + v2]
   rw [eo] at h3
   rw [eo]
   exact q _ _ _ _ _ _ _ h3
end
noncomputable def cP (r : List PR) : List (List PR) → List (List PR)
 | g :: m => (r ++ g) :: m
 | [] => [r]
noncomputable def aU (xs : List Nat) : List It := xs.map fun x => (bp x).1
noncomputable def cb (xs : List Nat) : List Nat := xs.flatMap fun x => (bp x).2
noncomputable def br (its : List It) : List Pt := its.flatMap It.pts
noncomputable def bb : List (List PR) → List (List PR)
 | [] => []
 | [g] => [g]
 | g :: g' :: r => if g.isEmpty then bb (g' :: r) else g :: bb (g' :: r)
noncomputable def fG : List (List PR) → List (List PR)
 | [] => []
 | r0 :: rest => r0 :: bb rest
noncomputable def fu (xs : List Nat) : V := .tup [.str (ptT (br (aU xs))), .lst ((fG (aN (aU xs))).map fun r => aT (rv r)), .lst (nv (cb xs))]
theorem nS (a b : List Pt) : ptT (a ++ b) = ptT a ++ ptT b := by unfold ptT; rw [List.flatMap_append]
theorem hO (l : List It) : ∃ g m, aN l = g :: m := by
 cases l with
 | nil => exact ⟨_, _, rfl⟩
 | cons i r =>
  cases i with
  | star n => exact ⟨_, _, rfl⟩
  | pair p =>
   unfold aN
   split
   ·exact ⟨_, _, rfl⟩
   ·exact ⟨_, _, rfl⟩
theorem t7 (p : PR) (l : List It) (r : List PR) : cP r (aN (.pair p :: l)) = cP (r ++ [p]) (aN l) := by
 obtain ⟨g, m, e⟩ := hO l
 rw [aN, e]; simp [cP]
theorem hU (l : List It) : cP [] (aN l) = aN l := by
 obtain ⟨g, m, e⟩ := hO l
 rw [e]; rfl
theorem gI (rl : List PR) : ∀ mids : List (List PR), bb (mids ++ [rl]) = mids.filter (fun r => !r.isEmpty) ++ [rl]
 | [] => rfl
 | [g] => by cases g <;> rfl
 | g :: g' :: r => by
  have ih := gI rl (g' :: r)
  rw [List.cons_append] at ih
  show (if g.isEmpty then bb (g' :: (r ++ [rl])) else g :: bb (g' :: (r ++ [rl]))) = _
  rw [ih]
  cases g <;> simp
theorem iL (x : Nat) : (ptT (bp x).1.pts).length ≤ 13 ∧ (bp x).2.length ≤ 2 := by
 unfold bp
 split
 ·refine ⟨?_, by rw [List.length_take]; simp; exact ya⟩
  show (ptT (It.star (1 + x % 8)).pts).length ≤ 13
  have := iK (1 + x % 8)
  unfold ptT It.pts
  rw [← this]; simp; omega
 ·split
  ·refine ⟨by show 3 ≤ 13; decide, by show 1 ≤ 2; decide⟩
  ·have l1 := jB (aQ (x / 8 * 37 % 1536))
   have l2 := jB (aQ ((x / 12288 + x * 53) % 1536))
   refine ⟨?_, by show 1 ≤ 2; decide⟩
   simp only [ptT, It.pts, List.flatMap_cons, List.flatMap_nil, Pt.text, List.length_append, List.length_cons, List.length_nil]; exact Ex l1 l2
section
variable {fns : Fns} {cs : List (List V)} {K : V → Prop} {KS : V → St → Prop} {st : St} {loc : List (Option V)}
theorem pU {Q : Fl → St → Prop} (hh : mx fns) (hq : eW fns) {x0 x2 : Option V} {tl : List (Option V)} : ∀ (xs : List Nat) (x1 x6 x7 x8 x9 x10 : Option V) (T : Txt) (ids : List Nat) (raw : List (List PR)) (r : List PR) (row : List Nat) (cs : List (List V)), (∀ x ∈ xs, x < 100000000) →
 BI cs ids (raw ++ [r]) row → T.length + 13 * xs.length < 1000 → ids.length + xs.length < 1000 → row.length + 2 * xs.length < 1000 → r.length + xs.length < 1000 →
 (∀ cs' ids' x1 x6 x7 x8 x9 x10, BI cs' ids' (raw ++ cP r (aN (aU xs))) (row ++ cb xs) → Q .next ⟨x0 :: x1 :: x2 :: some (.str (T ++ ptT (br (aU xs)))) :: some (.cell 1) :: some (.cell 2) :: x6 :: x7 :: x8 :: x9 :: x10 :: tl, cs'⟩) →
 cf (dO fns 1 f0) Q (nv xs) ⟨x0 :: x1 :: x2 :: some (.str T) :: some (.cell 1) :: some (.cell 2) :: x6 :: x7 :: x8 :: x9 :: x10 :: tl, cs⟩ := by
 intro xs
 induction xs with
 | nil =>
  intro x1 x6 x7 x8 x9 x10 T ids raw r row cs hx h hT hi hr hrl q
  refine cy ?_
  have := q cs ids x1 x6 x7 x8 x9 x10 (by simpa [aU, aN, cP, cb] using h)
  simpa [aU, br, ptT] using this
 | cons x xs ih =>
  intro x1 x6 x7 x8 x9 x10 T ids raw r row cs hx h hT hi hr hrl q
  obtain ⟨b1, b2⟩ := iL x
  have e1 : ptT (br (aU (x :: xs))) = ptT (bp x).1.pts ++ ptT (br (aU xs)) := by
   rw [← nS]; rfl
  have e2 : cb (x :: xs) = (bp x).2 ++ cb xs := by simp [cb]
  have e3 : aN (aU (x :: xs)) = aN ((bp x).1 :: aU xs) := rfl
  rw [List.length_cons] at hT hi hr hrl
  rw [e1, e2, e3, ← List.append_assoc, ← List.append_assoc] at q
  refine pT (hx x (by simp)) hh hq h (Ew hT) (yd hT hi) (Ev hT hr) (yd hT hrl) (fun cs' ids' x6 x7 x8 x9 x10 h' => ?_)
  have hidl : ∀ {cs' ids' raw row}, BI cs' ids' raw row → ids'.length = raw.length := fun h => h.rl.len
  have i1 := hidl h
  have i2 := hidl h'
  cases hit : (bp x).1 with
  | star n =>
   rw [hit] at h' q b1 i2
   have er : raw ++ cP r (aN (It.star n :: aU xs)) = (raw ++ [r]) ++ cP [] (aN (aU xs)) := by
    rw [hU]; simp [aN, cP]
   rw [er] at q
   have ea : gc raw r (.star n) = (raw ++ [r]) ++ [[]] := by simp [gc]
   rw [ea] at h' i2
   simp only [List.length_append, List.length_cons, List.length_nil] at i1 i2
   exact ih _ _ _ _ _ _ _ ids' (raw ++ [r]) [] _ cs' (fun y hy => hx y (by simp [hy])) h' (by rw [List.length_append]; exact yc hT b1) (Eu hi i1 i2) (by rw [List.length_append]; exact yb hr b2) (by simp; exact Et hT) q
  | pair p =>
   rw [hit] at h' q b1 i2
   rw [t7] at q
   have ea : gc raw r (.pair p) = raw ++ [r ++ [p]] := rfl
   rw [ea] at h' i2
   simp only [List.length_append, List.length_cons, List.length_nil] at i1 i2
   exact ih _ _ _ _ _ _ _ ids' raw (r ++ [p]) _ cs' (fun y hy => hx y (by simp [hy])) h' (by rw [List.length_append]; exact yc hT b1) (Es hi i1 i2) (by rw [List.length_append]; exact yb hr b2) (by simp; exact rY hrl) q
theorem pV {cs : List (List V)} {i n : Nat} {r : List PR} (h : cs[i]? = some ((rv r).map cD)) : aq cs (n + 2) (.cell i) = some (aT (rv r)) := by
 have e1 : (V.cell i).fz = false := rfl
 unfold aq; rw [e1]
 simp only [Bool.false_eq_true, if_false, h]
 rw [f9 (dF _ mo _)]; rfl
theorem RB.freeze {cs : List (List V)} {n : Nat} : ∀ {is : List Nat} {rs : List (List PR)}, RB cs is rs → (is.map V.cell).mapM (aq cs (n + 2)) = some (rs.map fun r => aT (rv r))
 | [], [], _ => rfl
 | i :: is, r :: rs, ⟨h1, h2⟩ => by
  rw [List.map_cons, List.mapM_cons, pV h1, RB.freeze h2]; rfl
 | [], _ :: _, h' => h'.elim
 | _ :: _, [], h' => h'.elim
noncomputable def gJ (cs : List (List V)) : V → Option V
 | .cell k => if (cs[k]?.getD []).isEmpty then Option.none else some (.cell k)
 | _ => Option.none
theorem RB.keep {cs : List (List V)} : ∀ {is : List Nat} {rs : List (List PR)}, RB cs is rs → ∃ is', (is.map V.cell).filterMap (gJ cs) = is'.map V.cell ∧ RB cs is' (rs.filter fun r => !r.isEmpty)
 | [], [], _ => ⟨[], rfl, trivial⟩
 | i :: is, r :: rs, ⟨h1, h2⟩ => by
  obtain ⟨is', e, h⟩ := RB.keep h2
  rw [List.map_cons, List.filterMap_cons, List.filter_cons]
  cases r with
  | nil => exact ⟨is', by simp [gJ, h1, rv, e], h⟩
  | cons p r => exact ⟨i :: is', by simp [gJ, h1, rv, e], ⟨h1, h⟩⟩
 | [], _ :: _, h' => h'.elim
 | _ :: _, [], h' => h'.elim
theorem rI {csE : List (List V)} {ids : List Nat} (hids : ∀ i ∈ ids, i < csE.length) {x0 x1 x2 x3 x4 x5 x6 x7 x8 x9 x10 x11 : Option V} {tl : List (Option V)} {K : List V → List (List V) → Prop} (q : ∀ cs', (∃ j, cs' = csE ++ j) → K ((ids.map V.cell).filterMap (gJ csE)) cs') :
  bC (ew fns 11 (X.loc 11) [(X.loc 11).cmp CmpOp.NotEq X.new0] (x0 :: x1 :: x2 :: x3 :: x4 :: x5 :: x6 :: x7 :: x8 :: x9 :: x10 :: x11 :: tl)) (ids.map V.cell) [] K csE := by
 refine fk (R := fun cs' => ∃ j, cs' = csE ++ j) (gJ csE) _ [] K csE ?_ ⟨[], by simp⟩ ?_
 ·rintro x hx K cs' ⟨j, rfl⟩ k
  obtain ⟨i, hi, rfl⟩ := List.mem_map.1 hx
  have hl := hids i hi
  have k' := k (csE ++ (j ++ [[]])) ⟨j ++ [[]], rfl⟩
  rw [← List.append_assoc] at k'
  have g1 : csE[i]? = some csE[i] := List.getElem?_eq_getElem hl
  generalize csE[i] = l at g1
  have g2 : (csE ++ j ++ [[]])[i]? = some l := by rw [List.append_assoc, List.getElem?_append_left hl]; exact g1
  repeat k_inBlock
  refine Bd g2 (am _ _) ?_
  have ek : gJ csE (.cell i) = if l.isEmpty then Option.none else some (.cell i) := by simp [gJ, g1]
  rw [ek] at k'
  cases hl2 : l.isEmpty with
  | true =>
   rw [hl2] at k'
   repeat k_inBlock
   exact k'
  | false =>
   rw [hl2] at k'
   repeat k_inBlock
   exact k'
 ·intro cs' r
  rw [List.nil_append]; exact q cs' r
end
section
variable {fns : Fns} {cs : List (List V)} {K : V → Prop} {KS : V → St → Prop} {st : St} {loc : List (Option V)}
noncomputable def d9 (i : Int) : Nat := (i % 100000000).toNat
theorem wy (i : Int) : d9 i < 100000000 := by
 unfold d9
 have h1 := Int.emod_nonneg i (show (100000000 : Int) ≠ 0 by decide)
 have h2 := Int.emod_lt_of_pos i (show (0 : Int) < 100000000 by decide)
 exact EU h1
theorem wz (script : List Int) : ∀ x ∈ numsOf script, x < 100000000 := by
 intro x hx
 unfold numsOf at hx
 rcases List.mem_append.1 hx with hx | hx
 ·obtain ⟨i, _, rfl⟩ := List.mem_map.1 hx
  exact wy i
 ·split at hx
  ·simp at hx; exact ET hx
  ·cases hx
theorem my (script : List Int) : (numsOf script).length ≤ 5 := by
 unfold numsOf
 have : (script.take 5).length ≤ 5 := by rw [List.length_take]; exact ES
 split
 ·rename_i h; simp only [List.length_append, List.length_map, List.length_cons, List.length_nil] at *; exact ER h this
 ·simp only [List.length_append, List.length_map, List.length_nil] at *; exact EQ this
theorem t8 {x0 x1 x2 x3 x4 x5 x6 x7 x8 x9 x10 x11 : Option V} {tl : List (Option V)} {l : List Int} {K : List V → List (List V) → Prop} (q : K (nv (l.map d9)) cs) :
  bC (ew fns 11 (X.bin Operator.Mod (X.loc 11) (X.cst (V.int (100000000)))) [] (x0 :: x1 :: x2 :: x3 :: x4 :: x5 :: x6 :: x7 :: x8 :: x9 :: x10 :: x11 :: tl)) (l.map V.int) [] K cs := by
 refine fk (R := (· = cs)) (fun v => match v with | .int i => some (.int (d9 i : Nat)) | _ => Option.none) _ [] K cs ?_ rfl ?_
 ·rintro x hx K cs' rfl k
  obtain ⟨i, hi, rfl⟩ := List.mem_map.1 hx
  have k' := k cs' rfl
  repeat k_inBlock
  refine uU ⟨by decide, ?_⟩
  have e : i.fmod 100000000 = ((d9 i : Nat) : Int) := by
   rw [Int.fmod_eq_emod_of_nonneg _ (by decide)]
   unfold d9
   have h1 := Int.emod_nonneg i (show (100000000 : Int) ≠ 0 by decide)
   exact EP h1
  rw [e]; exact k'
 ·rintro cs' rfl
  rw [List.nil_append, List.filterMap_map]
  have : l.filterMap ((fun v => match v with | .int i => some (.int (d9 i : Nat)) | _ => Option.none) ∘ V.int) = nv (l.map d9) := by
   clear q
   induction l with
   | nil => rfl
   | cons a r ih => rw [List.filterMap_cons]; simp [nv] at *; exact ih
  rw [this]; exact q
theorem io : ∀ l : List It, (aN l).length ≤ l.length + 1
 | [] => by simp [aN]
 | .star n :: r => by
  have := io r
  simp only [aN, List.length_cons]; exact EO this
 | .pair p :: r => by
  have := io r
  obtain ⟨g, m, e⟩ := hO r
  rw [e] at this
  simp only [aN, e, List.length_cons] at *; exact EN this
theorem wA (hh : mx fns) (hq : eW fns) (script : List Int) (hs : script.length ≤ 63) : WSs fns c31 (ba (fu (numsOf script))) ⟨[some (.lst (script.map V.int)), none, none, none, none, none, none, none, none, none, none, none, none, none, none, none, none, none, none], []⟩ := by
 unfold c31
 repeat k_inBlock
 repeat k_inBlock
 refine iH rfl rfl aA (aa (by decide)) ?_
 rw [show cut (script.map V.int) Option.none (some 5) = (script.take 5).map V.int by rw [show (5 : Int) = ((5 : Nat) : Int) from rfl, mj, List.map_take]]
 repeat k_inBlock
 refine bZ rfl ⟨by rw [List.length_map, List.length_take]; show _ ≤ 1000000; exact EM hs, ?_⟩
 refine t8 ?_
 repeat k_inBlock
 try dsimp only [List.set]
 have len5 : ((script.take 5).map d9).length ≤ 5 := by rw [List.length_map, List.length_take]; exact EL hs
 have go : WSs fns [S.assign 3 (X.cst (V.str [])), S.assign 4 X.new1, S.assign 5 X.new0, uM, S.ite ((X.call G.len [X.loc 4]).cmp CmpOp.Gt (X.cst (V.int (1)))) [S.assign 4 (X.bin Operator.Add (X.bin Operator.Add (X.lst [(X.loc 4).idx (X.cst (V.int (0)))]) (X.comp false 11 (X.loc 11) ((X.loc 4).slc (some (X.cst (V.int (1)))) (some (X.cst (V.int (1))).neg)) [(X.loc 11).cmp CmpOp.NotEq X.new0])) (X.lst [(X.loc 4).idx (X.cst (V.int (1))).neg]))] [], S.ret (X.tup [X.loc 3, X.loc 4, X.loc 5])] (ba (fu (numsOf script)))
   ⟨[some (.lst (script.map V.int)), none, some (.lst (nv (numsOf script))), none, none, none, none, none, none, none, none, none, none, none, none, none, none, none, none], []⟩ := by
  have hlen := my script
  have hlt := wz script
  generalize numsOf script = xs at *
  repeat k_inBlock
  try dsimp only [List.set]
  refine cQ ?_
  unfold qW
  repeat k_inBlock
  refine bZ rfl ⟨by rw [aV]; show _ ≤ 1000000; exact EK hlen, ?_⟩
  have hi : BI [[], [V.cell 0], []] [0] ([] ++ [[]]) [] := ⟨rfl, rfl, by decide, by decide, by decide, ⟨rfl, trivial⟩⟩
  refine pU hh hq xs _ _ _ _ _ _ [] [0] [] [] [] _ hlt hi (by simp; exact EJ hlen) (by simp; exact EI hlen) (by simp; exact EH hlen) (by simp; exact EG hlen) (fun cs' ids' x1 x6 x7 x8 x9 x10 h => ?_)
  rw [List.nil_append, hU] at h
  rw [List.nil_append] at h
  have hbv : fu xs = .tup [.str (ptT (br (aU xs))), .lst ((fG (aN (aU xs))).map fun r => aT (rv r)), .lst (nv (cb xs))] := rfl
  rw [hbv, List.nil_append]
  obtain ⟨r0, rest, hr⟩ := hO (aU xs)
  have hraw := io (aU xs)
  have hil5 : (aU xs).length ≤ 5 := by unfold aU; rw [List.length_map]; exact hlen
  rw [hr] at h hraw ⊢
  generalize ptT (br (aU xs)) = T
  generalize cb xs = row at *
  have hraw2 : (r0 :: rest).length ≤ 6 := EF hraw hil5
  clear hbv hr hlen hlt hi hraw hil5
  have frow : ∀ n, aq cs' (n + 2) (.cell 2) = some (.lst (nv row)) := fun n => by
   have e1 : (V.cell 2).fz = false := rfl
   unfold aq; rw [e1]
   simp only [Bool.false_eq_true, if_false, h.c2]
   rw [f9 (dj row)]; rfl
  repeat k_inBlock
  refine f7 h.c1 ?_
  repeat k_inBlock
  rw [List.length_map]
  have hil := h.rl.len
  cases rest with
  | nil =>
   refine ai (by rw [hil]; simp) ?_
   repeat k_inBlock
   refine ⟨_, 6, rfl, ?_⟩
   have e1 : aq cs' 5 (.cell 1) = some (.lst ((fG [r0]).map fun r => aT (rv r))) := by
    have e1 : (V.cell 1).fz = false := rfl
    unfold aq; rw [e1]
    simp only [Bool.false_eq_true, if_false, h.c1]
    rw [h.rl.freeze]; rfl
   have e2 : aq cs' 5 (.str T) = some (.str T) := rfl
   have e3 := frow 3
   have e4 : (V.tup [.str T, .cell 1, .cell 2]).fz = false := rfl
   unfold aq; rw [e4]
   simp only [Bool.false_eq_true, if_false]
   show Option.map V.tup ([V.str T, .cell 1, .cell 2].mapM (aq cs' 5)) = _
   rw [List.mapM_cons, e2, List.mapM_cons, e1, List.mapM_cons, e3]; rfl
  | cons g m =>
   obtain ⟨mids, rl, em⟩ : ∃ mids rl, g :: m = mids ++ [rl] := ⟨(g :: m).dropLast, (g :: m).getLast (by simp), (List.dropLast_concat_getLast _).symm⟩
   rw [em] at h hil hraw2 ⊢
   have hrl := h.rl
   obtain ⟨is0, i2, eids, hrl2, hl2⟩ := RB.unsnoc (rs := r0 :: mids) hrl
   cases is0 with
   | nil => exact hrl2.elim
   | cons i0 im =>
    obtain ⟨h0, hm⟩ := hrl2
    subst eids
    refine af (by simp; exact EE) ?_
    repeat k_inBlock
    have gid : (i0 :: im ++ [i2]).map V.cell = V.cell i0 :: (im.map V.cell ++ [V.cell i2]) := by simp
    have gid2 : (i0 :: im ++ [i2]).map V.cell = (V.cell i0 :: im.map V.cell) ++ [V.cell i2] := by simp
    have hc1 := h.c1
    have hc2 := h.c1
    rw [gid] at hc1
    rw [gid2] at hc2
    repeat k_inBlock
    refine i_c (n := 0) hc1 rfl ?_
    repeat k_inBlock
    repeat k_inBlock
    refine GC hc1 rfl rfl (aa (by decide)) (aa (by decide)) ?_
    rw [j8]
    have hsz : im.length < 1000 := by
     have : im.length = mids.length := hm.len
     simp at hraw2; exact ED this hraw2
    repeat k_inBlock
    refine bZ rfl ⟨by rw [List.length_map]; show _ ≤ 1000000; exact iA hsz, ?_⟩
    refine rI (fun i hi => hm.lt i hi) (fun cs2 hj => ?_)
    obtain ⟨is', ek, hk⟩ := hm.keep
    rw [ek]
    obtain ⟨j, rfl⟩ := hj
    have up : ∀ {i : Nat} {l : List V}, cs'[i]? = some l → (cs' ++ j)[i]? = some l := fun e => by rw [List.getElem?_append_left (List.getElem?_eq_some_iff.1 e).1]; exact e
    have hisl : is'.length ≤ 6 := by
     have a1 := hk.len
     have a2 := List.length_filter_le (fun r : List PR => !r.isEmpty) mids
     simp at hraw2; exact EC a1 a2 hraw2
    have hk' : RB (cs' ++ j) is' (mids.filter fun r => !r.isEmpty) := RB.mono (fun i hi => List.getElem?_append_left (hk.lt i hi)) hk
    repeat k_inBlock
    refine jp ⟨by rw [List.length_map]; show 1 + is'.length ≤ 1000000; exact xY hisl, ?_⟩
    repeat k_inBlock
    refine eH (l := V.cell i0 :: im.map V.cell) (v := .cell i2) (up hc2) ?_
    repeat k_inBlock
    refine jp ⟨by rw [List.length_append, List.length_map]; show 1 + is'.length + 1 ≤ 1000000; exact EB hisl, ?_⟩
    repeat k_inBlock
    have hb : RB (cs' ++ j) (i0 :: (is' ++ [i2])) (r0 :: (mids.filter (fun r => !r.isEmpty) ++ [rl])) := ⟨up h0, RB.snoc (up hl2) hk'⟩
    have ef : fG (r0 :: (mids ++ [rl])) = r0 :: (mids.filter (fun r => !r.isEmpty) ++ [rl]) := by
     show r0 :: bb (mids ++ [rl]) = _
     rw [gI]
    have el : [V.cell i0] ++ is'.map V.cell ++ [V.cell i2] = (i0 :: (is' ++ [i2])).map V.cell := by simp
    rw [ef, el]
    refine ⟨_, 6, rfl, ?_⟩
    have e1 : aq (cs' ++ j) 5 (.lst ((i0 :: (is' ++ [i2])).map V.cell)) = some (.lst ((r0 :: (mids.filter (fun r => !r.isEmpty) ++ [rl])).map fun r => aT (rv r))) := by
     have e1 : (V.lst ((i0 :: (is' ++ [i2])).map V.cell)).fz = false := rfl
     unfold aq; rw [e1]
     simp only [Bool.false_eq_true, if_false]
     rw [hb.freeze]; rfl
    have e2 : aq (cs' ++ j) 5 (.str T) = some (.str T) := rfl
    have e3 : aq (cs' ++ j) 5 (.cell 2) = some (.lst (nv row)) := by
     have e1 : (V.cell 2).fz = false := rfl
     unfold aq; rw [e1]
     simp only [Bool.false_eq_true, if_false, up h.c2]
     rw [f9 (dj row)]; rfl
    have e4 : (V.tup [.str T, .lst ((i0 :: (is' ++ [i2])).map V.cell), .cell 2]).fz = false := rfl
    unfold aq; rw [e4]
    simp only [Bool.false_eq_true, if_false]
    show Option.map V.tup ([V.str T, .lst ((i0 :: (is' ++ [i2])).map V.cell), .cell 2].mapM (aq (cs' ++ j) 5)) = _
    rw [List.mapM_cons, e2, List.mapM_cons, e1, List.mapM_cons, e3]; rfl
 rw [aV]
 have hn : numsOf script = ((script.take 5).map d9) ++ if ((script.take 5).map d9).length < 3 then [65, 13, 8] else [] := rfl
 by_cases h3 : ((script.take 5).map d9).length < 3
 ·rw [if_pos h3] at hn
  repeat k_inBlock
  refine af (by simp at h3 ⊢; exact EA h3) ?_
  repeat k_inBlock
  refine jp ⟨by rw [aV]; show _ + 3 ≤ 1000000; exact Ez h3 len5, ?_⟩
  have e : nv ((script.take 5).map d9) ++ [V.int 65, V.int 13, V.int 8] = nv (numsOf script) := by rw [hn]; simp [nv]
  rw [e]
  exact go
 ·rw [if_neg h3, List.append_nil] at hn
  repeat k_inBlock
  refine ai (by simp at h3 ⊢; exact Ey h3) ?_
  rw [← hn]
  exact go
end
noncomputable def ex (r : List PR) : List Tk := r.flatMap fun p => [.lit 61, hTk p.1, hTk p.2]
noncomputable def SS (r : List PR) : List Sg := sgs (ex r)
noncomputable def fx (r : List PR) : Prop := ∀ p ∈ r, p.1.wf ∧ p.2.wf
theorem SS_nil : SS [] = [] := rfl
theorem kd (p : PR) (r : List PR) : SS (p :: r) = (false, [(61, 61)]) :: (hTk p.1).sg :: (hTk p.2).sg :: SS r := rfl
theorem dI (r : List PR) : (SS r).length = 3 * r.length := by
 induction r with
 | nil => rfl
 | cons p r ih => rw [kd]; simp only [List.length_cons, ih]; exact Fh
theorem cT (r : List PR) : (rv r).length = r.length := by simp [rv]
theorem c7 (p : Nat → Bool) {d : Nat} (hd : d < 16) : ((List.range 16).filter p).contains d = p d := by
 cases h : p d with
 | true => exact List.contains_iff_mem.2 (List.mem_filter.2 ⟨List.mem_range.2 hd, h⟩)
 | false =>
  cases h2 : ((List.range 16).filter p).contains d with
  | false => rfl
  | true =>
   have := (List.mem_filter.1 (List.contains_iff_mem.1 h2)).2
   rw [h] at this; exact aH this
theorem le1 {x d : Nat} (h1 : x < 16) (h2 : d < 16) : (decide (hx x ≤ hx d) && decide (hx d ≤ hx x)) = decide (d = x) := by
 have a1 := ik h1 h2
 have a2 := ik h2 h1
 by_cases e : d = x
 ·subst e; simp
 ·rw [decide_eq_false e]
  simp only [Bool.and_eq_false_iff, decide_eq_false_iff_not, a1, a2]; exact Fg e
theorem mz {h : Hf} (w : h.wf) {d : Nat} (hd : d < 16) : ey (hTk h).sg (hx d) = h.vals.contains d := by
 cases h with
 | any =>
  show _ = (List.range 16).contains d
  rw [List.contains_iff_mem.2 (List.mem_range.2 hd)]; rfl
 | dig x =>
  show (((decide (hx x ≤ hx d) && decide (hx d ≤ hx x)) || false) != false) = _
  rw [le1 w hd]
  simp [Hf.vals]
 | two b x y =>
  have key : (([(hx x, hx x), (hx y, hx y)] : List (Nat × Nat)).any fun p => decide (p.1 ≤ hx d) && decide (hx d ≤ p.2)) = (Hf.inside x y false).contains d := by
   unfold Hf.inside
   rw [c7 _ hd]
   show ((decide (hx x ≤ hx d) && decide (hx d ≤ hx x)) || ((decide (hx y ≤ hx d) && decide (hx d ≤ hx y)) || false)) = _
   rw [le1 w.1 hd, le1 w.2 hd]; simp
  show ((([(hx x, hx x), (hx y, hx y)] : List (Nat × Nat)).any fun p => decide (p.1 ≤ hx d) && decide (hx d ≤ p.2)) != b) = _
  rw [key]
  cases b with
  | false => simp [Hf.vals]
  | true =>
   show _ = (Hf.outside x y false).contains d
   unfold Hf.outside
   rw [c7 _ hd]
   cases (Hf.inside x y false).contains d <;> rfl
 | rng b x y =>
  have hin : (Hf.inside x y true).contains d = decide (x ≤ d ∧ d ≤ y) := by
   unfold Hf.inside; rw [c7 _ hd]; rfl
  have hout : (Hf.outside x y true).contains d = !decide (x ≤ d ∧ d ≤ y) := by
   unfold Hf.outside; rw [c7 _ hd, hin]
  have hv : (Hf.rng b x y).vals.contains d = (decide (x ≤ d ∧ d ≤ y) != b) := by
   cases b with
   | false => show (Hf.inside x y true).contains d = _; rw [hin]; simp
   | true => show (Hf.outside x y true).contains d = _; rw [hout]; simp
  rw [hv]
  by_cases le : x ≤ y
  ·have e : hTk (.rng b x y) = .rng b (hx x) (hx y) := if_pos le
   rw [e]
   show (((decide (hx x ≤ hx d) && decide (hx d ≤ hx y)) || false) != b) = _
   have a1 := ik w.1 hd
   have a2 := ik hd w.2
   by_cases q : x ≤ d ∧ d ≤ y
   ·rw [decide_eq_true q, decide_eq_true (a1.2 q.1), decide_eq_true (a2.2 q.2)]; rfl
   ·rw [decide_eq_false q]
    have : (decide (hx x ≤ hx d) && decide (hx d ≤ hx y)) = false := by
     simp only [Bool.and_eq_false_iff, decide_eq_false_iff_not, a1, a2]; exact Ff q
    rw [this]; rfl
  ·have q : ¬ (x ≤ d ∧ d ≤ y) := Fe le
   rw [decide_eq_false q]
   cases b with
   | false => simp [hTk, le, Tk.sg, ey]
   | true => simp [hTk, le, Tk.sg, ey]
theorem mA (c : Nat) : ey (false, [(61, 61)]) c = decide (c = 61) := by
 show (((decide (61 ≤ c) && decide (c ≤ 61)) || false) != false) = _
 by_cases h : c = 61
 ·subst h; rfl
 ·rw [decide_eq_false h]
  have : (decide (61 ≤ c) && decide (c ≤ 61)) = false := by
   simp only [Bool.and_eq_false_iff, decide_eq_false_iff_not]; exact Fd h
  rw [this]; rfl
theorem nT {d : Nat} (h : d < 16) : hx d ≠ 61 := hG (fun c => c ≠ 61) (by decide) d h
theorem wB {r : List PR} (hr : fx r) : ∀ {row : List Nat}, (∀ o ∈ row, o < 256) → atL (SS r) (ac row) = dK (rv r) row := by
 induction r with
 | nil => intro row _; cases row <;> rfl
 | cons p r ih =>
  intro row ho
  cases row with
  | nil => rfl
  | cons o row =>
   have h1 := ho o (by simp)
   have hp := hr p (by simp)
   rw [kd, bM]
   simp only [atL]
   rw [mA, mz hp.1 (jG h1), mz hp.2 (Nat.mod_lt _ (by decide)), ih (fun q hq => hr q (by simp [hq])) fun o' h' => ho o' (by simp [h'])]
   show _ = (p.1.vals.contains (o / 16) && p.2.vals.contains (o % 16) && dK (rv r) row)
   simp [Bool.and_assoc]
theorem eA (row : List Nat) (k : Nat) : (ac row).drop (3 * k) = ac (row.drop k) := by
 induction k generalizing row with
 | zero => rfl
 | succ k ih =>
  cases row with
  | nil => simp [ac]
  | cons o row =>
   rw [bM, show 3 * (k + 1) = 3 * k + 1 + 1 + 1 by exact yh]
   rw [List.drop_succ_cons]
   exact ih row
theorem ix (row : List Nat) (k : Nat) : (ac row).take (3 * k) = ac (row.take k) := by
 induction k generalizing row with
 | zero => simp [ac]
 | succ k ih =>
  cases row with
  | nil => simp [ac]
  | cons o row =>
   rw [bM, show 3 * (k + 1) = 3 * k + 1 + 1 + 1 by exact yh]
   simp only [List.take_succ_cons]
   rw [bM, ih row]
theorem cV {r : List PR} (hr : fx r) {row : List Nat} (ho : ∀ o ∈ row, o < 256) (k : Nat) : aY (SS r) (ac row) (3 * k) = aw (rv r) row (k : Nat) := by
 unfold aY aw
 rw [dI, bH, eA, wB hr (fun o h => ho o (List.mem_of_mem_drop h)), cT, Int.toNat_natCast]
 congr 1
 by_cases h : k + r.length ≤ row.length
 ·rw [decide_eq_true (show 3 * k + 3 * r.length ≤ 3 * row.length by exact Fc h), decide_eq_true (Fb h)]
 ·rw [decide_eq_false (show ¬ (3 * k + 3 * r.length ≤ 3 * row.length) by exact E9 h), decide_eq_false (E8 h)]
theorem rJ {r : List PR} (hne : r ≠ []) {row : List Nat} (ho : ∀ o ∈ row, o < 256) {a : Nat} (ha : a % 3 ≠ 0) : aY (SS r) (ac row) a = false := by
 obtain ⟨p, r, rfl⟩ : ∃ p r', r = p :: r' := by cases r with | nil => exact absurd rfl hne | cons p r => exact ⟨p, r, rfl⟩
 have : atL (SS (p :: r)) ((ac row).drop a) = false := by
  rw [kd]
  have e : a = 3 * (a / 3) + a % 3 := E7
  rw [e, ← List.drop_drop, eA]
  cases hd : row.drop (a / 3) with
  | nil => simp [ac, atL]
  | cons o l =>
   have h1 : o < 256 := ho o (List.mem_of_mem_drop (by rw [hd]; simp))
   rw [bM]
   have h3 : a % 3 = 1 ∨ a % 3 = 2 := E6 ha
   rcases h3 with h3 | h3
   ·rw [h3]
    show (ey (false, [(61, 61)]) (hx (o / 16)) && _) = false
    rw [mA, decide_eq_false (nT (jG h1))]; rfl
   ·rw [h3]
    show (ey (false, [(61, 61)]) (hx (o % 16)) && _) = false
    rw [mA, decide_eq_false (nT (Nat.mod_lt _ (by decide)))]; rfl
 unfold aY
 rw [this, Bool.and_false]
theorem find_spec {run : List Sg} {name : List Nat} : ∀ (f here : Nat), name.length + 1 ≤ f + here →
  (∀ h, cI run name f here = some h → aY run name h = true ∧ here ≤ h ∧ ∀ k, here ≤ k → k < h → aY run name k = false) ∧
  (cI run name f here = Option.none → ∀ k, here ≤ k → aY run name k = false)
 | 0, here, hf => by
  refine ⟨fun h e => (by exact ab e), fun _ k hk => ?_⟩
  unfold aY
  rw [decide_eq_false (E5 hf hk)]; rfl
 | f + 1, here, hf => by
  unfold cI
  by_cases hle : here + run.length ≤ name.length
  ·rw [if_pos hle]
   cases hl : aY run name here with
   | true =>
    refine ⟨fun h e => ?_, fun e => by cases e⟩
    (injection e with e; subst e)
    exact ⟨hl, Nat.le_refl _, fun k h1 h2 => absurd h2 (E4 h2 h1)⟩
   | false =>
    obtain ⟨i1, i2⟩ := find_spec (run := run) (name := name) f (here + 1) (xk hf)
    refine ⟨fun h e => ?_, fun e k hk => ?_⟩
    ·obtain ⟨a, b, c⟩ := i1 h e
     refine ⟨a, E3 b, fun k h1 h2 => ?_⟩
     by_cases q : k = here
     ·rw [q]; exact hl
     ·exact c k (yg h1 q) h2
    ·by_cases q : k = here
     ·rw [q]; exact hl
     ·exact i2 e k (yg hk q)
  ·rw [if_neg hle]
   refine ⟨fun h e => (by exact ab e), fun _ k hk => ?_⟩
   unfold aY
   rw [decide_eq_false (E2 hk hle)]; rfl
theorem wD {r : Run} {row : List Nat} {k : Nat} (hne : r ≠ []) (h : aw r row (k : Nat) = true) : k + r.length ≤ row.length ∧ k < row.length := by
 have h1 : 0 < r.length := List.length_pos_iff.2 hne
 unfold aw at h
 rw [Bool.and_eq_true] at h
 have := of_decide_eq_true h.1
 exact E0 this h1
theorem mB {r : Run} {row : List Nat} (hne : r ≠ []) (a : Nat) :
  (∀ h, dH r row a = some h → aw r row (h : Nat) = true ∧ a ≤ h ∧ ∀ k : Nat, a ≤ k → k < h → aw r row (k : Nat) = false) ∧
  (dH r row a = Option.none → ∀ k : Nat, a ≤ k → aw r row (k : Nat) = false) := by
 unfold dH
 have hmem : ∀ k : Nat, a ≤ k → aw r row (k : Nat) = true → k ∈ (List.range' a (row.length - a)).filter fun k => aw r row (k : Nat) := by
  intro k h1 h2
  have h3 := wD hne h2
  exact List.mem_filter.2 ⟨List.mem_range'_1.2 (EZ h3 h1), h2⟩
 have hsort : ((List.range' a (row.length - a)).filter fun k => aw r row (k : Nat)).Pairwise (· < ·) := (List.pairwise_lt_range' (s := a) (n := row.length - a)).sublist List.filter_sublist
 cases hl : (List.range' a (row.length - a)).filter fun k => aw r row (k : Nat) with
 | nil =>
  rw [hl] at hmem
  refine ⟨fun h e => (by exact ab e), fun _ k hk => ?_⟩
  cases hf : aw r row (k : Nat) with
  | false => rfl
  | true => exact absurd (hmem k hk hf) (by simp)
 | cons b t =>
  rw [hl] at hmem hsort
  refine ⟨fun h e => ?_, fun e => by cases e⟩
  (injection e with e; subst e)
  have hb : b ∈ (List.range' a (row.length - a)).filter fun k => aw r row (k : Nat) := by rw [hl]; simp
  obtain ⟨h1, h2⟩ := List.mem_filter.1 hb
  refine ⟨h2, (List.mem_range'_1.1 h1).1, fun k h3 h4 => ?_⟩
  cases hf : aw r row (k : Nat) with
  | false => rfl
  | true =>
   rcases List.mem_cons.1 (hmem k h3 hf) with q | q
   ·exact (xp h4 q).elim
   ·have := (List.pairwise_cons.1 hsort).1 k q
    exact (EY h4 this).elim
theorem t9 {r : List PR} (hr : fx r) (hne : r ≠ []) {row : List Nat} (ho : ∀ o ∈ row, o < 256) (a : Nat) : cI (SS r) (ac row) ((ac row).length + 1) (3 * a) = (dH (rv r) row a).map (3 * ·) := by
 have hne' : rv r ≠ [] := by cases r with | nil => exact absurd rfl hne | cons => simp [rv]
 obtain ⟨f1, f2⟩ := find_spec (run := SS r) (name := ac row) ((ac row).length + 1) (3 * a) (EX)
 obtain ⟨m1, m2⟩ := mB (r := rv r) (row := row) hne' a
 cases hf : cI (SS r) (ac row) ((ac row).length + 1) (3 * a) with
 | none =>
  cases hm : dH (rv r) row a with
  | none => rfl
  | some h =>
   obtain ⟨g1, g2, _⟩ := m1 h hm
   have := f2 hf (3 * h) (yf g2)
   rw [cV hr ho, g1] at this; exact gh this
 | some h =>
  obtain ⟨g1, g2, g3⟩ := f1 h hf
  have h3 : h % 3 = 0 := by
   by_cases q : h % 3 = 0
   ·exact q
   ·rw [rJ hne ho q] at g1; exact aH g1
  obtain ⟨k, rfl⟩ : ∃ k, h = 3 * k := ⟨h / 3, EW h3⟩
  rw [cV hr ho] at g1
  cases hm : dH (rv r) row a with
  | none => rw [m2 hm k (ye h3 g2)] at g1; exact aH g1
  | some b =>
   obtain ⟨b1, b2, b3⟩ := m1 b hm
   have e : b = k := by
    rcases Nat.lt_trichotomy b k with q | q | q
    ·have := g3 (3 * b) (yf b2) (EV h3 q)
     rw [cV hr ho, b1] at this; exact gh this
    ·exact q
    ·rw [b3 k (ye h3 g2) q] at g1; exact aH g1
   rw [e]; rfl
theorem iy {row : List Nat} (ho : ∀ o ∈ row, o < 256) : ∀ (mids : List (List PR)) (a : Nat), (∀ r ∈ mids, fx r ∧ r ≠ []) →
  bz (ac row) (mids.map SS) (3 * a) = (be row (mids.map rv) a).map fun p => (p.1.map ac, 3 * p.2)
 | [], a, _ => rfl
 | r :: mids, a, h => by
  obtain ⟨h1, h2⟩ := h r (by simp)
  rw [List.map_cons, List.map_cons, bz, be, t9 h1 h2 ho]
  cases hm : dH (rv r) row a with
  | none => rfl
  | some b =>
   show (match bz (ac row) (mids.map SS) (3 * b + (SS r).length) with | Option.none => Option.none | some (l, e) => some (((ac row).take (3 * b)).drop (3 * a) :: l, e)) = _
   have e1 : 3 * b + (SS r).length = 3 * (b + (rv r).length) := by rw [dI, cT]; exact FE
   rw [e1, iy ho mids (b + (rv r).length) fun r' h' => h r' (by simp [h'])]
   cases ht : be row (mids.map rv) (b + (rv r).length) with
   | none => simp only [ht]; rfl
   | some p =>
    obtain ⟨l, e⟩ := p
    simp only [ht]
    show some (((ac row).take (3 * b)).drop (3 * a) :: l.map ac, 3 * e) = some (ac ((row.take b).drop a) :: l.map ac, 3 * e)
    rw [ix, eA]
noncomputable def Al (row : List Nat) : List Run → Nat → Int → Prop
 | [], a, b => (a : Int) ≤ b
 | r :: rs, a, b => ∃ k : Nat, a ≤ k ∧ aw r row (k : Nat) = true ∧ Al row rs (k + r.length) b
theorem Al.monoA {row : List Nat} : ∀ {rs : List Run} {a a' : Nat} {b : Int}, a ≤ a' → Al row rs a' b → Al row rs a b
 | [], a, a', b, h, q => by have q : (a' : Int) ≤ b := q; show (a : Int) ≤ b; exact FD q h
 | r :: rs, a, a', b, h, ⟨k, h1, h2, h3⟩ => ⟨k, FC h h1, h2, h3⟩
theorem Al.monoB {row : List Nat} : ∀ {rs : List Run} {a : Nat} {b b' : Int}, b ≤ b' → Al row rs a b → Al row rs a b'
 | [], a, b, b', h, q => by have q : (a : Int) ≤ b := q; show (a : Int) ≤ b'; exact FB q h
 | r :: rs, a, b, b', h, ⟨k, h1, h2, h3⟩ => ⟨k, h1, h2, h3.monoB h⟩
theorem Al.le {row : List Nat} : ∀ {rs : List Run} {a : Nat} {b : Int}, Al row rs a b → (a : Int) ≤ b
 | [], a, b, q => q
 | r :: rs, a, b, ⟨k, h1, h2, h3⟩ => by have := h3.le; exact FA this h1
theorem Al.told {row : List Nat} : ∀ {rs : List Run} {a : Nat} {b : Int}, (∀ r ∈ rs, r ≠ []) → ((∃ l e, be row rs a = some (l, e) ∧ (e : Int) ≤ b) ↔ Al row rs a b)
 | [], a, b, _ => ⟨fun ⟨l, e, h1, h2⟩ => by cases h1; exact h2, fun h => ⟨[], a, rfl, h⟩⟩
 | r :: rs, a, b, hne => by
  obtain ⟨m1, m2⟩ := mB (row := row) (hne r (by simp)) a
  constructor
  ·rintro ⟨l, e, h1, h2⟩
   rw [be] at h1
   split at h1
   ·exact ab h1
   rename_i h hm
   split at h1
   ·exact ab h1
   rename_i l' e' ht
   cases h1
   obtain ⟨g1, g2, _⟩ := m1 h hm
   exact ⟨h, g2, g1, (Al.told fun r' h' => hne r' (by simp [h'])).1 ⟨l', e, ht, h2⟩⟩
  ·rintro ⟨k, h1, h2, h3⟩
   cases hm : dH r row a with
   | none => rw [m2 hm k h1] at h2; exact aH h2
   | some h =>
    obtain ⟨g1, g2, g3⟩ := m1 h hm
    have hk : h ≤ k := by
     by_cases q : h ≤ k
     ·exact q
     ·rw [g3 k h1 (k9 q)] at h2; exact aH h2
    obtain ⟨l, e, ht, he⟩ := (Al.told (rs := rs) (b := b) fun r' h' => hne r' (by simp [h'])).2 (Al.monoA (show h + r.length ≤ k + r.length by exact Fz hk) h3)
    exact ⟨(row.take h).drop a :: l, e, by rw [be, hm]; simp only [ht], he⟩
theorem Al.snoc {row : List Nat} {m : Run} : ∀ {rs : List Run} {a : Nat} {b : Int}, Al row (rs ++ [m]) a b ↔ ∃ k : Nat, aw m row (k : Nat) = true ∧ (k : Int) + m.length ≤ b ∧ Al row rs a (k : Nat)
 | [], a, b => by
  constructor
  ·rintro ⟨k, h1, h2, h3⟩
   have h3 : ((k + m.length : Nat) : Int) ≤ b := h3
   exact ⟨k, h2, Fy h3, by show (a : Int) ≤ (k : Int); exact Fx h1⟩
  ·rintro ⟨k, h1, h2, h3⟩
   have h3 : (a : Int) ≤ (k : Int) := h3
   exact ⟨k, Fw h3, h1, by show ((k + m.length : Nat) : Int) ≤ b; exact Fv h2⟩
 | r :: rs, a, b => by
  constructor
  ·rintro ⟨j, h1, h2, h3⟩
   obtain ⟨k, g1, g2, g3⟩ := Al.snoc.1 h3
   exact ⟨k, g1, g2, j, h1, h2, g3⟩
  ·rintro ⟨k, g1, g2, j, h1, h2, g3⟩
   exact ⟨j, h1, h2, Al.snoc.2 ⟨k, g1, g2, g3⟩⟩
theorem ua {m : Run} {row : List Nat} {late : Int} : (dG m row late = -1 ∨ ∃ k : Nat, dG m row late = k ∧ aw m row (k : Nat) = true ∧ (k : Int) + m.length ≤ late) ∧
  ∀ k : Nat, aw m row (k : Nat) = true → (k : Int) + m.length ≤ late → (k : Int) ≤ dG m row late := by
 unfold dG
 refine ⟨?_, fun k h1 h2 => ?_⟩
 ·rcases fO (cR ((List.range (late - m.length + 1).toNat).filter fun k => aw m row (k : Nat))) (-1) with h | h
  ·exact .inl h
  ·obtain ⟨k, hk, e⟩ := List.mem_map.1 h
   obtain ⟨g1, g2⟩ := List.mem_filter.1 hk
   have := List.mem_range.1 g1
   exact .inr ⟨k, e.symm, g2, Fu e this⟩
 ·refine (gG _ _).2 _ (List.mem_map.2 ⟨k, List.mem_filter.2 ⟨List.mem_range.2 (Ft h2), h1⟩, rfl⟩)
theorem Al.snocMax {row : List Nat} {m : Run} {rs : List Run} {a : Nat} {b : Int} : Al row (rs ++ [m]) a b ↔ Al row rs a (dG m row b) := by
 obtain ⟨s1, s2⟩ := ua (m := m) (row := row) (late := b)
 rw [Al.snoc]
 constructor
 ·rintro ⟨k, h1, h2, h3⟩
  exact h3.monoB (s2 k h1 h2)
 ·intro h
  rcases s1 with e | ⟨k, e, h1, h2⟩
  ·rw [e] at h; have := h.le; exact (Fr this).elim
  ·rw [e] at h; exact ⟨k, h1, h2, h⟩
theorem Al.late {row : List Nat} (n : Nat) : ∀ {rs : List Run} {a : Nat} {b : Int}, rs.length = n → (Al row rs a b ↔ (a : Int) ≤ ez row rs.reverse b) := by
 induction n with
 | zero => intro rs a b h; cases rs with | nil => exact Iff.rfl | cons => cases h
 | succ n ih =>
  intro rs a b h
  have hne : rs ≠ [] := by intro e; rw [e] at h; cases h
  obtain ⟨ini, l, e⟩ : ∃ ini l, rs = ini ++ [l] := ⟨rs.dropLast, rs.getLast hne, (List.dropLast_concat_getLast _).symm⟩
  subst e
  rw [Al.snocMax, ih (by simpa using h), List.reverse_append]; rfl
theorem mD {row : List Nat} (ho : ∀ o ∈ row, o < 256) {r0 rl : List PR} {mids : List (List PR)} (h0 : fx r0) (hl : fx rl) (hm : ∀ r ∈ mids, fx r ∧ r ≠ []) :
  bR (SS r0) (mids.map SS) (SS rl) (ac row) = (cO (rv r0) (mids.map rv) (rv rl) row).map (·.map ac) ∧
  (((rv r0).length : Int) ≤ ez row (mids.map rv).reverse ((row.length : Int) - (rv rl).length) → aw (rv rl) row ((row.length : Int) - (rv rl).length) = true → ∃ l e, be row (mids.map rv) (rv r0).length = some (l, e) ∧ e ≤ row.length) := by
 have hne : ∀ r ∈ mids.map rv, r ≠ [] := by
  intro r hr
  obtain ⟨r', h', rfl⟩ := List.mem_map.1 hr
  have := (hm r' h').2
  cases r' with | nil => exact absurd rfl this | cons => simp [rv]
 have hE : ∀ b : Int, (∃ l e, be row (mids.map rv) (rv r0).length = some (l, e) ∧ (e : Int) ≤ b) ↔ ((rv r0).length : Int) ≤ ez row (mids.map rv).reverse b := fun b =>
  (Al.told hne).trans (Al.late _ rfl)
 refine ⟨?_, fun h1 h2 => ?_⟩
 ·unfold bR cO
  have e0 : aY (SS r0) (ac row) 0 = aw (rv r0) row 0 := cV h0 ho 0
  rw [e0]
  have es : bz (ac row) (mids.map SS) (SS r0).length = (be row (mids.map rv) (rv r0).length).map fun p => (p.1.map ac, 3 * p.2) := by
   rw [dI, cT]; exact iy ho mids r0.length hm
  rw [es]
  cases hf0 : aw (rv r0) row 0 with
  | false => rfl
  | true =>
   rw [if_pos rfl]
   by_cases hlen : rl.length ≤ row.length
   ·have eL : (row.length : Int) - ((rv rl).length : Int) = ((row.length - rl.length : Nat) : Int) := by rw [cT]; exact Fq hlen
    have eN : (ac row).length - (SS rl).length = 3 * (row.length - rl.length) := by rw [bH, dI]; exact Fp eL hlen
    have el : aY (SS rl) (ac row) ((ac row).length - (SS rl).length) = aw (rv rl) row ((row.length : Int) - (rv rl).length) := by
     rw [eL, eN]; exact cV hl ho _
    have hE' := hE ((row.length : Int) - (rv rl).length)
    rw [el, eN]
    cases ht : be row (mids.map rv) (rv r0).length with
    | none =>
     rw [ht] at hE'
     have : ¬ (((rv r0).length : Int) ≤ ez row (mids.map rv).reverse ((row.length : Int) - (rv rl).length)) := fun q => by
      obtain ⟨l, e, q1, _⟩ := hE'.2 q; exact ab q1
     rw [if_neg (fun q => this q.2.2)]; rfl
    | some p =>
     obtain ⟨l, e⟩ := p
     rw [ht] at hE'
     show (if 3 * e + (SS rl).length ≤ (ac row).length ∧ aw (rv rl) row ((row.length : Int) - (rv rl).length) = true then some (l.map ac ++ [((ac row).take (3 * (row.length - rl.length))).drop (3 * e)]) else Option.none) = _
     have iff1 : (3 * e + (SS rl).length ≤ (ac row).length) ↔ (((rv r0).length : Int) ≤ ez row (mids.map rv).reverse ((row.length : Int) - (rv rl).length)) := by
      rw [← hE', dI, bH, cT]
      constructor
      ·intro q; exact ⟨l, e, rfl, Fo eL q⟩
      ·rintro ⟨l', e', q1, q2⟩; cases q1; exact Fn eL q2
     by_cases c : (3 * e + (SS rl).length ≤ (ac row).length) ∧ aw (rv rl) row ((row.length : Int) - (rv rl).length) = true
     ·rw [if_pos c, if_pos ⟨rfl, c.2, iff1.1 c.1⟩]
      rw [ix, eA, cT]
      show _ = some ((l ++ [(row.take (row.length - rl.length)).drop e]).map ac)
      rw [List.map_append]; rfl
     ·rw [if_neg c, if_neg (fun q => c ⟨iff1.2 q.2.2, q.2.1⟩)]; rfl
   ·have hfl : aw (rv rl) row ((row.length : Int) - (rv rl).length) = false := by
     unfold aw; rw [cT, decide_eq_false (Fm hlen)]; rfl
    rw [if_neg (fun q => by rw [hfl] at q; exact absurd q.2.1 (by decide))]
    cases be row (mids.map rv) (rv r0).length with
    | none => rfl
    | some p =>
     show (if 3 * p.2 + (SS rl).length ≤ (ac row).length ∧ _ then _ else Option.none) = Option.none
     rw [if_neg (fun q => by have := q.1; rw [dI, bH] at this; exact Fk this hlen)]
 ·obtain ⟨l, e, q1, q2⟩ := (hE _).2 h1
  exact ⟨l, e, q1, Fj q2⟩
theorem ub {row : List Nat} (ho : ∀ o ∈ row, o < 256) {r : List PR} (h : fx r) : cU (SS r) (ac row) = (dL (rv r) row).map (·.map ac) := by
 unfold cU dL
 have e0 : aY (SS r) (ac row) 0 = aw (rv r) row 0 := cV h ho 0
 rw [e0, dI, bH, cT]
 by_cases c : aw (rv r) row 0 = true ∧ r.length = row.length
 ·rw [if_pos c, if_pos ⟨c.1, by omega⟩]; rfl
 ·rw [if_neg c, if_neg (fun q => c ⟨q.1, by omega⟩)]; rfl
theorem fR : ∀ its : List It, (∀ i ∈ its, ∀ n, i = .star n → 1 ≤ n) → ∃ g m, aN its = g :: m ∧ ao (br its) = (ex g, (bb m).map ex) ∧ (bb m = [] ↔ m = [])
 | [], _ => ⟨[], [], rfl, rfl, by simp [bb]⟩
 | .pair p :: its, h => by
  obtain ⟨g, m, e1, e2, e3⟩ := fR its fun i hi => h i (by simp [hi])
  refine ⟨p :: g, m, by simp only [aN, e1], ?_, e3⟩
  show ((Tk.lit 61 :: hTk p.1 :: hTk p.2 :: (ao (br its)).1, (ao (br its)).2) : List Tk × List (List Tk)) = _
  rw [e2]; rfl
 | .star n :: its, h => by
  obtain ⟨g, m, e1, e2, e3⟩ := fR its fun i hi => h i (by simp [hi])
  have hn := h (.star n) (by simp) n rfl
  have hg : ex g = [] ↔ g = [] := by cases g <;> simp [ex]
  have one : ao (.star :: br its) = ([], (bb (g :: m)).map ex) := by
   rw [ds, e2]
   cases m with
   | nil => simp only [bb, List.map_nil, ft]; cases hx' : ex g <;> simp [hx']
   | cons g' m' =>
    have hnn : bb (g' :: m') ≠ [] := fun q => by have := e3.1 q; cases this
    obtain ⟨t, ts, et⟩ : ∃ t ts, bb (g' :: m') = t :: ts := by
     cases hq : bb (g' :: m') with
     | nil => exact absurd hq hnn
     | cons t ts => exact ⟨t, ts, rfl⟩
    cases g with
    | nil => show ft (ex [], (bb (g' :: m')).map ex) = ([], (bb (g' :: m')).map ex); rw [et]; rfl
    | cons p g => rfl
  have hns : bb (g :: m) ≠ [] := by
   cases m with
   | nil => simp [bb]
   | cons g' m' =>
    cases g with
    | nil => intro q; have := e3.1 (show bb (g' :: m') = [] from q); cases this
    | cons p g => simp [bb]
  have more : ∀ k, ao (List.replicate (k + 1) .star ++ br its) = ([], (bb (g :: m)).map ex) := by
   intro k
   induction k with
   | zero => exact one
   | succ k ih =>
    rw [List.replicate_succ, List.cons_append, ds, ih]
    cases hq : bb (g :: m) with
    | nil => exact absurd hq hns
    | cons t ts => rfl
  obtain ⟨k, rfl⟩ : ∃ k, n = k + 1 := ⟨n - 1, Fi hn⟩
  refine ⟨[], g :: m, by simp only [aN, e1], ?_, ?_⟩
  ·show ao (List.replicate (k + 1) .star ++ br its) = _
   rw [more k]; rfl
  ·exact ⟨fun q => absurd q hns, fun q => by cases q⟩
section
variable {fns : Fns} {cs : List (List V)} {K : V → Prop} {KS : V → St → Prop} {st : St} {loc : List (Option V)}
theorem nU {l : List Txt} {K : V → List (List V) → Prop} (h : l.flatten.length ≤ lim ∧ K (.str l.flatten) cs) : bL cs .join (.str []) [.lst (stL l)] K := by
 rw [← hH] at h
 exact bh (o := (aE cs (.lst (stL l))).bind txts) (fr l) h
theorem na : ∀ l : List Txt, gO (stL l) (stL l) = some true
 | [] => rfl
 | a :: r => by
  unfold gO
  rw [if_neg (by simp), if_neg (by simp [stL])]
  simp only [fr, decide_true]
theorem uc {KI : Bool → Prop} {l : List Txt} (h : KI false) : ae (aR cs .NotEq (.lst (stL l)) (.lst (stL l))) KI := by
 show ae ((eqL cs (.lst (stL l)) (.lst (stL l))).map not) KI
 rw [show eqL cs (.lst (stL l)) (.lst (stL l)) = some true from na l]; exact h
structure jC (fns : Fns) (D R : List V) (one : List Nat) (t : Option (List (List Nat))) : Prop where
 small : one.length < 100 ∧ ∀ o ∈ one, o < 256
 shares : fns 11 [.lst D, .str (ac one)] (fq (t.map fun l => stL (l.map ac)))
 told : fns 13 [.lst R, .lst (nv one)] (fq (t.map nvL))
 parts : ∀ l, t = some l → l.length < 1000 ∧ ∀ p ∈ l, p.length < 1000 ∧ (∀ o ∈ p, o < 256) ∧ fns 6 [.str (ac p)] (.str p)
theorem nV (l : List Nat) : (l.map q3).flatten = ac l := by unfold ac; rfl
theorem pW {x0 x1 x2 x3 x4 x5 x6 x7 x8 : Option V} {tl : List (Option V)} (hq : eW fns) {l : List Nat} (hl : ∀ o ∈ l, o < 256) {K : List V → List (List V) → Prop} (q : K (stL (l.map q3)) cs) :
  bC (ew fns 8 (X.call (G.fn 5) [X.call G.chr [X.loc 8]]) [] (x0 :: x1 :: x2 :: x3 :: x4 :: x5 :: x6 :: x7 :: x8 :: tl)) (nv l) [] K cs := by
 refine fF (R := (· = cs)) (fun n => some (.str (q3 n))) l K cs ?_ rfl ?_
 ·rintro n hn K cs' rfl k
  have hn' := hl n hn
  repeat k_inBlock
  refine kY ⟨yj hn', yi hn', ?_⟩
  rw [Int.toNat_natCast]
  repeat k_inBlock
  refine dz ⟨rfl, _, hq n hn', ?_⟩
  exact k cs' rfl
 ·rintro cs' rfl
  have : l.filterMap (fun n => some (V.str (q3 n))) = stL (l.map q3) := by
   clear q hl
   induction l with
   | nil => rfl
   | cons a r ih => rw [List.filterMap_cons]; simp [stL] at *
  rw [this]; exact q
theorem gK {α : Type} {turn : V → (Option V → List (List V) → Prop) → List (List V) → Prop} (f g : α → V) : ∀ (l : List α) (acc : List V) (K : List V → List (List V) → Prop), (∀ a ∈ l, ∀ K : Option V → List (List V) → Prop, K (some (g a)) cs → turn (f a) K cs) → K (acc ++ l.map g) cs → bC turn (l.map f) acc K cs
 | [], acc, K, _, q => by simpa [bC] using q
 | a :: l, acc, K, h, q => by
  rw [List.map_cons]
  unfold bC
  refine h a (by simp) _ ?_
  exact gK f g l _ K (fun b hb => h b (by simp [hb])) (by simpa using q)
theorem nb {x0 x1 x2 x3 x4 x5 x6 x7 x8 : Option V} {tl : List (Option V)} {l : List (List Nat)} (hd : ∀ p ∈ l, fns 6 [.str (ac p)] (.str p)) {K : List V → List (List V) → Prop} (q : K (stL l) cs) :
  bC (ew fns 8 (X.call (G.fn 6) [X.loc 8]) [] (x0 :: x1 :: x2 :: x3 :: x4 :: x5 :: x6 :: x7 :: x8 :: tl)) (stL (l.map ac)) [] K cs := by
 have e : stL (l.map ac) = l.map fun p => V.str (ac p) := by simp [stL]
 rw [e]
 refine gK (fun p => V.str (ac p)) V.str l [] K (fun p hp K k => ?_) q
 repeat k_inBlock
 exact dz ⟨rfl, _, hd p hp, k⟩
theorem ud {x0 x1 x2 x3 x4 x5 x6 x7 x8 x9 : Option V} {tl : List (Option V)} {l : List Nat} (hl : ∀ o ∈ l, o < 256) {K : List V → List (List V) → Prop} (q : K (stL (l.map fun o => [o])) cs) :
  bC (ew fns 9 (X.call G.chr [X.loc 9]) [] (x0 :: x1 :: x2 :: x3 :: x4 :: x5 :: x6 :: x7 :: x8 :: x9 :: tl)) (nv l) [] K cs := by
 refine fF (R := (· = cs)) (fun n => some (.str [n])) l K cs ?_ rfl ?_
 ·rintro n hn K cs' rfl k
  have hn' := hl n hn
  repeat k_inBlock
  refine kY ⟨yj hn', yi hn', ?_⟩
  rw [Int.toNat_natCast]
  exact k cs' rfl
 ·rintro cs' rfl
  have : l.filterMap (fun n => some (V.str [n])) = stL (l.map fun o => [o]) := by
   clear q hl
   induction l with
   | nil => rfl
   | cons a r ih => rw [List.filterMap_cons]; simp [stL] at *
  rw [this]; exact q
theorem uZ (l : List Nat) : (l.map fun o => [o]).flatten = l := by
 induction l with
 | nil => rfl
 | cons a r ih => rw [List.map_cons, List.flatten_cons, ih]; rfl
theorem pX {x0 x1 x2 x3 x4 x5 x6 x7 x8 x9 : Option V} {tl : List (Option V)} {l : List (List Nat)} (hl : ∀ p ∈ l, p.length < 1000 ∧ ∀ o ∈ p, o < 256) {K : List V → List (List V) → Prop} (q : K (stL l) cs) :
  bC (ew fns 8 (X.meth Mt.join (X.cst (V.str [])) [X.comp false 9 (X.call G.chr [X.loc 9]) (X.loc 8) []]) [] (x0 :: x1 :: x2 :: x3 :: x4 :: x5 :: x6 :: x7 :: x8 :: x9 :: tl)) (nvL l) [] K cs := by
 refine gK (fun p => V.lst (nv p)) V.str l [] K (fun p hp K k => ?_) q
 obtain ⟨h1, h2⟩ := hl p hp
 repeat k_inBlock
 repeat k_inBlock
 refine bZ rfl ⟨by rw [aV]; show _ ≤ 1000000; exact iA h1, ?_⟩
 refine ud (x9 := Option.none) h2 ?_
 repeat k_inBlock
 refine nU ⟨by rw [uZ]; show _ ≤ 1000000; exact iA h1, ?_⟩
 rw [uZ]
 exact k
theorem ke {α : Type} (f : α → List V) (t : Option α) : isV (fq (t.map f)) .none = some t.isNone := by
 cases t <;> rfl
theorem iM {Q : Fl → St → Prop} (hq : eW fns) {D R : List V} (hD : V.fz.fzs D = true) (hR : V.fz.fzs R = true) {one : List Nat} {t : Option (List (List Nat))} (h : jC fns D R one t) {x0 x1 x3 x5 x6 x7 x8 x9 : Option V} {tl : List (Option V)} {xs : List V}
  (q : ∀ x6 x7, cf (dO fns 5 ji) Q xs ⟨x0 :: x1 :: some (.lst R) :: x3 :: some (.lst D) :: some (.lst (nv one)) :: x6 :: x7 :: x8 :: x9 :: tl, cs⟩) :
  cf (dO fns 5 ji) Q (.lst (nv one) :: xs) ⟨x0 :: x1 :: some (.lst R) :: x3 :: some (.lst D) :: x5 :: x6 :: x7 :: x8 :: x9 :: tl, cs⟩ := by
 obtain ⟨s1, s2⟩ := h.small
 refine bV ?_
 conv => enter [2]; unfold ji
 repeat k_inBlock
 repeat k_inBlock
 refine bZ rfl ⟨by rw [aV]; show _ ≤ 1000000; exact FG s1, ?_⟩
 refine pW (x8 := Option.none) hq s2 ?_
 repeat k_inBlock
 refine nU ⟨by rw [nV, bH]; show _ ≤ 1000000; exact FF s1, ?_⟩
 rw [nV]
 repeat k_inBlock
 refine dz ⟨?_, _, h.shares, ?_⟩
 ·exact bD hD rfl
 repeat k_inBlock
 try dsimp only [List.set]
 refine dz ⟨?_, _, h.told, ?_⟩
 ·exact bD hR (bD (dj _) rfl)
 repeat k_inBlock
 try dsimp only [List.set]
 refine q8 (ke _ t) ?_
 repeat k_inBlock
 refine q8 (ke _ t) ?_
 repeat k_inBlock
 refine ai (by simp) ?_
 repeat k_inBlock
 refine we (ke _ t) ?_
 cases t with
 | none =>
  repeat k_inBlock
  exact q _ _
 | some l =>
  obtain ⟨p1, p2⟩ := h.parts l rfl
  repeat k_inBlock
  repeat k_inBlock
  repeat k_inBlock
  refine bZ (l := stL (l.map ac)) rfl ⟨by rw [cJ, List.length_map]; show _ ≤ 1000000; exact iA p1, ?_⟩
  refine nb (x8 := Option.none) (fun p hp => (p2 p hp).2.2) ?_
  repeat k_inBlock
  refine bZ (l := nvL l) rfl ⟨by simp [nvL]; show l.length ≤ 1000000; exact iA p1, ?_⟩
  refine pX (x8 := Option.none) (fun p hp => ⟨(p2 p hp).1, (p2 p hp).2.1⟩) ?_
  repeat k_inBlock
  refine uc ?_
  repeat k_inBlock
  exact q _ _
theorem Bl (hq : eW fns) {script : List V} {P X : Txt} {d : V} {D R : List V} {row : List Nat} {t1 t2 t3 : Option (List (List Nat))} (hD : V.fz.fzs (d :: D) = true) (hR : V.fz.fzs R = true) (hsc : V.fz.fzs script = true)
  (h8 : fns 8 [.lst script] (.tup [.str P, .lst R, .lst (nv row)])) (h0 : fns 0 [.str P] (.str X)) (h9 : fns 9 [.str X] (.lst (d :: D)))
  (r1 : jC fns (d :: D) R row t1) (r2 : jC fns (d :: D) R (row.drop 1) t2) (r3 : jC fns (d :: D) R row.reverse t3) :
  WSs fns c37 (ba (.bool true)) ⟨[some (.lst script), none, none, none, none, none, none, none, none, none, none, none, none, none, none, none], []⟩ := by
 have hsm := r1.small.1
 unfold c37
 repeat k_inBlock
 refine dz ⟨bD hsc rfl, _, h8, ?_⟩
 repeat k_inBlock
 refine dz ⟨rfl, _, h0, ?_⟩
 repeat k_inBlock
 refine dz ⟨rfl, _, h9, ?_⟩
 repeat k_inBlock
 refine Bc rfl ?_
 repeat k_inBlock
 repeat k_inBlock
 repeat k_inBlock
 try dsimp only [List.set]
 refine cQ ?_
 unfold q5
 repeat k_inBlock
 refine iH rfl rfl (aa (by decide)) aA ?_
 have e1 : cut (nv row) (some 1) Option.none = nv (row.drop 1) := by
  rw [show cut (nv row) (some 1) Option.none = (nv row).drop 1 from cj _ 1]; simp [nv, List.map_drop]
 have e2 : (nv row).reverse = nv row.reverse := by simp [nv]
 rw [e1]
 repeat k_inBlock
 rw [e2]
 repeat k_inBlock
 refine bZ rfl ⟨by show 3 ≤ 1000000; decide, ?_⟩
 refine iM hq hD hR r1 fun x6 x7 => ?_
 refine iM hq hD hR r2 fun x6 x7 => ?_
 refine iM hq hD hR r3 fun x6 x7 => ?_
 refine cy ?_
 repeat k_inBlock
 exact aB rfl
end
noncomputable def mE (ps : List Pt) : Prop := (∀ p ∈ ps, p.ok) ∧ ps.length ≤ 50 ∧ (ptT ps).length < 9000
noncomputable def u0 (ps : List Pt) : V := .lst (rsV (sgs (ao ps).1) :: (ao ps).2.map fun g => rsV (sgs g))
noncomputable def dv (r : List PR) : Prop := fx r ∧ r.length ≤ 50
noncomputable def iN (row : List Nat) : Prop := row.length ≤ 50 ∧ ∀ o ∈ row, o < 256
theorem cs1 {P : Nat → Prop} (a : P 0) (b : ∀ n, P (n + 1)) : ∀ n, P n := fun n => Nat.casesOn n a b
theorem c15 {P : Nat → Prop} (h0 : P 0) (h1 : P 1) (h2 : P 2) (h3 : P 3) (h4 : P 4) (h5 : P 5) (h6 : P 6) (h7 : P 7) (h8 : P 8) (h9 : P 9) (h10 : P 10) (h11 : P 11) (h12 : P 12) (h13 : P 13) (h14 : P 14) (r : ∀ n, P (n + 15)) : ∀ n, P n :=
 cs1 h0 (cs1 (P := fun n => P (n + 1)) h1 (cs1 (P := fun n => P (n + 2)) h2 (cs1 (P := fun n => P (n + 3)) h3 (cs1 (P := fun n => P (n + 4)) h4 (cs1 (P := fun n => P (n + 5)) h5 (cs1 (P := fun n => P (n + 6)) h6 (cs1 (P := fun n => P (n + 7)) h7 (cs1 (P := fun n => P (n + 8)) h8 (cs1 (P := fun n => P (n + 9)) h9 (cs1 (P := fun n => P (n + 10)) h10 (cs1 (P := fun n => P (n + 11)) h11 (cs1 (P := fun n => P (n + 12)) h12 (cs1 (P := fun n => P (n + 13)) h13 (cs1 (P := fun n => P (n + 14)) h14 r))))))))))))))
noncomputable def cm (n : Nat) (args : List V) (v : V) : Prop := match n with
 | 0 => ∃ ps, mE ps ∧ args = [.str (ptT ps)] ∧ v = .str (dm ps)
 | 1 => ∃ c, ag c = true ∧ args = [.str [c]] ∧ v = .str [c]
 | 2 => ∃ ps a, mE ps ∧ args = [.str (ptT ps), .con (.ref a), .str [46]] ∧ v = .lst (aS a false ps)
 | 3 => ∃ ps a, mE ps ∧ args = [.lst (aS a false ps), .con (.ref a)] ∧ v = .str (dm ps)
 | 4 => ∃ o, o < 256 ∧ args = [.str (q3 o)] ∧ v = .str [o]
 | 5 => ∃ c, c < 256 ∧ args = [.str [c]] ∧ v = .str (q3 c)
 | 6 => ∃ row, iN row ∧ args = [.str (ac row)] ∧ v = .str row
 | 7 => ∃ n, n < 1536 ∧ args = [.int (n : Nat)] ∧ v = .tup [.str (aQ n).text, .lst (nv (aQ n).vals)]
 | 8 => ∃ script : List Int, script.length ≤ 63 ∧ args = [.lst (script.map V.int)] ∧ v = fu (numsOf script)
 | 9 => ∃ ps, mE ps ∧ args = [.str (dm ps)] ∧ v = u0 ps
 | 10 => ∃ (run : List Sg) (name : List Nat) (a : Nat), run.length < 1000 ∧ name.length < 1000 ∧ (∀ s ∈ run, s.2.length ≤ 100) ∧ args = [rsV run, .str name, .int (a : Nat)] ∧ v = .bool (aY run name a)
 | 11 => (∃ (r : List PR) (row : List Nat), dv r ∧ iN row ∧ args = [.lst [rsV (SS r)], .str (ac row)] ∧ v = fq ((cU (SS r) (ac row)).map stL)) ∨
   ∃ (r0 rl : List PR) (mids : List (List PR)) (row : List Nat), dv r0 ∧ dv rl ∧ (∀ r ∈ mids, dv r) ∧ mids.length < 50 ∧ iN row ∧ args = [.lst (rsV (SS r0) :: ((mids.map SS).map rsV ++ [rsV (SS rl)])), .str (ac row)] ∧ v = fq ((bR (SS r0) (mids.map SS) (SS rl) (ac row)).map stL)
 | 12 => ∃ (run : Run) (row : List Nat) (a : Int), run.length < 1000 ∧ row.length < 1000 ∧ args = [aT run, .lst (nv row), .int a] ∧ v = .bool (aw run row a)
 | 13 => (∃ (r : List PR) (row : List Nat), dv r ∧ iN row ∧ args = [.lst [aT (rv r)], .lst (nv row)] ∧ v = fq ((dL (rv r) row).map nvL)) ∨
   ∃ (r0 rl : List PR) (mids : List (List PR)) (row : List Nat), dv r0 ∧ dv rl ∧ (∀ r ∈ mids, dv r ∧ r ≠ []) ∧ mids.length < 50 ∧ iN row ∧ args = [.lst (aT (rv r0) :: ((mids.map rv).map aT ++ [aT (rv rl)])), .lst (nv row)] ∧ v = fq ((cO (rv r0) (mids.map rv) (rv rl) row).map nvL)
 | 14 => ∃ script : List Int, script.length ≤ 63 ∧ args = [.lst (script.map V.int)] ∧ v = .bool true
 | _ => False
noncomputable def lev : Nat → Nat
 | 2 | 6 | 8 | 11 | 13 => 1
 | 0 => 2
 | 14 => 3
 | _ => 0
noncomputable def Low (k : Nat) : Fns := fun n args v => cm n args v ∧ lev n < k
noncomputable def bq : Nat → List S
 | 0 => c3 | 1 => c6 | 2 => c8 | 3 => c9 | 4 => c23 | 5 => c24 | 6 => c28 | 7 => c30 | 8 => c31 | 9 => c32 | 10 => c33 | 11 => c34 | 12 => c35 | 13 => c36 | 14 => c37
 | _ => []
noncomputable def dw : Nat → List V
 | 6 => [.str [10]]
 | _ => []
noncomputable def wE : Nat → Nat
 | 0 => 11 | 1 => 9 | 2 => 21 | 3 => 15 | 4 => 9 | 5 => 9 | 6 => 15 | 7 => 14 | 8 => 19 | 9 => 15 | 10 => 14 | 11 => 15 | 12 => 12 | 13 => 15 | 14 => 16
 | _ => 0
noncomputable def bT (n : Nat) (args : List V) : List (Option V) := (args ++ dw n).map some ++ List.replicate (wE n - (args ++ dw n).length) Option.none
theorem mF {r : List PR} (h : fx r) : ∀ s ∈ SS r, s.2.length ≤ 100 := by
 intro s hs
 obtain ⟨t, _, rfl⟩ := List.mem_map.1 hs
 cases t <;> simp [Tk.sg]
theorem pY (xs : List Nat) : (∀ i ∈ aU xs, ∀ n, i = .star n → 1 ≤ n) ∧ (∀ i ∈ aU xs, ∀ n, i = .star n → n ≤ 2) ∧ (∀ i ∈ aU xs, ∀ p, i = .pair p → p.1.wf ∧ p.2.wf) := by
 refine ⟨fun i hi n e => ?_, fun i hi n e => ?_, fun i hi p e => ?_⟩ <;>
 ·obtain ⟨x, _, rfl⟩ := List.mem_map.1 hi
  unfold bp at e
  split at e
  ·cases e <;> omega
  ·split at e
   ·cases e <;> exact ⟨Nat.div_lt_of_lt_mul (Nat.mod_lt _ (by decide)), Nat.mod_lt _ (by decide)⟩
   ·cases e <;> exact ⟨dS _, dS _⟩
theorem rK (xs : List Nat) : (cb xs).length ≤ 2 * xs.length ∧ ∀ o ∈ cb xs, o < 256 := by
 induction xs with
 | nil => exact ⟨by simp [cb], fun o h => by simp [cb] at h⟩
 | cons x xs ih =>
  have e : cb (x :: xs) = (bp x).2 ++ cb xs := by simp [cb]
  rw [e]
  refine ⟨by have := (iL x).2; simp only [List.length_append, List.length_cons]; omega, fun o ho => ?_⟩
  rcases List.mem_append.1 ho with ho | ho
  ·unfold bp at ho
   split at ho
   ·have := List.mem_of_mem_take ho
    simp at this
    exact FK this
   ·split at ho
    ·simp at ho; exact FJ ho
    ·rw [List.mem_singleton] at ho
     have v1 := il (dS (x / 8 * 37 % 1536))
     have v2 := il (dS ((x / 12288 + x * 53) % 1536))
     have gd : ∀ (l : List Nat) (i : Nat), (∀ v ∈ l, v < 16) → l[i]?.getD 0 < 16 := by
      intro l i hl
      cases hg : l[i]? with
      | none => simp
      | some v => simpa using hl v (List.mem_of_getElem? hg)
     rw [ho]
     split
     ·exact FI
     ·have a1 := gd _ (x / 9 % (aQ (x / 8 * 37 % 1536)).vals.length) v1
      have a2 := gd _ (x / 11 % (aQ ((x / 12288 + x * 53) % 1536)).vals.length) v2
      exact FH a1 a2
  ·exact ih.2 o ho
theorem mG : ∀ its : List It, (∀ i ∈ its, ∀ p, i = .pair p → p.1.wf ∧ p.2.wf) → ∀ r ∈ aN its, fx r ∧ r.length ≤ its.length
 | [], _, r, hr => by simp [aN] at hr; subst hr; exact ⟨fun p h => (by cases h), by simp⟩
 | .star n :: its, h, r, hr => by
  rcases List.mem_cons.1 hr with rfl | hr
  ·exact ⟨fun p h => (by cases h), by simp⟩
  ·obtain ⟨a, b⟩ := mG its (fun i hi => h i (by simp [hi])) r hr
   exact ⟨a, by simp; exact o75 b⟩
 | .pair p :: its, h, r, hr => by
  obtain ⟨g, m, e⟩ := hO its
  have ih := mG its (fun i hi => h i (by simp [hi]))
  rw [aN, e] at hr
  rw [e] at ih
  rcases List.mem_cons.1 hr with rfl | hr
  ·obtain ⟨a, b⟩ := ih g (by simp)
   refine ⟨fun q hq => ?_, by simp; exact k8 b⟩
   rcases List.mem_cons.1 hq with rfl | hq
   ·exact h (.pair q) (by simp) q rfl
   ·exact a q hq
  ·obtain ⟨a, b⟩ := ih r (by simp [hr])
   exact ⟨a, by simp; exact o75 b⟩
theorem sgs_ex (r : List PR) : sgs (ex r) = SS r := rfl
theorem jD {row : List Nat} : ∀ {rs : List Run} {a : Nat} {l : List (List Nat)} {e : Nat}, be row rs a = some (l, e) → ∀ p ∈ l, p.length ≤ row.length ∧ ∀ o ∈ p, o ∈ row
 | [], a, l, e, h, p, hp => by cases h; cases hp
 | r :: rs, a, l, e, h, p, hp => by
  rw [be] at h
  split at h
  ·exact ab h
  split at h
  ·exact ab h
  rename_i b hb _ l' e' ht
  cases h
  rcases List.mem_cons.1 hp with rfl | hp
  ·exact ⟨by simp only [List.length_drop, List.length_take]; exact Ge, fun o ho => List.mem_of_mem_take (List.mem_of_mem_drop ho)⟩
  ·exact jD ht p hp
theorem nc {r0 rl : Run} {mids : List Run} {row : List Nat} {l : List (List Nat)} (h : cO r0 mids rl row = some l) : l.length ≤ mids.length + 1 ∧ ∀ p ∈ l, p.length ≤ row.length ∧ ∀ o ∈ p, o ∈ row := by
 unfold cO at h
 split at h
 ·split at h
  ·exact ab h
  ·rename_i l' e' ht
   (injection h with h; subst h)
   refine ⟨by have := fQ ht; simp; exact Gd this, fun p hp => ?_⟩
   rcases List.mem_append.1 hp with hp | hp
   ·exact jD ht p hp
   ·rw [List.mem_singleton] at hp
    subst hp
    exact ⟨by simp only [List.length_drop, List.length_take]; exact Gc, fun o ho => List.mem_of_mem_take (List.mem_of_mem_drop ho)⟩
 ·exact ab h
theorem Au (its : List It) (h : ∀ i ∈ its, ∀ p, i = .pair p → p.1.wf ∧ p.2.wf) (h2 : ∀ i ∈ its, ∀ n, i = .star n → n ≤ 2) : (∀ p ∈ br its, p.ok) ∧ (br its).length ≤ 3 * its.length := by
 induction its with
 | nil => exact ⟨fun p hp => (by cases hp), by simp [br]⟩
 | cons i its ih =>
  obtain ⟨a, b⟩ := ih (fun j hj => h j (by simp [hj])) (fun j hj => h2 j (by simp [hj]))
  have e : br (i :: its) = i.pts ++ br its := rfl
  rw [e]
  cases i with
  | star n =>
   have hn := h2 (.star n) (by simp) n rfl
   refine ⟨fun p hp => ?_, by simp [It.pts]; exact Gb b hn⟩
   rcases List.mem_append.1 hp with hp | hp
   ·rw [List.eq_of_mem_replicate hp]; trivial
   ·exact a p hp
  | pair q =>
   have hq := h (.pair q) (by simp) q rfl
   refine ⟨fun p hp => ?_, by simp [It.pts]; exact Ga b⟩
   rcases List.mem_append.1 hp with hp | hp
   ·simp only [It.pts, List.mem_cons, List.not_mem_nil, or_false] at hp
    rcases hp with rfl | rfl | rfl
    ·trivial
    ·exact hq.1
    ·exact hq.2
   ·exact a p hp
theorem rL (xs : List Nat) : (ptT (br (aU xs))).length ≤ 13 * xs.length := by
 induction xs with
 | nil => simp [aU, br, ptT]
 | cons x xs ih =>
  have e1 : ptT (br (aU (x :: xs))) = ptT (bp x).1.pts ++ ptT (br (aU xs)) := by
   rw [← nS]; rfl
  have := (iL x).1
  rw [e1]; simp only [List.length_append, List.length_cons]; exact F9 ih this
theorem rM {t : Option (List (List Nat))} : (t.map (·.map ac)).map stL = t.map fun l => stL (l.map ac) := by
 cases t <;> rfl
theorem mH {g : List PR} {m : List (List PR)} (hg : ∀ r ∈ g :: m, dv r) (hm : m.length ≤ 40) {one : List Nat} (h1 : iN one) : ∃ t, jC (Low 3) (rsV (SS g) :: (bb m).map fun r => rsV (SS r)) ((g :: bb m).map fun r => aT (rv r)) one t := by
 have h0 := hg g (by simp)
 have dec : ∀ p : List Nat, p.length ≤ one.length → (∀ o ∈ p, o ∈ one) → p.length < 1000 ∧ (∀ o ∈ p, o < 256) ∧ Low 3 6 [.str (ac p)] (.str p) := fun p a b =>
  ⟨by have := h1.1; exact F8 this a, fun o ho => h1.2 o (b o ho), ⟨p, ⟨by have := h1.1; exact F7 this a, fun o ho => h1.2 o (b o ho)⟩, rfl, rfl⟩, by decide⟩
 cases m with
 | nil =>
  refine ⟨dL (rv g) one, ⟨by have := h1.1; exact yl this, h1.2⟩, ?_, ?_, fun l hl => ?_⟩
  ·rw [← rM, ← ub h1.2 h0.1]
   exact ⟨.inl ⟨g, one, h0, h1, rfl, rfl⟩, by decide⟩
  ·exact ⟨.inl ⟨g, one, h0, h1, rfl, rfl⟩, by decide⟩
  ·unfold dL at hl
   split at hl
   ·obtain rfl := Option.some.inj hl; exact ⟨by decide, fun p hp => by cases hp⟩
   ·exact ab hl
 | cons g' m' =>
  obtain ⟨mm, rl, em⟩ : ∃ mm rl, g' :: m' = mm ++ [rl] := ⟨(g' :: m').dropLast, (g' :: m').getLast (by simp), (List.dropLast_concat_getLast _).symm⟩
  rw [em] at hg hm ⊢
  rw [gI]
  have hmid : ∀ r ∈ mm.filter (fun r => !r.isEmpty), dv r ∧ r ≠ [] := fun r hr => by
   obtain ⟨a, b⟩ := List.mem_filter.1 hr
   exact ⟨hg r (by simp [a]), fun e => by rw [e] at b; cases b⟩
  have hlen : (mm.filter (fun r => !r.isEmpty)).length < 50 := by
   have := List.length_filter_le (fun r : List PR => !r.isEmpty) mm
   simp at hm; exact F4 hm this
  have hl := hg rl (by simp)
  generalize mm.filter (fun r => !r.isEmpty) = mids at *
  obtain ⟨L1, L2⟩ := mD h1.2 h0.1 hl.1 (fun r hr => ⟨(hmid r hr).1.1, (hmid r hr).2⟩)
  refine ⟨cO (rv g) (mids.map rv) (rv rl) one, ⟨by have := h1.1; exact yl this, h1.2⟩, ?_, ?_, fun l hl => ?_⟩
  ·rw [← rM, ← L1]
   refine ⟨.inr ⟨g, rl, mids, one, h0, hl, fun r hr => (hmid r hr).1, hlen, h1, ?_, rfl⟩, by decide⟩
   simp
  ·refine ⟨.inr ⟨g, rl, mids, one, h0, hl, hmid, hlen, h1, ?_, rfl⟩, by decide⟩
   simp
  ·obtain ⟨a, b⟩ := nc hl
   refine ⟨by rw [List.length_map] at a; exact F0 hlen a, fun p hp => ?_⟩
   obtain ⟨c, d⟩ := b p hp
   exact dec p c d
theorem wF (l : List Int) : V.fz.fzs (l.map V.int) = true := dF _ (fun _ => rfl) l
theorem ue {script : List Int} (hs : script.length ≤ 63) : WSs (Low 3) c37 (ba (.bool true)) ⟨bT 14 [.lst (script.map V.int)], []⟩ := by
 obtain ⟨n1, n2, n3⟩ := pY (numsOf script)
 obtain ⟨o1, o2⟩ := rK (numsOf script)
 have hl5 := my script
 have h8 : Low 3 8 [.lst (script.map V.int)] (fu (numsOf script)) := ⟨⟨script, hs, rfl, rfl⟩, by decide⟩
 generalize hxs : numsOf script = xs at *
 obtain ⟨g, m, e1, e2, e3⟩ := fR (aU xs) n1
 have hil : (aU xs).length = xs.length := by unfold aU; rw [List.length_map]
 have hraw := io (aU xs)
 have hok := mG (aU xs) n3
 rw [e1] at hraw hok
 have hg : ∀ r ∈ g :: m, dv r := fun r hr => ⟨(hok r hr).1, by have := (hok r hr).2; exact FZ hil hl5 this⟩
 have hm : m.length ≤ 40 := by simp at hraw; exact FY hil hl5 hraw
 obtain ⟨p1, p2⟩ := Au (aU xs) n3 n2
 have hps : mE (br (aU xs)) := ⟨p1, FX hil hl5 p2, by have := rL xs; exact FW hil hl5 this⟩
 have hrow : iN (cb xs) := ⟨FV hil hl5 o1, o2⟩
 have hbv : fu xs = .tup [.str (ptT (br (aU xs))), .lst ((g :: bb m).map fun r => aT (rv r)), .lst (nv (cb xs))] := by
  unfold fu; rw [e1]; rfl
 rw [hbv] at h8
 have h9 : Low 3 9 [.str (dm (br (aU xs)))] (.lst (rsV (SS g) :: (bb m).map fun r => rsV (SS r))) := by
  refine ⟨⟨_, hps, rfl, ?_⟩, by decide⟩
  unfold u0
  rw [e2]
  show V.lst (rsV (SS g) :: (bb m).map fun r => rsV (SS r)) = V.lst (rsV (sgs (ex g)) :: ((bb m).map ex).map fun g => rsV (sgs g))
  rw [List.map_map]; rfl
 obtain ⟨t1, r1⟩ := mH hg hm hrow
 obtain ⟨t2, r2⟩ := mH hg hm (one := (cb xs).drop 1) ⟨by rw [List.length_drop]; have := hrow.1; exact FU this, fun o ho => hrow.2 o (List.mem_of_mem_drop ho)⟩
 obtain ⟨t3, r3⟩ := mH hg hm (one := (cb xs).reverse) ⟨by rw [List.length_reverse]; exact hrow.1, fun o ho => hrow.2 o (List.mem_reverse.1 ho)⟩
 refine Bl (fun c hc => ⟨⟨c, hc, rfl, rfl⟩, by decide⟩) ?_ (dF _ (fun r => nK (rv r)) _) (wF script) h8 ⟨⟨_, hps, rfl, rfl⟩, by decide⟩ h9 r1 r2 r3
 exact dF (fun r => rsV (SS r)) (fun r => ri (SS r)) (g :: bb m)
theorem sw0 {args : List V} {v : V} (h : cm 0 args v) : WSs (Low (lev 0)) (bq 0) (ba v) ⟨bT 0 args, []⟩ := by
 obtain ⟨ps, h, e1, e2⟩ := h
 subst e1 e2
 exact m9 (fun a => ⟨⟨ps, a, h, rfl, rfl⟩, by decide⟩) (fun a => ⟨⟨ps, a, h, rfl, rfl⟩, by decide⟩)
theorem sw1 {args : List V} {v : V} (h : cm 1 args v) : WSs (Low (lev 1)) (bq 1) (ba v) ⟨bT 1 args, []⟩ := by
 obtain ⟨c, h, e1, e2⟩ := h
 subst e1 e2; exact tP h
theorem sw2 {args : List V} {v : V} (h : cm 2 args v) : WSs (Low (lev 2)) (bq 2) (ba v) ⟨bT 2 args, []⟩ := by
 obtain ⟨ps, a, h, e1, e2⟩ := h
 subst e1 e2
 exact wx (fun c hc => ⟨⟨c, hc, rfl, rfl⟩, by decide⟩) h.2.2 (by have := h.2.1; exact FT this) h.1
theorem sw3 {args : List V} {v : V} (h : cm 3 args v) : WSs (Low (lev 3)) (bq 3) (ba v) ⟨bT 3 args, []⟩ := by
 obtain ⟨ps, a, h, e1, e2⟩ := h
 subst e1 e2; exact m8 (by have := h.2.1; exact gg this)
theorem sw4 {args : List V} {v : V} (h : cm 4 args v) : WSs (Low (lev 4)) (bq 4) (ba v) ⟨bT 4 args, []⟩ := by
 obtain ⟨o, h, e1, e2⟩ := h
 subst e1 e2
 have := re (fns := Low (lev 4)) (l := List.replicate 8 Option.none) (nN (o / 16) (jG h)) (nN (o % 16) (Nat.mod_lt _ (by decide))) (jG h) (Nat.mod_lt _ (by decide))
 rw [show 16 * (o / 16) + o % 16 = o by exact FS] at this
 exact this
theorem sw5 {args : List V} {v : V} (h : cm 5 args v) : WSs (Low (lev 5)) (bq 5) (ba v) ⟨bT 5 args, []⟩ := by
 obtain ⟨c, h, e1, e2⟩ := h
 subst e1 e2; exact wh h
theorem sw6 {args : List V} {v : V} (h : cm 6 args v) : WSs (Low (lev 6)) (bq 6) (ba v) ⟨bT 6 args, []⟩ := by
 obtain ⟨row, h, e1, e2⟩ := h
 subst e1 e2
 exact tQ (fun o ho => ⟨⟨o, ho, rfl, rfl⟩, by decide⟩) (by have := h.1; exact gg this) h.2
theorem sw7 {args : List V} {v : V} (h : cm 7 args v) : WSs (Low (lev 7)) (bq 7) (ba v) ⟨bT 7 args, []⟩ := by
 obtain ⟨n, h, e1, e2⟩ := h
 subst e1 e2; exact Ae n (FR h)
theorem sw8 {args : List V} {v : V} (h : cm 8 args v) : WSs (Low (lev 8)) (bq 8) (ba v) ⟨bT 8 args, []⟩ := by
 obtain ⟨script, h, e1, e2⟩ := h
 subst e1 e2
 exact wA (fun n hn => ⟨⟨n, hn, rfl, rfl⟩, by decide⟩) (fun c hc => ⟨⟨c, hc, rfl, rfl⟩, by decide⟩) script h
theorem sw9 {args : List V} {v : V} (h : cm 9 args v) : WSs (Low (lev 9)) (bq 9) (ba v) ⟨bT 9 args, []⟩ := by
 obtain ⟨ps, h, e1, e2⟩ := h
 subst e1 e2
 obtain ⟨s1, s2⟩ := du ps
 obtain ⟨k1, k2⟩ := gH ps h.1
 have hl := h.2.1
 have ht := pS ps
 unfold cK at s1
 have mem_len : ∀ {l : List (List Tk)} {g : List Tk}, g ∈ l → g.length ≤ l.flatten.length := by
  intro l g hg
  induction l with
  | nil => cases hg
  | cons a r ih =>
   rw [List.flatten_cons, List.length_append]
   rcases List.mem_cons.1 hg with rfl | hg
   ·exact xl
   ·have := ih hg; exact FQ this
 exact An (by show (dm ps).length < 90000; exact FP ht hl) ⟨FO s1 hl, k1⟩ (fun g hg => ⟨by have := mem_len hg; exact FN s1 hl this, k2 g hg⟩) (FM hl s2)
theorem GG {args : List V} {v : V} (h : cm 10 args v) : WSs (Low (lev 10)) (bq 10) (ba v) ⟨bT 10 args, []⟩ := by
 obtain ⟨run, name, a, h1, h2, h3, e1, e2⟩ := h
 subst e1 e2; exact GE h1 h2 h3
theorem GH {args : List V} {v : V} (h : cm 11 args v) : WSs (Low (lev 11)) (bq 11) (ba v) ⟨bT 11 args, []⟩ := by
 rcases h with ⟨r, row, h1, h2, e1, e2⟩ | ⟨r0, rl, mids, row, h0, hl, hm, hlen, hrow, e1, e2⟩
 ·subst e1 e2
  refine rn fun a => ⟨⟨_, _, a, ?_, ?_, mF h1.1, rfl, rfl⟩, by decide⟩
  ·rw [dI]; have := h1.2; exact jI this
  ·rw [bH]; have := h2.1; exact jI this
 ·subst e1 e2
  have key : ∀ r, dv r → g8 (Low (lev 11)) (ac row) (SS r) := fun r hr a => ⟨⟨_, _, a, by rw [dI]; have := hr.2; exact jI this, by rw [bH]; have := hrow.1; exact jI this, mF hr.1, rfl, rfl⟩, by decide⟩
  refine rp (by rw [bH]; have := hrow.1; exact jI this) (by rw [List.length_map]; exact yk hlen) (key r0 h0) (key rl hl) (fun r hr => ?_) (by rw [dI]; have := h0.2; exact jI this)
  obtain ⟨r', h', rfl⟩ := List.mem_map.1 hr
  exact key r' (hm r' h')
theorem GI {args : List V} {v : V} (h : cm 12 args v) : WSs (Low (lev 12)) (bq 12) (ba v) ⟨bT 12 args, []⟩ := by
 obtain ⟨run, row, a, h1, h2, e1, e2⟩ := h
 subst e1 e2; exact Af h1 h2
theorem GJ {args : List V} {v : V} (h : cm 13 args v) : WSs (Low (lev 13)) (bq 13) (ba v) ⟨bT 13 args, []⟩ := by
 rcases h with ⟨r, row, h1, h2, e1, e2⟩ | ⟨r0, rl, mids, row, h0, hl, hm, hlen, hrow, e1, e2⟩
 ·subst e1 e2
  exact wl fun a => ⟨⟨_, _, a, by rw [cT]; have := h1.2; exact gg this, by have := h2.1; exact gg this, rfl, rfl⟩, by decide⟩
 ·subst e1 e2
  have key : ∀ r, dv r → eR (Low (lev 13)) row (rv r) := fun r hr a => ⟨⟨_, _, a, by rw [cT]; have := hr.2; exact gg this, by have := hrow.1; exact gg this, rfl, rfl⟩, by decide⟩
  obtain ⟨L1, L2⟩ := mD hrow.2 h0.1 hl.1 (fun r hr => ⟨(hm r hr).1.1, (hm r hr).2⟩)
  refine wm (by have := hrow.1; exact gg this) (by rw [List.length_map]; exact yk hlen) (key r0 h0) (key rl hl) (fun r hr => ?_) (by rw [cT]; have := h0.2; exact gg this) (fun r hr => ?_) (fun a b => ?_)
  ·obtain ⟨r', h', rfl⟩ := List.mem_map.1 hr
   exact key r' (hm r' h').1
  ·obtain ⟨r', h', rfl⟩ := List.mem_map.1 hr
   rw [cT]; have := (hm r' h').1.2; exact gg this
  ·obtain ⟨l, e, q1, q2⟩ := L2 a b
   exact ⟨l, e, q1, by have := hrow.1; exact FL this q2⟩
theorem GK {args : List V} {v : V} (h : cm 14 args v) : WSs (Low (lev 14)) (bq 14) (ba v) ⟨bT 14 args, []⟩ := by
 obtain ⟨script, h, e1, e2⟩ := h
 subst e1 e2; exact ue h
theorem wG (n : Nat) (args : List V) (v : V) : cm n args v → WSs (Low (lev n)) (bq n) (ba v) ⟨bT n args, []⟩ :=
 c15 (P := fun n => cm n args v → WSs (Low (lev n)) (bq n) (ba v) ⟨bT n args, []⟩) sw0 sw1 sw2 sw3 sw4 sw5 sw6 sw7 sw8 sw9 GG GH GI GJ GK (fun _ h => h.elim) n
end Mine
namespace Mine
open PySem PySem.W PySem.Calls PyProof.Rows
structure At (K : Frag) (mg mb : Str → Option Value) (h : Heap) : Prop where
 X : K.In h
 g : h.Ns mainGlobals mg
 b : h.Ns builtinsNs mb
 bt : ∀ x : Str, x ≠ "__name__" → mb x = bootBuiltins x
noncomputable def fy : List (List Nat) → List Value → Bool
 | [], [] => true
 | x :: l, .str y _ :: vs => y.cps == x.toArray && x.length ≤ lim && fy l vs
 | _, _ => false
noncomputable def quoL : List (List Nat) := (List.range 256).map fun c => [61, (if c / 16 < 10 then 48 + c / 16 else 55 + c / 16), (if c % 16 < 10 then 48 + c % 16 else 55 + c % 16)]
noncomputable def rN (K : Frag) (a : Addr) (l : List (List Nat)) : Bool := match K.lookup a with
 | some o => (match o.cls with | .type T => T == "list" | _ => false) && (match o.data with | .seq vs _ => fy l vs.toList | _ => false)
 | Option.none => false
noncomputable def Av (v : Value) : Option Int := match v with
 | .int i _ => some i
 | _ => Option.none
noncomputable def pZ (e : DictEntry) : Bool := match Av e.key with
 | some i => e.hash == hashInt i && !(i == 61 || (48 ≤ i && i ≤ 57) || (65 ≤ i && i ≤ 70))
 | Option.none => false
noncomputable def u1 (K : Frag) (a : Addr) : Bool := match K.lookup a with
 | some o => (match o.cls with | .type T => T == "dict" | _ => false) && o.dict.isNone && o.slots.isEmpty && (match o.data with | .dict es _ => es.toList.all pZ | _ => false)
 | Option.none => false
noncomputable def p7 (K : Frag) (a : Addr) : Bool := match K.lookup a with
 | some o => (match o.cls with | .type T => T == "re.Pattern" | _ => false) && o.dict.isNone && (match o.data with
  | .fields fs => (match fs.getD 5 .none with
   | .ref cl => (match K.lookup cl with
    | some oc => (match oc.data with | .seq vs _ => (vs.map Builtin.Re.reRawOf).map (·.toNat) == subCode | _ => false)
    | Option.none => false)
   | _ => false) && Builtin.Re.reRawNat (fs.getD 6 .none) == 0 && Builtin.Re.reRawNat (fs.getD 2 .none) == 1
  | _ => false)
 | Option.none => false
noncomputable def builtNames : List (Str × Value) := [("len", .builtin "len"), ("range", .type "range"), ("ord", .builtin "ord"), ("chr", .builtin "chr"), ("int", .type "int"), ("min", .builtin "min"), ("max", .builtin "max"), ("object", .type "object"), ("isinstance", .builtin "isinstance"), ("str", .type "str")]
noncomputable def GL : Str := "0123456789abcdefABCDEF"
structure gf (K : Frag) (P pc sp pt qm : Addr) (fa : List Addr) : Prop where
 built : ∀ x ∈ builtNames, nsIn K mainGlobals x.1 = some Option.none
 hex : ∃ t, nsIn K mainGlobals "hexdigits" = some (some (.str GL t))
 quo : nsIn K mainGlobals "_QUOPRI_MAP" = some (some (.ref qm))
 spe : nsIn K mainGlobals "_special_chars_map" = some (some (.ref sp))
 twin : nsIn K mainGlobals "_twin_re_1" = some (some (.ref pt))
 quoL : rN K qm quoL = true
 speM : u1 K sp = true
 twinP : p7 K pt = true
 cod : codeHdIn K pc P = true
 pno : K.lookup P = Option.none
 spn : (sp == sysModules) = false
 fns : defNames.map (fun x => nsIn K mainGlobals x) = fa.map fun a => some (some (.ref a))
section
variable {cx : Cx} {K : Frag} {mg mb : Str → Option Value}
theorem dJ (H : At K mg mb cx.g) {x : Str} {v : Value} (e : nsIn K mainGlobals x = some (some v)) (hd : (x == ("__debug__" : Str)) = false) : aZ cx x v :=
 fun env A s pos Q E hk hg hb hx hz hq => Name_function_global hk hx (loadGlobal_global (show s.heap.Ns env.globals mg from hg ▸ H.g.keeps hz) (mg_of H.X H.g e) hq) hd
theorem mI (H : At K mg mb cx.g) {x : Str} {v : Value} (e : nsIn K mainGlobals x = some Option.none) (hv : bootBuiltins x = some v) (hn : x ≠ "__name__") (hd : (x == ("__debug__" : Str)) = false) : aZ cx x v :=
 fun env A s pos Q E hk hg hb hx hz hq => Name_function_global hk hx (loadGlobal_builtin (show s.heap.Ns env.globals mg from hg ▸ H.g.keeps hz) (mg_none_of H.X H.g e) (show s.heap.Ns env.builtins mb from hb ▸ H.b.keeps hz) ((H.bt x hn).trans hv) hq) hd
theorem wH : builtNames.all (fun x => bootBuiltins x.1 == some x.2 && !(x.1 == ("__name__" : Str)) && !(x.1 == ("__debug__" : Str))) = true := by decide +kernel
theorem Aw {P pc sp pt qm : Addr} {fa : List Addr} (H : At K mg mb cx.g) (F : gf K P pc sp pt qm fa) {x : Str} {v : Value} (hx : (x, v) ∈ builtNames) : aZ cx x v := by
 have h := List.all_eq_true.1 wH _ hx
 simp only [Bool.and_eq_true, Bool.not_eq_true'] at h
 exact mI H (F.built _ hx) (beq_iff_eq.1 h.1.1) (fun e => by rw [e] at h; simp at h) h.2
theorem uf {x : List Nat} {l : List (List Nat)} {vs : List Value} (h : fy (x :: l) vs = true) : ∃ t us, vs = .str ⟨x.toArray⟩ t :: us ∧ x.length ≤ lim ∧ fy l us = true := by
 cases vs with
 | nil => exact aH h
 | cons v vs => cases v with
  | str y t =>
   have h' : (y.cps == x.toArray && decide (x.length ≤ lim) && fy l vs) = true := h
   rw [Bool.and_eq_true, Bool.and_eq_true, beq_iff_eq, decide_eq_true_eq] at h'
   exact ⟨t, vs, by rw [← h'.1.1], h'.1.2, h'.2⟩
  | _ => exact aH h
theorem rO {spa : Addr} {G : PH} {μ : List Addr} {l : List (List Nat)} : ∀ {vs : List Value}, fy l vs = true → VRs spa G μ (l.map V.str) vs := by
 induction l with
 | nil => intro vs h; cases vs with
  | nil => trivial
  | cons => exact aH h
 | cons x l ih =>
  intro vs h
  obtain ⟨t, us, rfl, h1, h2⟩ := uf h
  exact ⟨⟨h1, t, rfl⟩, ih h2⟩
end
end Mine
namespace Mine
open PySem PySem.W PySem.Calls PyProof.Rows
theorem dW {K : Frag} {a : Addr} {p : Obj → Bool} (e : (match K.lookup a with | some o => p o | Option.none => false) = true) : ∃ o, K.lookup a = some o ∧ p o = true := by
 cases h : K.lookup a with
 | none => rw [h] at e; exact aH e
 | some o => rw [h] at e; exact ⟨o, rfl, e⟩
theorem qa {v : Value} {T : String} (h : (match v with | .type U => U == T | _ => false) = true) : v = .type T := by
 cases v with
 | type U => exact congrArg Value.type (beq_iff_eq.1 h)
 | _ => exact aH h
section
variable {cx : Cx} {K : Frag} {mg mb : Str → Option Value}
theorem Ax (X : K.In cx.g) {qm : Addr} (h : rN K qm quoL = true) : VR cx.sp cx.g.get? [] (gi .quopri) (.ref qm) := by
 obtain ⟨o, h1, h2⟩ := dW (p := fun o => (match o.cls with | .type T => T == "list" | _ => false) && (match o.data with | .seq vs _ => fy quoL vs.toList | _ => false)) h
 rw [Bool.and_eq_true] at h2
 obtain ⟨h2, h3⟩ := h2
 split at h3
 ·rename_i vs n hd
  have e : gi .quopri = .lst (quoL.map V.str) := by
   unfold gi quoL
   rw [List.map_map]; rfl
  rw [e]
  exact ⟨by rw [List.length_map]; unfold quoL; rw [List.length_map, List.length_range]; unfold lim; exact Gi, qm, vs.toList, rfl, ⟨o, n, X _ _ h1, qa h2, by rw [hd]⟩, rO h3⟩
 ·exact aH h3
theorem nW {e : DictEntry} (h : pZ e = true) : ∃ i t, e.key = .int i t ∧ e.hash = hashInt i ∧ (i == 61 || (decide (48 ≤ i) && decide (i ≤ 57)) || (decide (65 ≤ i) && decide (i ≤ 70))) = false := by
 obtain ⟨hs, k, v⟩ := e
 cases k with
 | int i t =>
  have h' : (hs == hashInt i && !(i == 61 || (decide (48 ≤ i) && decide (i ≤ 57)) || (decide (65 ≤ i) && decide (i ≤ 70)))) = true := h
  rw [Bool.and_eq_true, Bool.not_eq_true', beq_iff_eq] at h'
  exact ⟨i, t, rfl, h'.1, h'.2⟩
 | _ => exact aH h
theorem Ay (X : K.In cx.g) (h : u1 K cx.sp = true) (hn : (cx.sp == sysModules) = false) : gm cx := by
 obtain ⟨o, h1, h2⟩ := dW (p := fun o => (match o.cls with | .type T => T == "dict" | _ => false) && o.dict.isNone && o.slots.isEmpty && (match o.data with | .dict es _ => es.toList.all pZ | _ => false)) h
 rw [Bool.and_eq_true, Bool.and_eq_true, Bool.and_eq_true] at h2
 obtain ⟨⟨⟨h2, h3⟩, h4⟩, h5⟩ := h2
 split at h5
 ·rename_i es ep hd
  rw [List.all_eq_true] at h5
  refine ⟨fun k => findBy (intKind cx.prog cx.w).is es k, ⟨o, es, ep, X _ _ h1, ⟨qa h2, by simpa using h3, by simpa using h4⟩, hd, fun e he => ?_, fun k => rfl⟩, fun c hc => ?_, hn⟩
  ·obtain ⟨i, t, e1, e2, _⟩ := nW (h5 e (by simpa using he))
   exact ⟨i, by rw [e1]; simp [intKind, Value.isInt], e2⟩
  ·show ((es.find? _).map _) = Option.none
   rw [Option.map_eq_none_iff, ← Array.find?_toList, List.find?_eq_none]
   intro e he
   obtain ⟨i, t, e1, _, e3⟩ := nW (h5 e he)
   rw [e1]
   show ¬ ((i == (c : Int)) = true)
   rw [beq_iff_eq]
   rintro rfl
   unfold ag at hc
   simp at hc e3
   exact Gh hc e3
 ·exact aH h5
theorem Az (X : K.In cx.g) {pt : Addr} (h : p7 K pt = true) : PatAt cx.g pt := by
 unfold p7 at h
 obtain ⟨o, h1, h2⟩ := dW (p := fun o => (match o.cls with | .type T => T == "re.Pattern" | _ => false) && o.dict.isNone && (match o.data with
  | .fields fs => (match fs.getD 5 .none with
   | .ref cl => (match K.lookup cl with
    | some oc => (match oc.data with | .seq vs _ => (vs.map Builtin.Re.reRawOf).map (·.toNat) == subCode | _ => false)
    | Option.none => false)
   | _ => false) && Builtin.Re.reRawNat (fs.getD 6 .none) == 0 && Builtin.Re.reRawNat (fs.getD 2 .none) == 1
  | _ => false)) h
 rw [Bool.and_eq_true, Bool.and_eq_true] at h2
 obtain ⟨⟨h2, h3⟩, h4⟩ := h2
 split at h4
 ·rename_i fs hd
  rw [Bool.and_eq_true, Bool.and_eq_true, beq_iff_eq, beq_iff_eq] at h4
  obtain ⟨⟨h4, h5⟩, h6⟩ := h4
  split at h4
  ·rename_i cl hc
   obtain ⟨oc, h7, h8⟩ := dW h4
   split at h8
   ·rename_i vs n hv
    exact ⟨o, fs, cl, oc, vs, n, X _ _ h1, qa h2, by simpa using h3, hd, hc, X _ _ h7, hv, beq_iff_eq.1 h8, h5, h6⟩
   ·exact aH h8
  ·exact aH h4
 ·exact aH h4
theorem wI (T : CxT cx) {A : Around} {pt : Addr} (hh : A.handled = Option.none) (hroom : A.depth < recursionLimit) (hpt : aZ cx "_twin_re_1" (.ref pt)) (hpo : PatAt cx.g pt) : qE cx A where
 jgen := fun Γ sc env h₀ he hcode sep k p apos pos x' x src q1 q2 q3 ap1 ap2 p1 p2 gp c1 d1 c2 d2 k1 k2 k3 k4 r1 r2 r3 r4 scope i hline e hl1 hl2 hc1 hc2 hx hsrc hsd hkind hgen hco hsep hx0 hxl h0 hall hi => by
  subst e
  exact wc T hh hroom he hcode hline hl1 hl2 hc1 hc2 hx hsrc hsd hkind hgen hco hsep hx0 hxl h0 hall hi
 sub := fun Γ sc env h₀ he hcode q1 apos pos lp ar b scope a x hline hsc hf hd hkd hfree hs => zA T he hcode hpt hpo hline hsc hf hd hkd hfree hs
theorem Bm {P pc sp pt qm : Addr} {fa : List Addr} (F : gf K P pc sp pt qm fa) {n : Nat} {x : Str} (h : defNames[n]? = some x) : ∃ a, fa[n]? = some a ∧ nsIn K mainGlobals x = some (some (.ref a)) := by
 have e : (defNames.map (fun x => nsIn K mainGlobals x))[n]? = (fa.map fun a => some (some (Value.ref a)))[n]? := by rw [F.fns]
 rw [List.getElem?_map, List.getElem?_map, h] at e
 cases ha : fa[n]? with
 | none => rw [ha] at e; exact cn e
 | some a => rw [ha] at e; exact ⟨a, rfl, Option.some.inj e⟩
theorem rP : defNames.all (fun x => !(x == ("__debug__" : Str))) = true := by decide +kernel
theorem AA {P pc sp pt qm : Addr} {fa : List Addr} (H : At K mg mb cx.g) (F : gf K P pc sp pt qm fa) (T : CxT cx) (hsp : cx.sp = sp) {A : Around} {b : Nat} (hr : j2 b A) (isp : Bool)
  (hfn : ∀ n a, fa[n]? = some a → (∃ o fd, cx.g.get? a = some o ∧ o.data = .func fd) ∧ ∀ args v, cx.fns n args v → kU cx a b args v) : Hyp cx A isp := by
 have hh := hr.1
 have hd := hr.2.1
 have hu := hr.2.2
 have hpt := dJ H F.twin (by decide)
 obtain ⟨t, hx⟩ := F.hex
 have B : ∀ {x : Str} {v : Value}, (x, v) ∈ builtNames → aZ cx x v := fun h => Aw H F h
 have h1 : gm cx := Ay H.X (by rw [hsp]; exact F.speM) (by rw [hsp]; exact F.spn)
 have h2 : sp = cx.sp := hsp.symm
 refine ⟨hh, Gg hu, h1, B (List.mem_of_getElem? (i := 0) rfl), B (List.mem_of_getElem? (i := 1) rfl), B (List.mem_of_getElem? (i := 2) rfl), B (List.mem_of_getElem? (i := 3) rfl), B (List.mem_of_getElem? (i := 4) rfl), B (List.mem_of_getElem? (i := 5) rfl), B (List.mem_of_getElem? (i := 6) rfl), B (List.mem_of_getElem? (i := 7) rfl), B (List.mem_of_getElem? (i := 8) rfl), B (List.mem_of_getElem? (i := 9) rfl),
  ⟨_, dJ H hx (by decide), by decide, t, rfl⟩, ⟨_, dJ H F.quo (by decide), Ax H.X F.quoL⟩, ⟨_, dJ H F.spe (by decide), congrArg Value.ref h2⟩, fun n x hn => ?_, fun _ => wI T hh (Gf hd) hpt (Az H.X F.twinP)⟩
 obtain ⟨a, ha, hs⟩ := Bm F hn
 obtain ⟨⟨o, fd, ho, hf⟩, hz⟩ := hfn n a ha
 have hdb : (x == ("__debug__" : Str)) = false := by
  have := List.all_eq_true.1 rP x (List.mem_of_getElem? hn)
  simpa using this
 exact ⟨.ref a, dJ H hs hdb, .inr (.inr ⟨a, o, fd, rfl, ho, hf⟩), AT hr hz⟩
end
end Mine
namespace Mine
open PySem PySem.W PySem.Calls PyProof.Rows
noncomputable def bx : Nat → Nat
 | 0 => 3 | 1 => 6 | 2 => 8 | 3 => 9 | 4 => 23 | 5 => 24 | 6 => 28 | 7 => 30 | 8 => 31 | 9 => 32 | 10 => 33 | 11 => 34 | 12 => 35 | 13 => 36 | _ => 37
noncomputable def ed : Nat → Nat
 | 2 => 3 | 3 => 2 | 10 => 3 | 11 => 2 | 12 => 3 | 13 => 2 | _ => 1
noncomputable def cc (n : Nat) : Arguments := match (PySem.Challenge.pw_ij0042_01.main.body)[n]? with
 | some s => (match s with
  | .FunctionDef _ ps _ _ _ _ _ _ _ _ => ps
  | _ => default)
 | Option.none => default
noncomputable def dQ (n : Nat) : List Str := (cc (bx n)).args.map (·.arg)
theorem wJ : ∀ n, n < 15 → bs (bx n) = some (bq n) :=
 c15 (P := fun n => n < 15 → bs (bx n) = some (bq n)) (fun _ => AV) (fun _ => AW) (fun _ => AX) (fun _ => AY) (fun _ => zB) (fun _ => zC) (fun _ => zD) (fun _ => zE) (fun _ => zF) (fun _ => zG) (fun _ => zH) (fun _ => zI) (fun _ => zJ) (fun _ => zK) (fun _ => zL)
  (fun n h => absurd h (Nat.not_lt.2 (Nat.le_add_left 15 n)))
theorem wK {n : Nat} {args : List V} {v : V} : cm n args v → n < 15 := by
 refine c15 (P := fun n => cm n args v → n < 15) ?_ ?_ ?_ ?_ ?_ ?_ ?_ ?_ ?_ ?_ ?_ ?_ ?_ ?_ ?_ (fun _ h => h.elim) n
 all_goals exact fun _ => by decide
theorem bO {α : Type} {l m : List α} {k : Nat} (e : l = m) (h : m.length = k) : l.length = k := e ▸ h
theorem mJ {n : Nat} {args : List V} {v : V} : cm n args v → args.length = ed n := by
 refine c15 (P := fun n => cm n args v → args.length = ed n) ?_ ?_ ?_ ?_ ?_ ?_ ?_ ?_ ?_ ?_ ?_ ?_ ?_ ?_ ?_ (fun _ h => h.elim) n
 ·exact fun h => h.elim fun _ h => bO h.2.1 rfl
 ·exact fun h => h.elim fun _ h => bO h.2.1 rfl
 ·exact fun h => h.elim fun _ h => h.elim fun _ h => bO h.2.1 rfl
 ·exact fun h => h.elim fun _ h => h.elim fun _ h => bO h.2.1 rfl
 ·exact fun h => h.elim fun _ h => bO h.2.1 rfl
 ·exact fun h => h.elim fun _ h => bO h.2.1 rfl
 ·exact fun h => h.elim fun _ h => bO h.2.1 rfl
 ·exact fun h => h.elim fun _ h => bO h.2.1 rfl
 ·exact fun h => h.elim fun _ h => bO h.2.1 rfl
 ·exact fun h => h.elim fun _ h => bO h.2.1 rfl
 ·exact fun h => h.elim fun _ h => h.elim fun _ h => h.elim fun _ h => bO h.2.2.2.1 rfl
 ·exact fun h => h.elim (fun h => h.elim fun _ h => h.elim fun _ h => bO h.2.2.1 rfl) fun h => h.elim fun _ h => h.elim fun _ h => h.elim fun _ h => h.elim fun _ h => bO h.2.2.2.2.2.1 rfl
 ·exact fun h => h.elim fun _ h => h.elim fun _ h => h.elim fun _ h => bO h.2.2.1 rfl
 ·exact fun h => h.elim (fun h => h.elim fun _ h => h.elim fun _ h => bO h.2.2.1 rfl) fun h => h.elim fun _ h => h.elim fun _ h => h.elim fun _ h => h.elim fun _ h => bO h.2.2.2.2.2.1 rfl
 ·exact fun h => h.elim fun _ h => bO h.2.1 rfl
theorem ug {α : Type} {l : List α} (h : l.length = 1) : ∃ a, l = [a] := by
 cases l with
 | nil => cases h
 | cons a r => cases r with
  | nil => exact ⟨a, rfl⟩
  | cons b r => cases h
theorem AB {α : Type} {l : List α} (h : l.length = 3) : ∃ a b c, l = [a, b, c] := by
 cases l with
 | nil => cases h
 | cons a r =>
  obtain ⟨b, c, rfl⟩ := ic (Nat.succ.inj h)
  exact ⟨a, b, c, rfl⟩
theorem AC : ∀ n, n < 15 → ∀ args : List V, args.length = ed n → eV (Γof (ay (bx n)).2) (dQ n) (args ++ dw n) = bT n args := by
 refine c15 (P := fun n => n < 15 → ∀ args : List V, args.length = ed n → eV (Γof (ay (bx n)).2) (dQ n) (args ++ dw n) = bT n args) ?_ ?_ ?_ ?_ ?_ ?_ ?_ ?_ ?_ ?_ ?_ ?_ ?_ ?_ ?_ (fun n h => absurd h (Nat.not_lt.2 (Nat.le_add_left 15 n)))
 all_goals intro _ l h
 all_goals first | (obtain ⟨a, rfl⟩ := ug h; kernel_rfl) | (obtain ⟨a, b, rfl⟩ := ic h; kernel_rfl) | (obtain ⟨a, b, c, rfl⟩ := AB h; kernel_rfl)
theorem bx8 : ∀ n, n < 15 → (bx n == 8) = true → n = 2 := by decide
section
variable {prog : Program} {w : World} {g : Heap} {P pc sp : Addr}
abbrev cxL (prog : Program) (w : World) (g : Heap) (P pc sp : Addr) (k : Nat) : Cx := ⟨prog, w, g, P, pc, sp, Low k⟩
theorem nX {K : Frag} {mg mb : Str → Option Value} {pt qm : Addr} {fa : List Addr} (H : At K mg mb g) (F : gf K P pc sp pt qm fa) (T : CxT (cxL prog w g P pc sp 0)) (fb : List Addr) (hfb : ∀ (n : Nat) (a : Addr), fa[n]? = some a → fb[n]? = some a)
  (hD : ∀ (n : Nat), n < 15 → ∀ (a : Addr), fb[n]? = some a → gv (cxL prog w g P pc sp 0) a (ay (bx n)).1 (ay (bx n)).2 (dQ n) (ed n) (dw n))
  (hpc : ∀ (a : Addr), fb[2]? = some a → ∀ o fd, g.get? a = some o → o.data = .func fd → fd.code = .ref pc) :
  ∀ (k n : Nat) (a : Addr) (args : List V) (v : V), fb[n]? = some a → cm n args v → lev n < k → kU (cxL prog w g P pc sp 0) a k args v
 | 0, _, _, _, _, _, _, h => absurd h (Nat.not_lt_zero _)
 | k + 1, n, a, args, v, ha, hs, hl => by
  have ih := nX H F T fb hfb hD hpc k
  have hn := wK hs
  have D := hD n hn a ha
  have T' : CxT (cxL prog w g P pc sp (lev n)) := ⟨T.hd, T.lim, T.mg⟩
  have D' : gv (cxL prog w g P pc sp (lev n)) a (ay (bx n)).1 (ay (bx n)).2 (dQ n) (ed n) (dw n) := ⟨D.ob, D.lim, D.kind, D.co, D.gen, D.psn, D.psk, D.nf, D.nn, D.dot⟩
  have hcode : aO (cS (bx n == 8) 40 (Γof (ay (bx n)).2) (ay (bx n)).2.names) (ay (bx n)).1 = some (bq n) := wJ n hn
  generalize hbody : (ay (bx n)).1 = body at D' hcode
  have hloc := AC n hn args (mJ hs)
  generalize hscope : (ay (bx n)).2 = scope at D' hcode hloc
  refine zw (cx := cxL prog w g P pc sp (lev n)) (sp := bx n == 8) (code := bq n) D' hcode (fun A hr => AA (cx := cxL prog w g P pc sp (lev n)) H F T' rfl hr _ fun n' a' ha' => ⟨?_, fun args' v' hq => ?_⟩) (fun h8 o fd ho hf => ?_) (mJ hs) ?_
  ·have hb := hfb _ _ ha'
   have hn' : n' < 15 := by
    have h1 := (List.getElem?_eq_some_iff.1 ha').1
    have h2 : fa.length = 14 := by
     have := congrArg List.length F.fns
     rw [List.length_map, List.length_map] at this
     exact this.symm.trans rfl
    exact Gj h1 h2
   obtain ⟨o, fd, h1, h2, _⟩ := (hD n' hn' a' hb).ob
   exact ⟨o, fd, h1, h2⟩
  ·exact ih n' a' args' v' (hfb _ _ ha') hq.1 (Nat.lt_of_lt_of_le hq.2 (Nat.le_of_lt_succ hl))
  ·obtain rfl := bx8 n hn h8
   exact hpc a ha o fd ho hf
  ·have h := wG _ _ _ hs
   rw [hloc]
   exact h
end
end Mine
namespace Mine
open PySem PySem.W PySem.Calls PyProof.Rows
noncomputable def rQ (n : Nat) : Bool :=
 (ay (bx n)).2.kind == .function && !(ay (bx n)).2.isCoroutine && !(ay (bx n)).2.isGenerator && decide (dQ n).Nodup && (dQ n).all (fun x => eg ((ay (bx n)).2.names.lookup x) || ot ((ay (bx n)).2.names.lookup x)) &&
  (ay (bx n)).2.names.all (fun p => !lr p.2) && decide ((ay (bx n)).2.names.map (·.1)).Nodup && (ah (Γof (ay (bx n)).2) ".0").isNone
theorem wL : ∀ n, n < 15 → rQ n = true := by decide +kernel
noncomputable abbrev fA (nm : Str) (n : Nat) (pm cd doc dV : Value) : FuncData := { docDef nm (cc (bx n)) (ay (bx n)).1 (ay (bx n)).2 pm cd doc with defaults := dV, kwdefaults := .none }
theorem uh (nm : Str) (pm cd doc : Value) : ∀ n, n < 15 → n ≠ 6 → ∀ rs : List Value, rs.length = ed n → bindArgs (fA nm n pm cd doc .none) ⟨rs, []⟩ = pure ((dQ n).zip (rs ++ [])) := by
 refine c15 (P := fun n => n < 15 → n ≠ 6 → ∀ rs : List Value, rs.length = ed n → bindArgs (fA nm n pm cd doc .none) ⟨rs, []⟩ = pure ((dQ n).zip (rs ++ []))) ?_ ?_ ?_ ?_ ?_ ?_ ?_ ?_ ?_ ?_ ?_ ?_ ?_ ?_ ?_ (fun n h => absurd h (Nat.not_lt.2 (Nat.le_add_left 15 n)))
 all_goals intro _ h6 l h
 all_goals first | exact absurd rfl h6 | (obtain ⟨a, rfl⟩ := ug h; kernel_rfl) | (obtain ⟨a, b, rfl⟩ := ic h; kernel_rfl) | (obtain ⟨a, b, c, rfl⟩ := AB h; kernel_rfl)
section
variable {cx : Cx}
theorem mK {n : Nat} (hn : n < 15) {nm : Str} {a : Addr} {o : Obj} {pm cd doc dV : Value} (ho : cx.g.get? a = some o) (hd : o.data = .func (fA nm n pm cd doc dV)) (hc : cx.g.CodeRec cd nm) (hl : cx.g.NoLimit)
  (hb : ∀ (F : PH), (∀ a o, cx.g.get? a = some o → F a = some o) → ∃ tl, VRs cx.sp F [] (dw n) tl ∧
   ∀ (rs : List Value) (A : Around) (s : Shared) (Q : List (Str × Value) → Shared → Prop) (E : Value → Shared → Prop), rs.length = ed n → (∀ a o, cx.g.get? a = some o → s.heap.get? a = some o) → Q ((dQ n).zip (rs ++ tl)) s → wpAny (model cx.prog cx.w) A (bindArgs (fA nm n pm cd doc dV) ⟨rs, []⟩) Q E s) :
  gv cx a (ay (bx n)).1 (ay (bx n)).2 (dQ n) (ed n) (dw n) := by
 have h := wL n hn
 unfold rQ at h
 simp only [Bool.and_eq_true, beq_iff_eq, Bool.not_eq_true', decide_eq_true_eq, List.all_eq_true, Bool.or_eq_true, Option.isNone_iff_eq_none] at h
 obtain ⟨⟨⟨⟨⟨⟨⟨h1, h2⟩, h3⟩, h4⟩, h5⟩, h6⟩, h7⟩, h8⟩ := h
 exact ⟨⟨o, _, ho, hd, rfl, rfl, rfl, rfl, rfl, hc, hb⟩, hl, h1, h2, h3, h4, fun x hx => (h5 x hx).imp de lO, fun x k hx => kp (h6 (x, k) hx), h7, h8⟩
theorem AD {n : Nat} (h6 : n ≠ 6) : dw n = [] := by
 unfold dw
 split
 ·exact absurd rfl h6
 ·rfl
theorem ui {n : Nat} (hn : n < 15) (h6 : n ≠ 6) {nm : Str} {a : Addr} {o : Obj} {pm cd doc : Value} (ho : cx.g.get? a = some o) (hd : o.data = .func (fA nm n pm cd doc .none)) (hc : cx.g.CodeRec cd nm) (hl : cx.g.NoLimit) :
  gv cx a (ay (bx n)).1 (ay (bx n)).2 (dQ n) (ed n) (dw n) :=
 mK hn ho hd hc hl fun F _ => ⟨[], by rw [AD h6]; trivial, fun rs A s Q E hr _ q => by rw [uh nm pm cd doc n hn h6 rs hr]; exact wpAny_pure q⟩
end
end Mine
namespace Mine
open PySem PySem.W PySem.Calls PyProof.Rows
theorem Bn {M : Model} {A : Around} {E : Value → Shared → Prop} {s : Shared} (nm : Str) (pm cd doc : Value) {ax : Addr} {ox : Obj} {v r : Value} {n : Nat} {Q : List (Str × Value) → Shared → Prop} (h : s.heap.get? ax = some ox) (hd : ox.data = .seq #[v] n) (q : Q ((dQ 6).zip [r, v]) s) :
  wpAny M A (bindArgs (fA nm 6 pm cd doc (.ref ax)) ⟨[r], []⟩) Q E s :=
 BindsTo.of_defaults (binds := (dQ 6).zip [r, v]) (fd := fA nm 6 pm cd doc (.ref ax)) rfl h hd rfl (by kernel_rfl) M A E Q q
theorem wM {cx : Cx} {nm : Str} {a ax : Addr} {o ox : Obj} {pm cd doc : Value} {t : Tok} {n : Nat} (ho : cx.g.get? a = some o) (hd : o.data = .func (fA nm 6 pm cd doc (.ref ax))) (hc : cx.g.CodeRec cd nm) (hl : cx.g.NoLimit)
  (hx : cx.g.get? ax = some ox) (hxd : ox.data = .seq #[.str ⟨#[10]⟩ t] n) : gv cx a (ay (bx 6)).1 (ay (bx 6)).2 (dQ 6) (ed 6) (dw 6) :=
 mK (by decide) ho hd hc hl fun F _ => ⟨[.str ⟨#[10]⟩ t], ⟨⟨by decide, t, rfl⟩, trivial⟩, fun rs A s Q E hr hg q => by
  obtain ⟨r, rfl⟩ := ug (show rs.length = 1 from hr)
  exact Bn nm pm cd doc (hg _ _ hx) hxd q⟩
end Mine
namespace Mine
open PySem PySem.W PySem.Calls PyProof.Rows
theorem ng : j2 4 callerA := ⟨rfl, by decide, by decide⟩
theorem wN {sp : Addr} {F : PH} {μ : List Addr} {vs : List Value} {l : List Int} (h : IntsAre vs l) : VRs sp F μ (l.map V.int) vs := by
 induction h with
 | nil => trivial
 | cons n t _ ih => exact ⟨⟨t, rfl⟩, ih⟩
noncomputable def mM (h : Heap) (n : Nat) (a : Addr) : Prop := ∃ nm o pm cd doc dV, h.get? a = some o ∧ o.data = .func (fA nm n pm cd doc dV) ∧ h.CodeRec cd nm ∧
 ((n ≠ 6 ∧ dV = .none) ∨ (n = 6 ∧ ∃ ax ox t k, dV = .ref ax ∧ h.get? ax = some ox ∧ ox.data = .seq #[.str ⟨#[10]⟩ t] k))
theorem AE {cx : Cx} {n : Nat} {a : Addr} (hn : n < 15) (h : mM cx.g n a) (hl : cx.g.NoLimit) : gv cx a (ay (bx n)).1 (ay (bx n)).2 (dQ n) (ed n) (dw n) := by
 obtain ⟨nm, o, pm, cd, doc, dV, h1, h2, h3, h4⟩ := h
 rcases h4 with ⟨h4, rfl⟩ | ⟨rfl, ax, ox, t, k, rfl, h5, h6⟩
 ·exact ui hn h4 h1 h2 h3 hl
 ·exact wM h1 h2 h3 hl h5 h6
theorem uj {prog : Program} {w : World} {K : Frag} {mg mb : Str → Option Value} {P pc sp pt qm : Addr} {fa fb : List Addr} {s : Shared} (H : At K mg mb s.heap) (F : gf K P pc sp pt qm fa) (lim : s.heap.NoLimit)
  (hbm : ∃ bm ob, mg "__builtins__" = some (.ref bm) ∧ bm ≠ builtinsNs ∧ s.heap.get? bm = some ob ∧ ob.cls = .type "module" ∧ ob.dict = some builtinsNs ∧ ob.data = .plain)
  (hP : s.heap.get? P = some (tabObj #[])) (hfb : ∀ (n : Nat) (a : Addr), fa[n]? = some a → fb[n]? = some a) (hfn : ∀ (n : Nat), n < 15 → ∀ (a : Addr), fb[n]? = some a → mM s.heap n a)
  (hpc : ∀ (a : Addr), fb[2]? = some a → ∀ o fd, s.heap.get? a = some o → o.data = .func fd → fd.code = .ref pc)
  {L law : Addr} {vs : List Value} {ns0 : List Int} (hlaw : fb[14]? = some law) (hg : s.gens = #[]) (hL : s.heap.IsList L vs.toArray) (hi : IntsAre vs ns0) (hlen : ns0.length ≤ 63) {Q E : Value → Shared → Prop}
  (q : ∀ s', OldK s.heap s'.heap → s'.os = s.os → AllBare s'.gens → Q (.bool true) s') : wpAny (model prog w) callerA (call (.ref law) [.ref L]) Q E s := by
 have up : ∀ a o, a ≠ P → s.heap.get? a = some o → (s.heap.hide P).get? a = some o := fun a o ha e => (Heap.hide_ne s.heap ha).trans e
 have dn : ∀ a o, (s.heap.hide P).get? a = some o → s.heap.get? a = some o := fun a o e => by
  by_cases ha : a = P
  ·rw [ha, Heap.hide_self] at e; cases e
  ·exact (Heap.hide_ne s.heap ha).symm.trans e
 have noP : ∀ o, s.heap.get? P = some o → o = tabObj #[] := fun o e => Option.some.inj (e.symm.trans hP)
 have ns : ∀ {a : Addr} {m : Str → Option Value}, s.heap.Ns a m → (s.heap.hide P).Ns a m := fun {a m} h => by
  obtain ⟨o, es, ep, e, hd, r⟩ := h
  refine ⟨o, es, ep, up a o (fun q => ?_) e, hd, r⟩
  rw [q] at e
  rw [noP _ e] at hd; cases hd
 have cr : ∀ {cd : Value} {nm : Str}, s.heap.CodeRec cd nm → (s.heap.hide P).CodeRec cd nm := fun {cd nm} h => by
  obtain ⟨c, o, vs, t, e, h1, h2, h3⟩ := h
  refine ⟨c, o, vs, t, e, up c o (fun q => ?_) h1, h2, h3⟩
  rw [q] at h1
  rw [noP _ h1] at h2; cases h2; cases h3
 have X' : K.In (s.heap.hide P) := fun a o e => up a o (fun q => by rw [q, F.pno] at e; exact ab e) (H.X a o e)
 have H' : At K mg mb (s.heap.hide P) := ⟨X', ns H.g, ns H.b, H.bt⟩
 have lim' : (s.heap.hide P).NoLimit := by obtain ⟨mc, h1, h2⟩ := lim; exact ⟨mc, ns h1, h2⟩
 obtain ⟨bm, ob, b1, b2, b3, b4, b5, b6⟩ := hbm
 have T : CxT (cxL prog w (s.heap.hide P) P pc sp 0) := ⟨codeHd_of_K X' F.cod, lim', mg, bm, ob, ns H.g, b1, b2, up _ _ (fun q => by rw [q] at b3; rw [noP _ b3] at b4; cases b4) b3, b4, b5, b6⟩
 have fnat : ∀ (n : Nat), n < 15 → ∀ (a : Addr), fb[n]? = some a → mM (s.heap.hide P) n a := fun n hn a ha => by
  obtain ⟨nm, o, pm, cd, doc, dV, h1, h2, h3, h4⟩ := hfn n hn a ha
  refine ⟨nm, o, pm, cd, doc, dV, up a o (fun q => ?_) h1, h2, cr h3, ?_⟩
  ·rw [q] at h1; rw [noP _ h1] at h2; cases h2
  ·rcases h4 with h4 | ⟨e, ax, ox, t, k, h5, h6, h7⟩
   ·exact .inl h4
   ·refine .inr ⟨e, ax, ox, t, k, h5, up ax ox (fun q => ?_) h6, h7⟩
    rw [q] at h6; rw [noP _ h6] at h7; cases h7
 have S := nX (prog := prog) (w := w) H' F T fb hfb (fun n hn a ha => AE hn (fnat n hn a ha) lim') (fun a ha o fd e hd => hpc a ha o fd (dn _ _ e) hd) 4 14 law [.lst (ns0.map V.int)] (.bool true) hlaw ⟨ns0, hlen, rfl, rfl⟩ (by decide)
 have hLP : L ≠ P := fun q => by
  obtain ⟨o, e, hc, _⟩ := hL
  rw [q] at e; rw [noP _ e] at hc; cases hc
 refine S callerA s (s.heap.hide P).get? [.ref L] Q E ng dn (Heap.hide_self _ _) (fun _ _ e => e) ⟨#[], hP, trivial⟩ ⟨⟨by rw [List.length_map]; exact Nat.le_trans hlen (by decide), L, vs, rfl, ?_, wN hi⟩, trivial⟩ fun F' s' r t hz hFP tab vr => ?_
 ·obtain ⟨o, e, hc, n, hd⟩ := hL
  exact ⟨o, n, up _ _ hLP e, hc, hd⟩
 ·subst vr
  have keep : ∀ b o, b ≠ P → s.heap.get? b = some o → s'.heap.get? b = some o := fun b o hb e => t.keep b o e (by simp) hb
  obtain ⟨ps, hps, _⟩ := tab
  have hd0 : CodeHd s.heap pc P := codeHd_of_K H.X F.cod
  refine q s' ⟨fun b o e => ?_, fun b o e => ?_⟩ t.os (t.gens (AllBare.of_eq hg))
  ·by_cases hb : b = P
   ·subst hb
    rw [noP _ e]
    exact .inr (.inl ⟨(hd0.tab hP).isCodeTable, rfl, #[], ps, rfl, by rw [hps]; simp⟩)
   ·exact .inl (keep b o hb e)
  ·by_cases hb : b = P
   ·subst hb; exact ⟨_, hps⟩
   ·exact ⟨o, keep b o hb e⟩
end Mine
namespace Mine
open PySem PySem.W PySem.Calls PyProof.Rows
noncomputable def iO (n : Nat) : Str := (defNames ++ [("law" : Str)])[n]?.getD ("" : Str)
theorem wO : ∀ n, n < 15 → n ≠ 6 → (cc (bx n)).defaults.isEmpty = true := by decide +kernel
theorem u2 : ((cc (bx 6)).defaults.map c5) = [some ("NL" : Str)] := by kernel_rfl
theorem uk (x : Str) (p : Pos) : literalOfW? (.Name x p) = Option.none := by rfl
theorem wP {q : Program} {loose : List Str} {R : WRecords} {XP : (Str → Option Value) → Heap → Prop} {w : World} {s₀ : Shared} {mg mb : Str → Option Value} {h : Heap} (G : Ground q loose R XP w s₀ mg mb h) {n : Nat} {a : Addr} {t : Tok} (hn : n < 15)
  (e : (defOf q (iO n)).map (fun e => (e.1.params, e.1.body, e.1.scope, e.2)) = some (cc (bx n), (ay (bx n)).1, (ay (bx n)).2, [])) (hm : mg (iO n) = some (.ref a)) (hnl : mg "NL" = some (.str ⟨#[10]⟩ t)) :
  mM h n a := by
 cases hd : defOf q (iO n) with
 | none => rw [hd] at e; exact ab e
 | some d =>
  obtain ⟨d, kw⟩ := d
  rw [hd] at e
  have e2 := Option.some.inj e
  simp only [Prod.mk.injEq] at e2
  obtain ⟨e3, e4, e5, rfl⟩ := e2
  obtain ⟨a', o, pm, cd, doc, dV, kV, h1, h2, h3, h4, h5⟩ := G.fn hd
  rw [hm] at h1
  cases h1
  have hk : kV = .none := by
   rcases h5.kw with ⟨_, h⟩ | ⟨h, _⟩
   ·exact h
   ·exact absurd rfl h
  subst hk
  rw [e3, e4, e5] at h3
  refine ⟨d.name, o, pm, cd, doc, dV, h2, h3, h4, ?_⟩
  by_cases h6 : n = 6
  ·refine .inr ⟨h6, ?_⟩
   subst h6
   rcases h5.pos with ⟨h, _⟩ | ⟨_, ax, ox, vs, k, hv, hx, _, hs, hds⟩
   ·rw [e3] at h
    have := u2
    rw [h] at this; cases this
   ·rw [e3] at hds
    have h7 := u2
    cases hl : (cc (bx 6)).defaults with
    | nil => rw [hl] at h7; cases h7
    | cons x r =>
     rw [hl] at h7 hds
     cases r with
     | cons y r => simp at h7
     | nil =>
      obtain ⟨p, rfl⟩ := ch (List.cons.inj h7).1
      generalize hvs : vs.toList = l at hds
      cases hds with
      | cons h8 h9 =>
       cases h9
       rcases h8 with ⟨_, h8, _⟩ | ⟨c, p', h8, h9⟩
       ·rw [uk] at h8; exact ab h8
       ·(injection h8 with h8; subst h8)
        rw [hnl] at h9
        (injection h9 with h9; subst h9)
        refine ⟨ax, ox, t, k, hv, hx, ?_⟩
        rw [hs]
        congr 1
        have : vs = vs.toList.toArray := by simp
        rw [this, hvs]
  ·refine .inl ⟨h6, ?_⟩
   rcases h5.pos with ⟨_, h⟩ | ⟨h, _⟩
   ·exact h
   ·rw [e3] at h
    exact absurd (List.isEmpty_iff.1 (wO n hn h6)) h
noncomputable def fB (K : Frag) (a : Addr) : Option FuncData := match K.lookup a with
 | some o => (match o.data with | .func fd => some fd | _ => Option.none)
 | Option.none => Option.none
theorem nY {K : Frag} {a : Addr} {fd : FuncData} (h : fB K a = some fd) : ∃ o, K.lookup a = some o ∧ o.data = .func fd := by
 unfold fB at h
 cases e : K.lookup a with
 | none => rw [e] at h; exact ab h
 | some o =>
  rw [e] at h
  simp only at h
  split at h
  ·rename_i f hf; cases h; exact ⟨o, rfl, hf⟩
  ·exact ab h
noncomputable def jE (K : Frag) (fd : FuncData) : Bool := match fd.code with
 | .ref c => (match K.lookup c with
  | some o => (match o.data with | .fields vs => (match vs[1]? with | some v => (match v with | .str q _ => q == fd.name | _ => false) | Option.none => false) | _ => false)
  | Option.none => false)
 | _ => false
theorem qb {K : Frag} {h : Heap} {fd : FuncData} (X : K.In h) (e : jE K fd = true) : h.CodeRec fd.code fd.name := by
 unfold jE at e
 split at e
 ·rename_i c hc
  obtain ⟨o, h1, h2⟩ := dW e
  split at h2
  ·rename_i vs hv
   split at h2
   ·rename_i v hvs
    split at h2
    ·rename_i q t
     rw [beq_iff_eq] at h2
     subst h2
     exact ⟨c, o, vs, t, hc, X _ _ h1, hv, hvs⟩
    ·exact aH h2
   ·exact aH h2
  ·exact aH h2
 ·exact aH e
noncomputable def jF (K : Frag) (fd : FuncData) : Bool := match fd.defaults with
 | .ref c => (match K.lookup c with
  | some o => (match o.data with | .seq vs _ => (match vs.toList with | [] => false | v :: r => r.isEmpty && (match v with | .str q _ => q == (⟨#[10]⟩ : Str) | _ => false)) | _ => false)
  | Option.none => false)
 | _ => false
theorem rR {K : Frag} {h : Heap} {fd : FuncData} (X : K.In h) (e : jF K fd = true) : ∃ ax ox t k, fd.defaults = .ref ax ∧ h.get? ax = some ox ∧ ox.data = .seq #[.str ⟨#[10]⟩ t] k := by
 unfold jF at e
 split at e
 ·rename_i c hc
  obtain ⟨o, h1, h2⟩ := dW e
  split at h2
  ·rename_i vs n hv
   split at h2
   ·exact aH h2
   ·rename_i v r hvs
    rw [Bool.and_eq_true, List.isEmpty_iff] at h2
    obtain ⟨rfl, h2⟩ := h2
    split at h2
    ·rename_i q t
     rw [beq_iff_eq] at h2
     subst h2
     refine ⟨c, o, t, n, hc, X _ _ h1, ?_⟩
     rw [hv]
     have : vs = vs.toList.toArray := by simp
     rw [this, hvs]
    ·exact aH h2
  ·exact aH h2
 ·exact aH e
theorem AF {K : Frag} {h : Heap} {a : Addr} (X : K.In h) (e1 : (fB K a).map (fun fd => fA fd.name 6 fd.pyModule fd.code fd.doc fd.defaults) = fB K a) (e2 : (fB K a).map (fun fd => jE K fd && jF K fd) = some true) : mM h 6 a := by
 cases hf : fB K a with
 | none => rw [hf] at e2; exact ab e2
 | some fd =>
  rw [hf] at e1 e2
  obtain ⟨o, h1, h2⟩ := nY hf
  have e3 := Option.some.inj e1
  have e4 := Option.some.inj e2
  rw [Bool.and_eq_true] at e4
  obtain ⟨ax, ox, t, k, h5, h6, h7⟩ := rR X e4.2
  exact ⟨fd.name, o, fd.pyModule, fd.code, fd.doc, fd.defaults, X _ _ h1, by rw [h2]; exact congrArg Data.func e3.symm, qb X e4.1, .inr ⟨rfl, ax, ox, t, k, h5, h6, h7⟩⟩
noncomputable def ul (K : Frag) (a c : Addr) : Bool := (fB K a).any fun fd => match fd.code with
 | .ref c' => c' == c
 | _ => false
theorem wQ {K : Frag} {h : Heap} {a c : Addr} (X : K.In h) (e : ul K a c = true) {o : Obj} {fd : FuncData} (ho : h.get? a = some o) (hd : o.data = .func fd) : fd.code = .ref c := by
 unfold ul at e
 cases hf : fB K a with
 | none => rw [hf] at e; exact aH e
 | some fd' =>
  rw [hf] at e
  obtain ⟨o', h1, h2⟩ := nY hf
  have e2 := X _ _ h1
  rw [ho] at e2
  (injection e2 with e2; subst e2)
  rw [hd] at h2
  (injection h2 with h2; subst h2)
  have e' : (match fd.code with | .ref c' => c' == c | _ => false) = true := e
  split at e'
  ·rename_i c' hc
   rw [hc, beq_iff_eq.1 e']
  ·cases e'
end Mine
namespace Mine
open PySem PySem.W PySem.Calls PyProof.Rows
namespace H
abbrev pg : Program := PySem.Challenge.rw_ij0042_01.row.toRowW.prog
noncomputable def r (n : Nat) : Value := .ref n
noncomputable def s (x : String) (n : Nat) : Value := .str (Str.ofString x) n
noncomputable def k (n : Int) : Value := .int n 0
noncomputable def i (n : Int) (t : Nat) : Value := .int n t
noncomputable def b (x : String) : Value := .builtin x
noncomputable def t (x : String) : Value := .type x
noncomputable def v0 : Value := .none
noncomputable def v1 : Value := .bool true
noncomputable def v2 : Value := .bool false
noncomputable def oD (P : Params) (c : Value) (es : List (String × Nat × Value)) (n : Nat) : Obj := ⟨c, none, .dict (es.map fun x => ⟨PyData.keyHash P (Str.ofString x.1), s x.1 x.2.1, x.2.2⟩).toArray n, #[]⟩
noncomputable def oF (c : Value) (vs : List Value) : Obj := ⟨c, none, .fields vs.toArray, #[]⟩
noncomputable def oS (c : Value) (vs : List Value) (n : Nat) : Obj := ⟨c, none, .seq vs.toArray n, #[]⟩
noncomputable def oT (vs : List Value) : Obj := oS (t "tuple") vs 0
noncomputable def tk : List String → Nat → List Value
 | [], _ => []
 | x :: l, n => s x n :: tk l (n + 1)
noncomputable def fo (n : Nat) (nm : String) (g : Addr) (df pm cd : Value) : Obj → Obj := fun o => { o with data := .func ⟨Str.ofString nm, Str.ofString nm, cc (bx n), .stmts (ay (bx n)).1, (ay (bx n)).2, g, [], df, .none, .none, pm, none, cd, .none, 0⟩ }
noncomputable def co (nm : String) (tk ln ar a : Nat) (x y z : Value) (t2 : Nat) : Obj := oF (t "code") [s nm tk, s nm (tk + 1), s "/claim/cut.py" (tk + 2), k ln, k ar, k 0, k 0, k 3, r a, v1, k 276, r (a + 1), v0, x, y, z, k t2, k ln, s "/claim/cut.py" (t2 + 1)]
noncomputable def dA (n : Nat) (nm : String) (a t0 ln ar : Nat) (ns : List String) (pm df : Value) : List Obj := [oT [], oF v0 [], oT (tk ns (t0 + 3)), oT [], fo n nm 0 v0 v0 v0 ⟨v0, none, .plain, #[]⟩, co nm t0 ln ar a (r (a + 2)) (r (a + 3)) (r (a + 4)) (t0 + 3 + ns.length), fo n nm 3 df pm (r (a + 5)) ⟨t "function", none, .plain, #[]⟩]
noncomputable def dB (n : Nat) (nm : String) (a t0 ln ar : Nat) (pm df : Value) : List Obj := [oT [], oF v0 [], fo n nm 0 v0 v0 v0 ⟨v0, none, .plain, #[]⟩, co nm t0 ln ar a v0 v0 (r (a + 2)) (t0 + 3), fo n nm 3 df pm (r (a + 3)) ⟨t "function", none, .plain, #[]⟩]
noncomputable def hx (n : Nat) : Nat := if n < 10 then 48 + n else 55 + n
noncomputable def hq (n : Nat) : Value := .str ⟨#[61, hx (n / 16), hx (n % 16)]⟩ (528 + 4 * n)
noncomputable def ho (l : List Nat) (t0 : Nat) (n : Nat) : Value := match l.idxOf? n with
 | some j => .str ⟨#[n]⟩ (t0 + 3 * j)
 | none => hq n
noncomputable def hh : Nat → Value := ho ([45, 33, 42, 43, 47] ++ List.range' 97 26 ++ List.range' 65 26 ++ List.range' 48 10) 1576
noncomputable def hb : Nat → Value := ho (List.range' 32 29 ++ List.range' 62 65 ++ [9]) 1781
noncomputable def oQ (f : Nat → Value) (n : Nat) : Obj := oS (t "list") ((List.range 256).map f) n
noncomputable def GM : Obj := ⟨t "dict", none, .dict ([40, 41, 91, 93, 123, 125, 63, 42, 43, 45, 124, 94, 36, 92, 46, 38, 126, 35, 32, 9, 10, 13, 11, 12].zipIdx.map fun x => ⟨(x.1 : Nat), .int (x.1 : Nat) (334 + 6 * x.2), .str ⟨#[92, x.1]⟩ (338 + 6 * x.2)⟩).toArray 24, #[]⟩
noncomputable def o11 (P : Params) (l : List Value) : Obj := oD P (t "dict") [("__name__", 247, s "_sre" 246), ("__doc__", 248, v0), ("__package__", 250, s "" 249), ("__loader__", 251, l.getD 0 v0), ("__spec__", 252, l.getD 1 v0), ("compile", 253, b "_sre.compile"), ("template", 254, l.getD 2 v0), ("getcodesize", 255, l.getD 3 v0), ("ascii_iscased", 256, l.getD 4 v0), ("unicode_iscased", 257, l.getD 5 v0), ("ascii_tolower", 258, l.getD 6 v0), ("unicode_tolower", 259, l.getD 7 v0), ("MAGIC", 261, i 20230612 260), ("CODESIZE", 263, i 4 262), ("MAXREPEAT", 265, i 4294967295 264), ("MAXGROUPS", 267, i 1073741823 266), ("copyright", 269, s " SRE 2.2.2 Copyright (c) 1997-2002 by Secret Labs AB " 268)] 17
noncomputable def mN : List (String × Nat × Value) := [("__doc__", 166, v0), ("__package__", 167, v0), ("__loader__", 168, b "__main__.__loader__#opaque"), ("__spec__", 169, v0), ("__annotations__", 170, r 6), ("__builtins__", 171, r 4), ("__file__", 173, s "/claim/cut.py" 172), ("__cached__", 174, v0), ("_sre", 275, r 12), ("_twin_re_1", 321, r 36), ("translate", 330, r 43), ("_special_chars_map", 478, r 45), ("escape", 485, r 55), ("_translate", 506, r 62), ("_join_translated_parts", 519, r 69), ("NL", 521, s "\n" 520), ("_QUOPRI_MAP", 1549, r 72), ("_QUOPRI_HEADER_MAP", 1550, r 77), ("_QUOPRI_BODY_MAP", 1551, r 79), ("ascii_lowercase", 1553, s "abcdefghijklmnopqrstuvwxyz" 1552), ("ascii_uppercase", 1555, s "ABCDEFGHIJKLMNOPQRSTUVWXYZ" 1554), ("ascii_letters", 1557, s "abcdefghijklmnopqrstuvwxyzABCDEFGHIJKLMNOPQRSTUVWXYZ" 1556), ("digits", 1559, s "0123456789" 1558), ("hexdigits", 1564, s "0123456789abcdefABCDEF" 1563), ("unquote", 2070, r 92), ("quote", 2077, r 99), ("_QUOPRI_BODY_ENCODE_MAP", 2078, r 101), ("decode", 2098, r 112), ("_law_half", 2106, r 117), ("_law_built", 2112, r 122), ("_law_read", 2118, r 127), ("_law_at", 2124, r 132), ("_law_shares", 2137, r 139), ("_law_fits", 2147, r 146), ("_law_told", 2153, r 151), ("law", 2159, r 156)]
noncomputable def oM (P : Params) (nm : String) (tk n : Nat) (x : List (String × Nat × Value)) (m : Nat) : Obj := oD P (t "dict") (("__name__", 165, s nm tk) :: (mN.take n ++ x)) m
noncomputable def tB : List Value := [k 4, k 0, r 42, k 10, k 0, r 54, k 17, k 0, r 61, k 79, k 0, r 68, k 121, k 0, r 91, k 123, k 0, r 98, k 129, k 0, r 111, k 160, k 0, r 116, k 173, k 0, r 121, k 201, k 0, r 126, k 242, k 0, r 131, k 250, k 0, r 138, k 269, k 0, r 145, k 276, k 0, r 150, k 295, k 0, r 155]
noncomputable def ol (P : Params) : List Obj := [boot_o_0 P,
 oD P (t "dict") [("builtins", 162, r 4), ("__main__", 163, r 5), ("_sre", 244, r 12)] 3,
 oD P v0 [("\x69mport.loaded._sre", 183, v1), ("class._frozen_importlib.BuiltinImporter", 185, r 14), ("watched.\x69mport", 206, r 18), ("class._frozen_importlib.ModuleSpec", 216, r 22), ("sys.modules.booked-epoch", 245, k 3), ("\x69mport.later-laid._sre", 270, v1), ("watched.library", 272, r 27), ("watched.library-objects", 0, s "\x0c" 0), ("watched.library-deep._sre", 273, s "\x04\x00\x00\x0b\x04\x00\x00\x0b\x04\x00\x00\x03\x04\x00\x00\x0b\x08\x04dict\x02" 0)] 9,
 oM P "law_ij0042_01" 2099 36 [] 39,
 boot_o_4 P,
 boot_o_5 P,
 boot_o_6 P,
 boot_o_7 P,
 boot_o_8 P,
 boot_o_9 P,
 boot_o_10 P,
 o11 P [b "off-the-table:_sre.__loader__:shared#opaque", b "off-the-table:_sre.__spec__:shared#opaque", b "off-the-table:_sre.template:shared#opaque", b "off-the-table:_sre.getcodesize:shared#opaque", b "off-the-table:_sre.ascii_iscased:shared#opaque", b "off-the-table:_sre.unicode_iscased:shared#opaque", b "off-the-table:_sre.ascii_tolower:shared#opaque", b "off-the-table:_sre.unicode_tolower:shared#opaque"],
 ⟨t "module", some 11, .plain, #[]⟩,
 oD P (t "dict") [("__module__", 189, s "_frozen_importlib" 186), ("__firstlineno__", 190, i 971 187), ("__doc__", 191, b "_frozen_importlib.BuiltinImporter.__doc__:str#opaque"), ("_ORIGIN", 192, s "built-in" 188), ("find_spec", 193, b "_frozen_importlib.BuiltinImporter.find_spec#opaque"), ("create_module", 194, b "_frozen_importlib.BuiltinImporter.create_module#opaque"), ("exec_module", 195, b "_frozen_importlib.BuiltinImporter.exec_module#opaque"), ("get_code", 196, b "_frozen_importlib.BuiltinImporter.get_code#opaque"), ("get_source", 197, b "_frozen_importlib.BuiltinImporter.get_source#opaque"), ("is_package", 198, b "_frozen_importlib.BuiltinImporter.is_package#opaque"), ("load_module", 199, b "_frozen_importlib.BuiltinImporter.load_module#opaque"), ("__static_attributes__", 200, r 15), ("__dict__", 202, r 16), ("__weakref__", 204, r 17)] 14,
 ⟨t "type", none, .cls { name := "BuiltinImporter", bases := [t "object"], mro := [r 14, t "object"], ns := 13, qualname := "BuiltinImporter" }, #[]⟩,
 oT [],
 oF (t "getset_descriptor") [s "__dict__" 201, r 14, b "function.__dict__", b "function.__dict__#set"],
 oF (t "getset_descriptor") [s "__weakref__" 203, r 14, b "ExceptionGroup.__weakref__", v0],
 oS v0 [k 13, s "\x06½\n__module__\x06º\x11_frozen_importlib\x06¾\x0f__firstlineno__\x04»\x00ϋ\x06¿\x07__doc__\t4_frozen_importlib.BuiltinImporter.__doc__:str#opaque\x06À\x07_ORIGIN\x06¼\x08built-in\x06Á\tfind_spec\t2_frozen_importlib.BuiltinImporter.find_spec#opaque\x06Â\x0dcreate_module\t6_frozen_importlib.BuiltinImporter.create_module#opaque\x06Ã\x0bexec_module\t4_frozen_importlib.BuiltinImporter.exec_module#opaque\x06Ä\x08get_code\t1_frozen_importlib.BuiltinImporter.get_code#opaque\x06Å\nget_source\t3_frozen_importlib.BuiltinImporter.get_source#opaque\x06Æ\nis_package\t3_frozen_importlib.BuiltinImporter.is_package#opaque\x06Ç\x0bload_module\t4_frozen_importlib.BuiltinImporter.load_module#opaque\x06È\x15__static_attributes__\x04\x00\x00\x0f\x06Ê\x08__dict__\x04\x00\x00\x10\x06Ì\x0b__weakref__\x04\x00\x00\x11" 0, v1, v1, s "" 205, k 21, s "\x06ã\n__module__\x06Ù\x11_frozen_importlib\x06ä\x0f__firstlineno__\x04Ú\x00Ȳ\x06å\x07__doc__\t/_frozen_importlib.ModuleSpec.__doc__:str#opaque\x06æ\x08__init__\t,_frozen_importlib.ModuleSpec.__init__#opaque\x06ç\x08__repr__\t,_frozen_importlib.ModuleSpec.__repr__#opaque\x06è\x06__eq__\t*_frozen_importlib.ModuleSpec.__eq__#opaque\x06é\x06cached\t*_frozen_importlib.ModuleSpec.cached#opaque\x06ê\x06parent\t*_frozen_importlib.ModuleSpec.parent#opaque\x06ë\x0chas_location\t0_frozen_importlib.ModuleSpec.has_location#opaque\x06ì\x15__static_attributes__\x04\x00\x00\x17\x06î\x08__dict__\x04\x00\x00\x18\x06ð\x0b__weakref__\x04\x00\x00\x19\x06ñ\x08__hash__\x00" 0, v1, v1, s "" 242] 1,
 oS (t "list") [] 0,
 oD P (t "dict") [("name", 208, s "_sre" 207), ("loader", 209, r 14), ("origin", 210, s "built-in" 184), ("loader_state", 211, v0), ("submodule_search_locations", 212, v0), ("_uninitialized_submodules", 213, r 19), ("_set_fileattr", 214, v2), ("_cached", 215, v0), ("_initializing", 243, v2)] 9,
 oD P (t "dict") [("__module__", 227, s "_frozen_importlib" 217), ("__firstlineno__", 228, i 562 218), ("__doc__", 229, b "_frozen_importlib.ModuleSpec.__doc__:str#opaque"), ("__init__", 230, b "_frozen_importlib.ModuleSpec.__init__#opaque"), ("__repr__", 231, b "_frozen_importlib.ModuleSpec.__repr__#opaque"), ("__eq__", 232, b "_frozen_importlib.ModuleSpec.__eq__#opaque"), ("cached", 233, b "_frozen_importlib.ModuleSpec.cached#opaque"), ("parent", 234, b "_frozen_importlib.ModuleSpec.parent#opaque"), ("has_location", 235, b "_frozen_importlib.ModuleSpec.has_location#opaque"), ("__static_attributes__", 236, r 23), ("__dict__", 238, r 24), ("__weakref__", 240, r 25), ("__hash__", 241, v0)] 13,
 ⟨t "type", none, .cls { name := "ModuleSpec", bases := [t "object"], mro := [r 22, t "object"], ns := 21, qualname := "ModuleSpec" }, #[]⟩,
 oT [s "_cached" 219, s "_set_fileattr" 220, s "_uninitialized_submodules" 221, s "loader" 222, s "loader_state" 223, s "name" 224, s "origin" 225, s "submodule_search_locations" 226],
 oF (t "getset_descriptor") [s "__dict__" 237, r 22, b "function.__dict__", b "function.__dict__#set"],
 oF (t "getset_descriptor") [s "__weakref__" 239, r 22, b "ExceptionGroup.__weakref__", v0],
 ⟨r 22, some 20, .plain, #[]⟩,
 oS v0 [k 11, .str ⟨#[6,247,8,95,95,110,97,109,101,95,95,6,246,4,95,115,114,101,6,248,7,95,95,100,111,99,95,95,0,6,250,11,95,95,112,97,99,107,97,103,101,95,95,6,249,0,6,251,10,95,95,108,111,97,100,101,114,95,95,4,0,0,14,6,252,8,95,95,115,112,101,99,95,95,4,0,0,26,6,253,7,99,111,109,112,105,108,101,9,12,95,115,114,101,46,99,111,109,112,105,108,101,6,254,8,116,101,109,112,108,97,116,101,9,13,95,115,114,101,46,116,101,109,112,108,97,116,101,6,255,11,103,101,116,99,111,100,101,115,105,122,101,9,16,95,115,114,101,46,103,101,116,99,111,100,101,115,105,122,101,6,256,13,97,115,99,105,105,95,105,115,99,97,115,101,100,9,18,95,115,114,101,46,97,115,99,105,105,95,105,115,99,97,115,101,100,6,257,15,117,110,105,99,111,100,101,95,105,115,99,97,115,101,100,9,20,95,115,114,101,46,117,110,105,99,111,100,101,95,105,115,99,97,115,101,100,6,258,13,97,115,99,105,105,95,116,111,108,111,119,101,114,9,18,95,115,114,101,46,97,115,99,105,105,95,116,111,108,111,119,101,114,6,259,15,117,110,105,99,111,100,101,95,116,111,108,111,119,101,114,9,20,95,115,114,101,46,117,110,105,99,111,100,101,95,116,111,108,111,119,101,114,6,261,5,77,65,71,73,67,4,260,0,20230612,6,263,8,67,79,68,69,83,73,90,69,4,262,0,4,6,265,9,77,65,88,82,69,80,69,65,84,4,264,0,4294967295,6,267,9,77,65,88,71,82,79,85,80,83,4,266,0,1073741823,6,269,9,99,111,112,121,114,105,103,104,116,6,268,53,32,83,82,69,32,50,46,50,46,50,32,67,111,112,121,114,105,103,104,116,32,40,99,41,32,49,57,57,55,45,50,48,48,50,32,98,121,32,83,101,99,114,101,116,32,76,97,98,115,32,65,66,32]⟩ 0, v1, v2, s "_sre" 271] 0,
 oT [],
 oF v0 tB,
 oF (t "code") [s "<module>" 277, s "<module>" 278, s "/claim/cut.py" 279, k 1, k 0, k 0, k 0, k 0, r 28, v2, k 276, r 29, v0, v0, v0, v0, k 280, k 1, s "/claim/cut.py" 281],
 ⟨t "frame", none, .plain, #[some (r 30), some (r 3), some (r 3), none, some (s "__main__" 164), none, some (r 0)]⟩,
 oS (t "list") [i 14 287, i 14 288, i 4 289, i 1 290, i 1 291, i 9 292, i 0 293, i 64 294, i 0 295, i 1342177280 296, i 0 297, i 0 298, i 0 299, i 0 300, i 0 301, i 17 302, i 0 303, i 13 304, i 11 305, i 9 306, i 0 307, i 64 308, i 0 309, i 1342177280 310, i 0 311, i 0 312, i 0 313, i 0 314, i 0 315, i 17 316, i 1 317, i 1 318] 0,
 oD P (t "dict") [] 0,
 oT [v0, v0],
 oT [k 14, k 14, k 4, k 1, k 1, k 9, k 0, k 64, k 0, k 1342177280, k 0, k 0, k 0, k 0, k 0, k 17, k 0, k 13, k 11, k 9, k 0, k 64, k 0, k 1342177280, k 0, k 0, k 0, k 0, k 0, k 17, k 1, k 1],
 oF (t "re.Pattern") [s "([&~|])" 285, i 32 320, k 1, v0, v0, r 35, k 0]] ++
 dA 0 "translate" 37 322 4 1 ["pat", "STAR", "parts"] (s "cpy313.fnmatch" 282) v0 ++
 [oF (t "bytes_iterator") [v0, k 24],
 GM,
 oD P (t "dict") [] 2,
 oT [],
 oF (t "StopIteration") [r 47, v0, v0, v0, v2, v0]] ++
 dA 1 "escape" 49 479 10 1 ["pattern"] (s "re" 331) v0 ++
 dA 2 "_translate" 56 488 17 3 ["pat", "STAR", "QUESTION_MARK", "res", "add", "i", "n", "c", "j", "stuff", "chunks", "k", "chunk"] (s "cpy313.fnmatch" 486) v0 ++
 dA 3 "_join_translated_parts" 63 507 79 2 ["inp", "STAR", "res", "add", "i", "n", "fixed"] (s "cpy313.fnmatch" 486) v0 ++
 [oF (t "range") [i 0 523, i 256 522, i 1 524],
 oF (t "range_iterator") [k 256, k 0, k 1],
 oQ (hq) 256,
 oD P (t "dict") [] 2,
 oT [],
 oF (t "StopIteration") [r 74, v0, v0, v0, v2, v0],
 oF (t "slice") [v0, v0, v0],
 oQ (fun n => if n = 32 then s "_" 1775 else hh n) 0,
 oF (t "slice") [v0, v0, v0],
 oQ (hb) 0,
 oF (t "bytes_iterator") [v0, k 67],
 oT [],
 oF (t "StopIteration") [r 81, v0, v0, v0, v2, v0],
 oF (t "bytes_iterator") [v0, k 95],
 oT [],
 oF (t "StopIteration") [r 84, v0, v0, v0, v2, v0]] ++
 dA 4 "unquote" 86 2064 121 1 ["s"] (s "cpy313.email.quoprimime" 1565) v0 ++
 dA 5 "quote" 93 2071 123 1 ["c"] (s "cpy313.email.quoprimime" 1565) v0 ++
 [oF (t "slice") [v0, v0, v0],
 oQ (fun n => if n = 13 then s "\r" 2082 else if n = 10 then s "\n" 2085 else hb n) 0,
 oF (t "bytes_iterator") [v0, k 2],
 oT [],
 oF (t "StopIteration") [r 103, v0, v0, v0, v2, v0],
 oT [s "\n" 520]] ++
 dA 6 "decode" 106 2086 129 2 ["encoded", "eol", "decoded", "line", "i", "n", "c"] (s "cpy313.email.quoprimime" 1565) (r 105) ++
 dB 7 "_law_half" 113 2101 160 1 (s "law_ij0042_01" 2099) v0 ++
 dB 8 "_law_built" 118 2107 173 1 (s "law_ij0042_01" 2099) v0 ++
 dB 9 "_law_read" 123 2113 201 1 (s "law_ij0042_01" 2099) v0 ++
 dB 10 "_law_at" 128 2119 242 3 (s "law_ij0042_01" 2099) v0 ++
 dA 11 "_law_shares" 133 2125 250 2 ["runs", "name", "at", "shares", "run", "here", "last"] (s "law_ij0042_01" 2099) v0 ++
 dA 12 "_law_fits" 140 2138 269 3 ["run", "row", "at", "k"] (s "law_ij0042_01" 2099) v0 ++
 dB 13 "_law_told" 147 2148 276 2 (s "law_ij0042_01" 2099) v0 ++
 dB 14 "law" 152 2154 295 1 (s "law_ij0042_01" 2099) v0
noncomputable def st (P : Params) (n : Nat) (x : List (Nat × Obj)) : List Obj := x.foldl (fun l p => l.set p.1 p.2) ((ol P).take n)
noncomputable def ev : List Obj → List Obj
 | [] => []
 | [a] => [a]
 | a :: _ :: l => a :: ev l
noncomputable def bt : Nat → List Obj → BT
 | 0, _ => .nil
 | _ + 1, [] => .nil
 | n + 1, o :: l => .node o (bt n (ev l)) (bt n (ev l.tail))
noncomputable def l0 (P : Params) : List Obj := st P 28 [(3, oM P "__main__" 164 9 [] 10)]
noncomputable def l00 (P : Params) : List Obj := (l0 P).set 11 (o11 P [r 14, r 26, b "_sre.template", b "_sre.getcodesize", b "_sre.ascii_iscased", b "_sre.unicode_iscased", b "_sre.ascii_tolower", b "_sre.unicode_tolower"])
noncomputable def lS (P : Params) : List Obj := st P 32 [(3, oM P "__main__" 164 9 [] 10), (29, oF v0 [])]
noncomputable def lA (P : Params) : List Obj := st P 49 [(3, oM P "re" 331 12 [] 13), (29, oF v0 (tB.take 3))]
noncomputable def lB (P : Params) : List Obj := st P 76 [(3, oM P "cpy313.fnmatch" 486 17 [] 18), (29, oF v0 (tB.take 12))]
noncomputable def lC (P : Params) : List Obj := st P 83 [(3, oM P "cpy313.email.quoprimime" 1565 24 [("c", 1575, i 57 1772)] 26), (29, oF v0 (tB.take 12)), (77, oQ hh 0), (79, oQ hq 0)]
noncomputable def lD (P : Params) : List Obj := st P 86 [(3, oM P "cpy313.email.quoprimime" 1565 24 [("c", 1575, i 9 2061)] 26), (29, oF v0 (tB.take 12))]
noncomputable def sT (l : Params → List Obj) (n k : Nat) (w : World) (os : OsState) : SharedT := ⟨bt 200 (l w.params), n, {}, Array.mk [], {}, k, os⟩
abbrev bd : List Stmt := behindTheImports pg
noncomputable def en : Env := { scope := pg.main.scope, locals := mainNs, globals := mainNs, cells := [], code := .ref 30, frame := some 31 }
noncomputable abbrev cd : Code := .body bd en
abbrev p0 : Pos := ⟨0, 0, 0, 0⟩
abbrev an : Option Value := some (.ref 6)
end H
end Mine
namespace Mine
open PySem PySem.W PySem.Calls PyProof.Rows
namespace H
theorem iz {tb : String → Option Builtin} {p : Program} {w : World} {n₀ : Nat} {ann : Option Value} {b : Nat} (k : Nat) : ∀ (n : Nat) (s : Shared) (t : Thread) (r : Flow × Shared × Code × Pos), segRun tb p w n₀ ann b n s t = some r → segRun tb p w n₀ ann b (n + k) s t = some r
 | 0, _, _, _, h => by simp [segRun] at h
 | n + 1, s, t, r, h => by
  rw [show n + 1 + k = n + k + 1 by exact xA]
  unfold segRun at h ⊢
  cases he : endAt b t with
  | some f => rw [he] at h; exact h
  | none =>
   rw [he] at h
   cases hk : stepOk n₀ ann t with
   | false => rw [hk] at h; cases h
   | true =>
    rw [hk] at h
    cases hs : step (denote tb) p w s t with
    | halt o s' => rw [hs] at h; cases h
    | go s' t' => rw [hs] at h; exact iz k n s' t' r h
theorem two (w w0 : World) (a b N M : Nat) (S S' : OsState → SharedT) (t : Thread) (f : Flow) (c : Code) (q : Pos)
  (h : (fun os => segGoT treeTable pg w 28 an 1 a (S os) t) = fun os => segGoT treeTable pg w0 28 an 1 b (S os) t)
  (h2 : (fun os => (segGoT treeTable pg w0 28 an 1 b (S os) t).bind (fun x => segRunT treeTable pg w 28 an 1 N x.1 x.2)) = fun os => some (f, S' os, c, q)) (e : a + N + M = 20000) (os : OsState) :
  segRun treeTable pg w 28 an 1 20000 (S os).abs t = some (f, (S' os).abs, c, q) := by
 have h := congrFun h os
 have h2 := congrFun h2 os
 cases e' : segGoT treeTable pg w0 28 an 1 b (S os) t with
 | none => rw [e'] at h2; cases h2
 | some x =>
  obtain ⟨S1, t1⟩ := x
  rw [e'] at h2 h
  rw [← e]
  exact iz M _ _ _ _ (seg_go (segGo_of h) (segRun_of h2))
abbrev wS (w : World) (b : Bool) : World := w.withFollow "special-get-raises" b
abbrev wC (w : World) (b : Bool) : World := w.withFollow "comprehension-iter-twice" b
noncomputable abbrev pcs (l : List Stmt) (p : Pos) : Thread := piecesOf l en cd p [topFrame p0]
abbrev sA : List Stmt := bd.take 5
abbrev sB : List Stmt := (bd.drop 5).take 6
abbrev sC : List Stmt := (bd.drop 11).take 9
abbrev sD : List Stmt := (bd.drop 20).take 2
abbrev sE : List Stmt := bd.drop 22
abbrev pA : Pos := ⟨9, 0, 9, 18⟩
abbrev pB : Pos := ⟨107, 0, 107, 11⟩
abbrev pC : Pos := ⟨116, 9, 116, 74⟩
abbrev pD : Pos := ⟨119, 9, 119, 110⟩
abbrev pE : Pos := ⟨295, 0, 307, 15⟩
noncomputable abbrev l1 (P : Params) : List Obj := ol P
end H
end Mine
namespace Mine
open PySem PySem.W PySem.Calls PyProof.Rows
namespace H
abbrev z (w : World) : World := wS (wC w false) false
theorem pre (w : World) : (fun os => topGo treeTable pg w 28 an 12 ⟨⟨⟨l0 w.params⟩, {}⟩, #[], {}, 276, os⟩ (topStub pg)) = fun os => some (⟨⟨⟨lS w.params⟩, {}⟩, #[], {}, 282, os⟩, ⟨denote treeTable cd, cd, p0, [topFrame p0]⟩) := by
 rw [Fast.te15667345088766844465, Fast.te11892475500146522536, Fast.te14364793385576792824]; kernel_rfl
theorem blk (w : World) : (fun os => segRun treeTable pg w 28 an 1 1 ⟨⟨⟨lS w.params⟩, {}⟩, #[], {}, 282, os⟩ (blockOf bd en cd p0 [topFrame p0])) = fun os => some (.next, (sT lS 32 282 w os).abs, cd, p0) := by
 rw [Fast.te14374325043358763698, Fast.te14364793385576792824]; kernel_rfl
theorem gA (w : World) (b c : Bool) : (fun os => segGoT treeTable pg (wS (wC w b) c) 28 an 1 (if b then 144 else 154) (sT lS 32 282 (wS (wC w b) c) os) (pcs sA p0)) = fun os => segGoT treeTable pg (z (wC w b)) 28 an 1 154 (sT lS 32 282 (wS (wC w b) c) os) (pcs sA p0) := by
 rw [Fast.te10295753902157049106, Fast.te14364793385576792824]
 cases b <;> cases c <;> kernel_rfl
theorem hA (w : World) (c : Bool) : (fun os => (segGoT treeTable pg (z w) 28 an 1 154 (sT lS 32 282 (wS w c) os) (pcs sA p0)).bind fun x => segRunT treeTable pg (wS w c) 28 an 1 1240 x.1 x.2) = fun os => some (.next, sT lA 49 479 (wS w c) os, cd, pA) := by
 rw [Fast.te10295753902157049106, Fast.te10110043849684766642, Fast.te14364793385576792824]
 cases c <;> kernel_rfl
theorem gB (w : World) (b c : Bool) : (fun os => segGoT treeTable pg (wS (wC w b) c) 28 an 1 (if b then 165 else 175) (sT lA 49 479 (wS (wC w b) c) os) (pcs sB pA)) = fun os => segGoT treeTable pg (z (wS (wC w b) c)) 28 an 1 175 (sT lA 49 479 (wS (wC w b) c) os) (pcs sB pA) := by
 rw [Fast.te10295753902157049106, Fast.te14364793385576792824]
 cases b <;> cases c <;> kernel_rfl
theorem hB (w : World) : (fun os => (segGoT treeTable pg (z w) 28 an 1 175 (sT lA 49 479 w os) (pcs sB pA)).bind fun x => segRunT treeTable pg w 28 an 1 9510 x.1 x.2) = fun os => some (.next, sT lB 76 1550 w os, cd, pB) := by
 rw [Fast.te10295753902157049106, Fast.te10110043849684766642, Fast.te14364793385576792824]
 kernel_rfl
theorem gC (w : World) (c : Bool) : (fun os => segGoT treeTable pg (wS w c) 28 an 1 176 (sT lB 76 1550 (wS w c) os) (pcs sC pB)) = fun os => segGoT treeTable pg (z (wS w c)) 28 an 1 176 (sT lB 76 1550 (wS w c) os) (pcs sC pB) := by
 rw [Fast.te10295753902157049106, Fast.te14364793385576792824]
 cases c <;> kernel_rfl
theorem hC (w : World) : (fun os => (segGoT treeTable pg (z w) 28 an 1 176 (sT lB 76 1550 w os) (pcs sC pB)).bind fun x => segRunT treeTable pg w 28 an 1 3040 x.1 x.2) = fun os => some (.next, sT lC 83 1775 w os, cd, pC) := by
 rw [Fast.te10295753902157049106, Fast.te10110043849684766642, Fast.te14364793385576792824]
 kernel_rfl
theorem gD (w : World) (c : Bool) : (fun os => segGoT treeTable pg (wS w c) 28 an 1 34 (sT lC 83 1775 (wS w c) os) (pcs sD pC)) = fun os => segGoT treeTable pg (z (wS w c)) 28 an 1 34 (sT lC 83 1775 (wS w c) os) (pcs sD pC) := by
 rw [Fast.te10295753902157049106, Fast.te14364793385576792824]
 cases c <;> kernel_rfl
theorem hD (w : World) : (fun os => (segGoT treeTable pg (z w) 28 an 1 34 (sT lC 83 1775 w os) (pcs sD pC)).bind fun x => segRunT treeTable pg w 28 an 1 4300 x.1 x.2) = fun os => some (.next, sT lD 86 2064 w os, cd, pD) := by
 rw [Fast.te10295753902157049106, Fast.te10110043849684766642, Fast.te14364793385576792824]
 kernel_rfl
theorem gE (w : World) (c : Bool) : (fun os => segGoT treeTable pg (wS w c) 28 an 1 95 (sT lD 86 2064 (wS w c) os) (pcs sE pD)) = fun os => segGoT treeTable pg (z (wS w c)) 28 an 1 95 (sT lD 86 2064 (wS w c) os) (pcs sE pD) := by
 rw [Fast.te10295753902157049106, Fast.te14364793385576792824]
 cases c <;> kernel_rfl
theorem hE (w : World) : (fun os => (segGoT treeTable pg (z w) 28 an 1 95 (sT lD 86 2064 w os) (pcs sE pD)).bind fun x => segRunT treeTable pg w 28 an 1 390 x.1 x.2) = fun os => some (.next, sT l1 157 2160 w os, cd, pE) := by
 rw [Fast.te10295753902157049106, Fast.te10110043849684766642, Fast.te14364793385576792824]
 kernel_rfl
theorem fin (w : World) : (fun os => topRun treeTable pg w 28 an 2 (sT l1 157 2160 w os).abs ⟨doneF .next, cd, pE, [topFrame p0]⟩) = fun os => some ⟨⟨⟨l1 w.params⟩, {}⟩, #[], {}, 2160, os⟩ := by
 rw [Fast.te14082659384304107361, Fast.te14364793385576792824]
 kernel_rfl
end H
end Mine
namespace Mine
open PySem PySem.W PySem.Calls PyProof.Rows
namespace H
theorem opn {w : World} {S S' : SharedT} {t : Thread} {n : Nat}
  (h : (impGoT treeTable (opening pg) w n S t).map (fun x => (x.2.atExitBegin, x.1)) = some (some [], S')) :
  importEnds treeTable (opening pg) w (n + 1) S.abs t = some S'.abs := by
 cases e : impGoT treeTable (opening pg) w n S t with
 | none => rw [e] at h; cases h
 | some x =>
  obtain ⟨S1, t1⟩ := x
  rw [e] at h
  obtain ⟨h1, rfl⟩ := Prod.mk.inj (Option.some.inj h)
  refine imp_go (impGo_of e) ?_
  unfold importEnds
  rw [h1]
theorem op1 (w : World) : (fun os => (impGoT treeTable (opening pg) w 798 ⟨.nil, 0, {}, Array.mk [], {}, 1, os⟩ (start (opening pg)).2).map fun x => (x.2.atExitBegin, x.1)) = fun os => some (some [], sT l00 28 276 w os) := by
 rw [Fast.te14789777615569096658, Fast.te14364793385576792824]; kernel_rfl
theorem AG (l : Params → List Obj) (n k : Nat) (w : World) (os : OsState) : (sT l n k w os).abs = ⟨absHeap (bt 200 (l w.params)) n {}, Array.mk [], {}, k, os⟩ := by unfold sT SharedT.abs; rfl
theorem op2 (w : World) (x : Shared × Thread) (e : x.1 = SharedT.abs ⟨.nil, 0, {}, Array.mk [], {}, 1, x.1.os⟩)
  (h : (impGoT treeTable (opening pg) w 798 ⟨.nil, 0, {}, Array.mk [], {}, 1, x.1.os⟩ x.2).map (fun x => (x.2.atExitBegin, x.1)) = some (some [], sT l00 28 276 w x.1.os)) :
  importEnds treeTable (opening pg) w (798 + 1) x.1 x.2 = some ⟨absHeap (bt 200 (l00 w.params)) 28 {}, Array.mk [], {}, 276, x.1.os⟩ := by
 have h2 := opn (n := 798) (S' := sT l00 28 276 w x.1.os) h
 generalize importEnds treeTable (opening pg) w (798 + 1) = f at h2 ⊢
 rw [← e] at h2
 exact h2.trans (congrArg some (AG l00 28 276 w x.1.os))
theorem op0 (p : Program) : (start (opening p)).1 = SharedT.abs ⟨.nil, 0, {}, Array.mk [], {}, 1, (start (opening p)).1.os⟩ := by rfl
theorem op3 (w : World) : importEnds treeTable (opening pg) w (798 + 1) (start (opening pg)).1 (start (opening pg)).2 = some ⟨absHeap (bt 200 (l00 w.params)) 28 {}, Array.mk [], {}, 276, (start (opening pg)).1.os⟩ := by
 have a := op0 pg
 have b := congrFun (op1 w) (start (opening pg)).1.os
 generalize start (opening pg) = x at a b ⊢
 exact op2 w x a b
theorem fen (w : World) : (fun os => (fenceModules? pg ⟨absHeap (bt 200 (l00 w.params)) 28 {}, Array.mk [], {}, 276, os⟩).map (fun s => (s.heap, s.gens, s.drawn, s.toks))) = fun _ => some (⟨⟨l0 w.params⟩, {}⟩, Array.mk [], {}, 276) := by
 rw [Fast.te14289696077712309145]; kernel_rfl
theorem sgl {r : String} {P : PySem.World → Prop} (h : ∀ (w : World) (b : Bool), P (w.withFollow r b)) (w : World) : P w := by
 have e := World.withFollow_self w r
 rw [← e]; exact h w _
theorem rA (w : World) (os : OsState) : segRun treeTable pg w 28 an 1 20000 (sT lS 32 282 w os).abs (pcs sA p0) = some (.next, (sT lA 49 479 w os).abs, cd, pA) :=
 sgl (r := "special-get-raises") (P := fun w => segRun treeTable pg w 28 an 1 20000 (sT lS 32 282 w os).abs (pcs sA p0) = some (.next, (sT lA 49 479 w os).abs, cd, pA)) (fun w c =>
  sgl (r := "comprehension-iter-twice") (P := fun w => segRun treeTable pg (wS w c) 28 an 1 20000 (sT lS 32 282 (wS w c) os).abs (pcs sA p0) = some (.next, (sT lA 49 479 (wS w c) os).abs, cd, pA))
   (fun w b => two (wS (wC w b) c) (z (wC w b)) (if b then 144 else 154) 154 1240 (if b then 18616 else 18606) (sT lS 32 282 (wS (wC w b) c)) (sT lA 49 479 (wS (wC w b) c)) (pcs sA p0) .next cd pA (gA w b c) (hA (wC w b) c) (by cases b <;> rfl) os) w) w
theorem rB (w : World) (os : OsState) : segRun treeTable pg w 28 an 1 20000 (sT lA 49 479 w os).abs (pcs sB pA) = some (.next, (sT lB 76 1550 w os).abs, cd, pB) :=
 sgl (r := "special-get-raises") (P := fun w => segRun treeTable pg w 28 an 1 20000 (sT lA 49 479 w os).abs (pcs sB pA) = some (.next, (sT lB 76 1550 w os).abs, cd, pB)) (fun w c =>
  sgl (r := "comprehension-iter-twice") (P := fun w => segRun treeTable pg (wS w c) 28 an 1 20000 (sT lA 49 479 (wS w c) os).abs (pcs sB pA) = some (.next, (sT lB 76 1550 (wS w c) os).abs, cd, pB))
   (fun w b => two (wS (wC w b) c) (z (wS (wC w b) c)) (if b then 165 else 175) 175 9510 (if b then 10325 else 10315) (sT lA 49 479 (wS (wC w b) c)) (sT lB 76 1550 (wS (wC w b) c)) (pcs sB pA) .next cd pB (gB w b c) (hB (wS (wC w b) c)) (by cases b <;> rfl) os) w) w
theorem rC (w : World) (os : OsState) : segRun treeTable pg w 28 an 1 20000 (sT lB 76 1550 w os).abs (pcs sC pB) = some (.next, (sT lC 83 1775 w os).abs, cd, pC) :=
 sgl (r := "special-get-raises") (P := fun w => segRun treeTable pg w 28 an 1 20000 (sT lB 76 1550 w os).abs (pcs sC pB) = some (.next, (sT lC 83 1775 w os).abs, cd, pC))
  (fun w c => two (wS w c) (z (wS w c)) 176 176 3040 16784 (sT lB 76 1550 (wS w c)) (sT lC 83 1775 (wS w c)) (pcs sC pB) .next cd pC (gC w c) (hC (wS w c)) rfl os) w
theorem rD (w : World) (os : OsState) : segRun treeTable pg w 28 an 1 20000 (sT lC 83 1775 w os).abs (pcs sD pC) = some (.next, (sT lD 86 2064 w os).abs, cd, pD) :=
 sgl (r := "special-get-raises") (P := fun w => segRun treeTable pg w 28 an 1 20000 (sT lC 83 1775 w os).abs (pcs sD pC) = some (.next, (sT lD 86 2064 w os).abs, cd, pD))
  (fun w c => two (wS w c) (z (wS w c)) 34 34 4300 15666 (sT lC 83 1775 (wS w c)) (sT lD 86 2064 (wS w c)) (pcs sD pC) .next cd pD (gD w c) (hD (wS w c)) rfl os) w
theorem rE (w : World) (os : OsState) : segRun treeTable pg w 28 an 1 20000 (sT lD 86 2064 w os).abs (pcs sE pD) = some (.next, (sT l1 157 2160 w os).abs, cd, pE) :=
 sgl (r := "special-get-raises") (P := fun w => segRun treeTable pg w 28 an 1 20000 (sT lD 86 2064 w os).abs (pcs sE pD) = some (.next, (sT l1 157 2160 w os).abs, cd, pE))
  (fun w c => two (wS w c) (z (wS w c)) 95 95 390 19515 (sT lD 86 2064 (wS w c)) (sT l1 157 2160 (wS w c)) (pcs sE pD) .next cd pE (gE w c) (hE (wS w c)) rfl os) w
theorem Bo : bd = sA ++ (sB ++ (sC ++ (sD ++ (sE ++ [])))) := by kernel_rfl
theorem run (w : World) (os : OsState) : topRun treeTable pg w 28 an (12 + (1 + (20000 + (20000 + (20000 + (20000 + (20000 + 2))))))) ⟨⟨⟨l0 w.params⟩, {}⟩, #[], {}, 276, os⟩ (topStub pg) = some ⟨⟨⟨l1 w.params⟩, {}⟩, #[], {}, 2160, os⟩ := by
 refine go_top (congrFun (pre w) os) (piece_block (congrFun (blk w) os) ?_)
 have h := piece_app (rA w os) (piece_app (rB w os) (piece_app (rC w os) (piece_app (rD w os) (piece_app (rest := []) (rE w os) (congrFun (fin w) os)))))
 rw [← Bo] at h
 exact h
noncomputable def vq : Program := view pg [0, 2, 3, 5, 6, 8, 9, 10, 11, 12, 13, 14, 15, 16, 17, 18, 23, 24, 25, 30, 31, 32, 33, 34, 35, 36, 37]
noncomputable def loose : List Str := ["_twin_re_1", "_special_chars_map", "_QUOPRI_MAP", "_QUOPRI_HEADER_MAP", "_QUOPRI_BODY_MAP", "ascii_letters", "hexdigits", "_QUOPRI_BODY_ENCODE_MAP", "decode"].map Str.ofString
noncomputable def ads : List Addr := [2, 3, 6, 11, 12, 35, 36, 37, 39, 40, 42, 43, 45, 49, 51, 52, 54, 55, 56, 58, 59, 61, 62, 63, 65, 66, 68, 69, 72, 77, 79, 86, 88, 89, 91, 92, 93, 95, 96, 98, 99, 101, 105, 106, 108, 109, 111, 112, 113, 116, 117, 118, 121, 122, 123, 126, 127, 128, 131, 132, 133, 135, 136, 138, 139, 140, 142, 143, 145, 146, 147, 150, 151, 152, 155, 156]
noncomputable def KK (P : Params) : Frag := ads.map fun a => (a, (ol P).getD a default)
noncomputable abbrev hk' : Hook := kmHook KK ads (fun P => by unfold KK; rw [List.map_map]; exact (List.map_id _).symm) [57]
theorem siz (w : World) : ((Heap.isNs ⟨⟨l0 w.params⟩, {}⟩ mainGlobals && (Array.mk ([] : List GenState)).size == 0), (Heap.mk ⟨l0 w.params⟩ {}).objs.size, Heap.nsMap ⟨⟨l0 w.params⟩, {}⟩ mainGlobals "__annotations__") = (true, 28, an) := by kernel_rfl
theorem lks (w : World) : (fun os => ((staticsOk (importedModules pg.main.body) ⟨⟨l0 w.params⟩, {}⟩ ⟨⟨l1 w.params⟩, {}⟩ && namesBound pg ⟨⟨l1 w.params⟩, {}⟩ && gensDone ⟨⟨⟨l1 w.params⟩, {}⟩, Array.mk [], {}, 2160, os⟩ && laidKept ⟨⟨l0 w.params⟩, {}⟩ ⟨⟨l1 w.params⟩, {}⟩),
  openSeen vq loose (importedModules pg.main.body) (fun s => xlAt vq [] s && recOk PySem.Challenge.rw_ij0042_01.row.toRowW.records s) true ⟨⟨⟨l1 w.params⟩, {}⟩, Array.mk [], {}, 2160, os⟩, hk'.obs ⟨⟨⟨l1 w.params⟩, {}⟩, Array.mk [], {}, 2160, os⟩)) = fun os => (true, openGood vq loose, hk'.val w) := by
 kernel_rfl
theorem left : LeftO pg vq loose (fun s => xlAt vq [] s && recOk PySem.Challenge.rw_ij0042_01.row.toRowW.records s) hk'.obs hk'.val 200000 :=
 LeftO.of_pieces (H₀ := fun P => ⟨⟨l0 P⟩, {}⟩) (H₁ := fun P => ⟨⟨l1 P⟩, {}⟩) (open_cut (M := 798 + 1) (He := fun P => absHeap (bt 200 (l00 P)) 28 {}) (H₀ := fun P => ⟨⟨l0 P⟩, {}⟩) op3 (by decide) fen) siz run (by decide) lks
end H
noncomputable abbrev AH : DefRec := ⟨"law", cc 37, (ay 37).1, (ay 37).2, ⟨295, 0, 307, 15⟩⟩
theorem hd (walk : WalkO H.vq H.loose (XL H.vq []) H.hk'.says PySem.Challenge.rw_ij0042_01.row.toRowW AH [] fun f vs => PySem.call f vs) : PySem.Challenge.rw_ij0042_01.Holds :=
 holds_law (by kernel_rfl) fun said => holds_open (q := H.vq) (d := AH) (kwd := []) H.left H.hk'.of H.hk'.keeps (fun s e => xl_of s (Bool.and_eq_true_iff.mp e).1) XL.keeps (by kernel_rfl) (by kernel_rfl) (by kernel_rfl)
  (fun s e => recFacts_of (Bool.and_eq_true_iff.mp e).2) (by kernel_rfl) said (by kernel_rfl) ⟨rfl, rfl, rfl, rfl, rfl, by decide +kernel⟩ ⟨[WData.list []], by decide +kernel, by decide +kernel⟩ walk
end Mine
open PySem PySem.W PySem.Calls PyProof.Rows
namespace Mine
noncomputable def fbL : List Addr := [43, 55, 62, 69, 92, 99, 112, 117, 122, 127, 132, 139, 146, 151, 156]
theorem AI (p : Params) : gf (H.KK p) 57 61 45 36 72 (fbL.take 14) where
 built := List.map_inj_left.1 (show builtNames.map (fun x => nsIn (H.KK p) mainGlobals x.1) = builtNames.map (fun _ => some Option.none) by kernel_rfl)
 hex := ⟨1563, by kernel_rfl⟩
 quo := by kernel_rfl
 spe := by kernel_rfl
 twin := by kernel_rfl
 quoL := by kernel_rfl
 speM := by kernel_rfl
 twinP := by kernel_rfl
 cod := by kernel_rfl
 pno := by kernel_rfl
 spn := by kernel_rfl
 fns := by kernel_rfl
theorem GN (p : Params) : nsIn (H.KK p) mainGlobals "NL" = some (some (.str ⟨#[10]⟩ 520)) := by kernel_rfl
theorem GO (p : Params) : ∀ n, n < 15 → nsIn (H.KK p) mainGlobals (iO n) = some ((fbL[n]?).map Value.ref) := by
 intro n hn
 have h := (List.map_inj_left (l := List.range 15) (f := fun n => nsIn (H.KK p) mainGlobals (iO n)) (g := fun n => some ((fbL[n]?).map Value.ref))).1 (by kernel_rfl)
 exact h n (List.mem_range.2 hn)
theorem AJ : ∀ n, n < 15 → n ≠ 6 → (defOf H.vq (iO n)).map (fun e => (e.1.params, e.1.body, e.1.scope, e.2)) = some (cc (bx n), (ay (bx n)).1, (ay (bx n)).2, []) := by
 have h := (List.map_inj_left (l := [0, 1, 2, 3, 4, 5, 7, 8, 9, 10, 11, 12, 13, 14]) (f := fun n => (defOf H.vq (iO n)).map (fun e => (e.1.params, e.1.body, e.1.scope, e.2))) (g := fun n => some (cc (bx n), (ay (bx n)).1, (ay (bx n)).2, []))).1 (by kernel_rfl)
 intro n hn h6
 exact h n ((by decide : ∀ n, n < 15 → n ≠ 6 → n ∈ [0, 1, 2, 3, 4, 5, 7, 8, 9, 10, 11, 12, 13, 14]) n hn h6)
theorem Bp (p : Params) : (fB (H.KK p) 112).map (fun fd => fA fd.name 6 fd.pyModule fd.code fd.doc fd.defaults) = fB (H.KK p) 112 := by kernel_rfl
theorem AK (p : Params) : (fB (H.KK p) 112).map (fun fd => jE (H.KK p) fd && jF (H.KK p) fd) = some true := by kernel_rfl
theorem GP (p : Params) : ul (H.KK p) 62 61 = true := by kernel_rfl
theorem wR (ns0 : List Int) : PySem.Challenge.rw_ij0042_01.row.claim.post [ofPy (PyData.list (List.map PyData.int ns0))] (WData.bool true) [ofPy (PyData.list (List.map PyData.int ns0))] = true := by kernel_rfl
theorem Bq (p : Params) : nsIn (H.KK p) mainGlobals "law" = some (some (.ref 156)) := by kernel_rfl
theorem go : PySem.Challenge.rw_ij0042_01.Holds := by
 refine hd ?_
 intro w s₀ s₁ mg mb G Y fa o pm cd doc dV kV ho hd hcd hD hmg hg args vals as hpre hlay hrd hwl hlo
 have X := km_in_of Y
 have V := km_tabs_of Y
 clear Y
 wrow_args hpre hlay hrd hwl hlo
 rename_i ns0 hs hlay0 hL1 hr1 hl2 a1 a2 L vs as1 hL ra w1 r0 hI hr hlen htr
 have hmg' : mg "law" = some (.ref fa) := hmg
 clear hd hmg
 have HH : At (H.KK w.params) mg mb s₁.heap := ⟨X, G.T.g, G.T.b, G.T.builtins⟩
 have K := AI w.params
 have hlaw : fa = 156 := by
  have h := mg_of X G.T.g (Bq w.params)
  rw [hmg'] at h
  cases h; rfl
 have hlen' : ns0.length ≤ 63 := by omega
 refine uj (fb := fbL) HH K G.T.nolimit G.T.bmain (V 57 (by decide)) (fun n a h => ?_) (fun n hn a ha => ?_) (fun a ha o fd e hd => ?_) (by rw [hlaw]; rfl) hg hL hI hlen' fun s' h1 h2 h3 => ?_
 ·rw [List.getElem?_take] at h
  split at h
  ·exact h
  ·cases h
 ·have e := GO w.params n hn
  rw [ha] at e
  by_cases h6 : n = 6
  ·subst h6
   cases ha
   exact AF X (Bp w.params) (AK w.params)
  ·exact wP G hn (AJ n hn h6) (mg_of X G.T.g e) (mg_of X G.T.g (GN w.params))
 ·cases ha
  exact wQ X (GP w.params) e hd
 ·exact ⟨.inl ⟨.bool true, .bool true, [], rfl, fun cls => rfl, .bool true, wR ns0, fun _ => ⟨List.nodup_nil, fun a h => by cases h⟩⟩, h1, h2, h3⟩
end Mine
theorem PySem.Challenge.cw_ij0042_01_holds : PySem.Challenge.rw_ij0042_01.Holds :=
  Mine.go
