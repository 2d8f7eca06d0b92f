import PyProof.Rows.All
import Wide.All
import OpenK.AllK
import Wide.FinOn
import Lean
import PySem.Challenge.RW_tv0047_01
set_option Elab.async false
set_option tactic.hygienic false
set_option genSizeOf false
set_option genInjectivity false
set_option linter.all false
set_option compiler.extract_closed false
namespace Mine
open List (append_assoc getElem?_append_left length_cons getElem_of_mem mem_append mem_singleton nodup_append getElem?_append_right mem_of_getElem? length_set getElem?_set_self getElem?_set_ne getElem_inj mem_filterMap mem_cons lookup_cons replicate_succ foldl_cons flatten_cons size_toArray map_cons getD_eq_getElem?_getD getElem?_eq_getElem length_nil filterMap_cons all_eq_true nil_append cons_append map_map map_congr_left drop_eq_getElem_cons forIn_cons mem_map not_mem_nil length_map length_range getElem?_map getElem_range take_length take_left' mem_of_mem_take append_nil length_take getElem?_take_of_lt nodup_cons of_mem_zip take_of_length_le getElem?_eq_none map_reverse mem_reverse mem_range getElem?_range drop_append drop_eq_nil_of_le drop_drop map_append length_replicate set_append_right drop_zero getElem_mem map_take map_drop any_eq_true pairwise_cons length_append range_succ map_nil take_succ length_drop drop_length length_reverse range'_succ getElem_map)
section
open PySem PySem.W PyProof.Rows
set_option maxRecDepth 100000
set_option maxHeartbeats 8000000
local macro_rules | `(tactic|o_law)=> `(tactic|refine holds_law (by decide+kernel) fun said=> ?_)
open_top hd for PySem.Challenge.rw_tv0047_01
end
section
open PyProof.Rows
theorem c6{a:Nat}:(a:Int)+1=((a+1:Nat):Int):=rfl
theorem c7{a:Nat}:((a+1:Nat):Int)=(a:Int)+1:=rfl
theorem aU{a:Nat}:a=a:=rfl
theorem Xh{a:Nat}:a<=a:=Nat.le_refl a
theorem Yv{a:Nat}:0<=a:=Nat.zero_le a
theorem c1{a:Nat}:(0:Int)<=(a:Int):=Int.natCast_nonneg a
theorem ZU{p:Prop}(h:p):p:=h
theorem u1{a b:Nat}(k:Nat.ble a b=true):a<=b:=Nat.le_of_ble_eq_true k
theorem u2{a b c:Nat}(h:a<=b)(k:Nat.ble b c=true):a<=c:=Nat.le_trans h (Nat.le_of_ble_eq_true k)
theorem u3{a b c:Nat}(h:a<=b)(k:Nat.ble (b+1) c=true):a<c:=Nat.lt_of_le_of_lt h (Nat.le_of_ble_eq_true k)
theorem u5{a b c:Nat}(h:a<b)(k:Nat.ble b (c+1)=true):a<=c:=Nat.le_of_lt_succ (Nat.lt_of_lt_of_le h (Nat.le_of_ble_eq_true k))
theorem u6{a b:Nat}(h:a<b):a<=b:=Nat.le_of_lt h
theorem u7{a b c:Nat}(h:c<=a)(k:Nat.ble b c=true):b<=a:=Nat.le_trans (Nat.le_of_ble_eq_true k) h
theorem e2{a b c:Nat}(e:a=b)(h:b<=c):a<=c:=e▸h
theorem e4{a b c:Nat}(e:a=b)(h:c<=b):c<=a:=e▸h
theorem e6{a b c:Nat}(e:a=b)(k:Nat.ble b c=true):a<=c:=e▸u1 k
theorem e8{a b c d:Nat}(e:a=b)(h:b<=d)(k:Nat.ble d c=true):a<=c:=e▸u2 h k
theorem e9{a b c d:Nat}(e:a=b)(h:b<=d)(k:Nat.ble (d+1) c=true):a<c:=e▸u3 h k
theorem XW{a b c:Nat}(e:b=a)(h:c<b):c<a:=e▸h
theorem Zs{a b c:Nat}(e:b=a)(h:c<=b):c<=a:=e▸h
theorem dJ{a b c:Nat}(e:b=a)(h:b<=c):a<=c:=e▸h
theorem n1{a b:Nat}(h:¬a<b):b<=a:=Nat.le_of_not_lt h
theorem n2{a b:Nat}(h:¬a<=b):b<a:=Nat.lt_of_not_le h
theorem n3{a:Nat}(h:¬a=0):0<a:=Nat.pos_of_ne_zero h
theorem n4{a b:Nat}(h:a<b):¬a=b:=Nat.ne_of_lt h
theorem n5{a b:Nat}(h:b<a):¬a=b:=Nat.ne_of_gt h
theorem n6{a b:Nat}(h:a<=b):¬b<a:=Nat.not_lt_of_le h
theorem n7{a b:Nat}(h:a<b):¬b<=a:=Nat.not_le_of_lt h
theorem n8{a b:Nat}(h:a<=b)(g:¬a=b):a<b:=Nat.lt_of_le_of_ne h g
theorem n9{a b:Nat}(h:a<=b)(g:¬a<b):a=b:=Nat.le_antisymm h (n1 g)
theorem cC{a b:Nat}(h:a<=b)(g:b<=a):a=b:=Nat.le_antisymm h g
theorem UA{a b c:Nat}(h:c<b)(g:b<=a):¬c=a:=Nat.ne_of_lt (Nat.lt_of_lt_of_le h g)
theorem dQ{a b:Nat}(h:b<a):¬a=0:=Nat.ne_of_gt (Nat.lt_of_le_of_lt (Nat.zero_le b) h)
theorem t1{a b c:Nat}(h:a<b)(g:b<=c):a<c:=Nat.lt_of_lt_of_le h g
theorem t2{a b c:Nat}(h:a<=b)(g:b<c):a<c:=Nat.lt_of_le_of_lt h g
theorem t3{a b c:Nat}(h:a<b)(g:b<c):a<c:=Nat.lt_trans h g
theorem t4{a b c:Nat}(h:a<=b)(g:b<=c):a<=c:=Nat.le_trans h g
theorem t5{a b c:Nat}(h:a<b)(g:b<=c):a<=c:=Nat.le_of_lt (Nat.lt_of_lt_of_le h g)
theorem t6{a b c:Nat}(h:a<=b)(g:b<c):a<=c:=Nat.le_of_lt (Nat.lt_of_le_of_lt h g)
theorem s1{a b:Nat}(h:a<=b):a<=b+1:=Nat.le_succ_of_le h
theorem s2{a b:Nat}(h:a<=b):a<b+1:=Nat.lt_succ_of_le h
theorem s5{a b:Nat}(h:a+1<b+1):a<b:=Nat.lt_of_succ_lt_succ h
theorem s6{a b:Nat}(h:a+1<=b+1):a<=b:=Nat.le_of_succ_le_succ h
theorem WI{a b c:Nat}(h:a<b):c+a<c+b:=Nat.add_lt_add_left h c
theorem RD{a b c:Nat}(h:a<=b):c+a<=c+b:=Nat.add_le_add_left h c
theorem JA{a b c d:Nat}(h:a<=b)(k:Nat.ble (b+d) c=true):a+d<=c:=Nat.le_trans (Nat.add_le_add_right h d) (u1 k)
theorem aJ{a b c d:Nat}(h:a<=b)(k:Nat.ble (b+d+1) c=true):a+d<c:=Nat.lt_of_le_of_lt (Nat.add_le_add_right h d) (u1 k)
theorem Yn{a b c:Nat}(h:a+b=c):a<=c:=h▸Nat.le_add_right _ _
theorem dL{a b:Nat}:a<a+b+1:=Nat.lt_succ_of_le (Nat.le_add_right _ _)
theorem EW{a b:Nat}:a<=a+b:=Nat.le_add_right _ _
theorem J6{a b c:Nat}(k:Nat.ble b c=true):a+b<=a+c:=Nat.add_le_add_left (u1 k) a
theorem bJ{a b c:Nat}(h:a+(b+1)=c):a<c:=h▸Nat.lt_succ_of_le (Nat.le_add_right _ _)
theorem RZ{a b c:Nat}(h:a+(b+1)=c):a+1+b=c:=by rw [Nat.add_assoc,Nat.add_comm 1 b];exact h
theorem aT{a b c:Nat}(h:a+(b+1)<=c):a+1+b<=c:=by rw [Nat.add_assoc,Nat.add_comm 1 b];exact h
theorem YI{a b c:Nat}(h:a+(b+1)<=c):a<c:=Nat.lt_of_lt_of_le (Nat.lt_succ_of_le (Nat.le_add_right _ _)) h
theorem VN{a b:Nat}:a+1+b=a+(b+1):=by rw [Nat.add_assoc,Nat.add_comm 1 b]
theorem Pq{a b:Nat}:a+b=b+a:=Nat.add_comm a b
theorem aP{a:Nat}(h:0<a):a=a-1+1:=(Nat.sub_add_cancel h).symm
theorem XS{a b:Nat}(h:a=b):a<=b:=Nat.le_of_eq h
theorem bD{a b:Nat}(h:b=a):a<=b:=Nat.le_of_eq h.symm
theorem aR{a b:Nat}(h:a<=b):a-b=0:=Nat.sub_eq_zero_of_le h
theorem aM{a b:Nat}:a-b<=a:=Nat.sub_le a b
theorem c3{a b:Nat}(h:a<b):(a:Int)<(b:Int):=Int.ofNat_lt.mpr h
theorem c4{a b:Nat}(h:a<=b):(a:Int)<=(b:Int):=Int.ofNat_le.mpr h
theorem c8{a b:Nat}(h:(a:Int)<(b:Int)):a<b:=Int.ofNat_lt.mp h
theorem c9{a b:Nat}(h:(a:Int)<=(b:Int)):a<=b:=Int.ofNat_le.mp h
theorem z1{a b:Int}(h:¬a<b):b<=a:=Int.not_lt.mp h
theorem z2{a b:Int}(h:¬a<=b):b<a:=Int.not_le.mp h
theorem z3{a b:Int}(h:a<b):a<=b:=Int.le_of_lt h
theorem z4{a b:Int}(h:b<a):¬a=b:=Int.ne_of_gt h
theorem z6{a b c:Int}(h:a<b)(g:b<=c):a<c:=Int.lt_of_lt_of_le h g
theorem z7{a b c:Int}(h:a<=b)(g:b<c):a<c:=Int.lt_of_le_of_lt h g
theorem z8{a b c:Int}(h:a<b)(g:b<c):a<c:=Int.lt_trans h g
theorem dB{a b c:Int}(h:a<=b)(k:c<=a):c<=b:=Int.le_trans k h
theorem aW{a b:Int}(h:a<=b):¬b<a:=Int.not_lt.mpr h
theorem Va{a b:Int}(h:0<=a)(g:0<=b):0<=a+b:=Int.add_nonneg h g
theorem aX{a b:Int}(h:0<=a)(g:0<b):0<a+b:=Int.add_pos_of_nonneg_of_pos h g
theorem aQ{a b:Int}(h:0<a)(g:0<=b):0<a+b:=Int.add_pos_of_pos_of_nonneg h g
theorem XH{a b:Int}:a+b=b+a:=Int.add_comm a b
theorem Yf{a b:Int}(h:a<b):a<=b-1:=Int.le_sub_one_of_lt h
theorem x1{a s d:Nat}(h:a-s=d)(g:s<a):a-(s+1)<d:=h▸Nat.sub_succ_lt_self a s g
theorem x2{a s d f:Nat}(h:a-s=d)(g:s<a)(k:d<f+1):a-(s+1)<f:=Nat.lt_of_lt_of_le (x1 h g) (Nat.le_of_lt_succ k)
theorem x3{a s d f:Nat}(h:a-s=d)(k:d<f+1):a-(s+1)<f+1:=Nat.lt_of_le_of_lt (Nat.sub_le_sub_left (Nat.le_succ s) a) (h▸k)
theorem x4{a s e f:Nat}(h:e<=a)(g:s<e)(k:a-s<f+1):a-e<f:=Nat.lt_of_lt_of_le (Nat.sub_lt_sub_left (Nat.lt_of_lt_of_le g h) g) (Nat.le_of_lt_succ k)
theorem cG{a s e f t:Nat}(h:e<=a)(g:s<e)(j:t<=s)(k:a-t<f+1):a-e<f:=x4 h (Nat.lt_of_le_of_lt j g) k
theorem x5{a s:Nat}(h:s<a):a+1-s=a-s+1:=Nat.succ_sub (Nat.le_of_lt h)
theorem x6{a k:Nat}(h:k<a):a-1-k<a:=Nat.lt_of_le_of_lt (Nat.sub_le _ _) (Nat.sub_one_lt_of_lt h)
theorem x7{a m:Nat}(h:m+1<=a):a-(m+1)<a:=Nat.sub_lt (Nat.lt_of_lt_of_le (Nat.succ_pos m) h) (Nat.succ_pos m)
theorem x8{a m:Nat}(h:m+1<=a):a-(m+1)+1=a-m:=Nat.sub_add_cancel (Nat.sub_pos_of_lt h)
theorem x9{a s:Nat}(h:s<a):a-s=a-(s+1)+1:=(x8 h).symm
theorem EZ{a b c:Nat}(e:a=min b c):a<=b:=e▸Nat.min_le_left b c
theorem Fc{a b c:Nat}(e:a=min b c):a<=c:=e▸Nat.min_le_right b c
theorem Kd{a b c k:Nat}(e:a=min b c):a<=c+k:=e▸Nat.le_trans (Nat.min_le_right b c) (Nat.le_add_right c k)
theorem Ze{a b c k:Nat}(e:a=min b c):a<=b+k:=e▸Nat.le_trans (Nat.min_le_left b c) (Nat.le_add_right b k)
theorem Fd{i a b:Nat}(h:i<min a b):i<a:=Nat.lt_of_lt_of_le h (Nat.min_le_left a b)
theorem YO{i a b:Nat}(h:i<min a b):i<b:=Nat.lt_of_lt_of_le h (Nat.min_le_right a b)
theorem Px{L m:Nat}(e:L=5)(h:m<5):L-1-(4-m)=m:=e▸Nat.sub_sub_self (Nat.le_of_lt_succ h)
theorem NO{m:Nat}(h:m<5):4-m+1=5-m:=(Nat.succ_sub (Nat.le_of_lt_succ h)).symm
theorem KW{m n:Nat}(h:m<n):m-1<n:=Nat.lt_of_le_of_lt (Nat.sub_le m 1) h
theorem Md{m:Nat}:m-1<m+1:=Nat.lt_succ_of_le (Nat.sub_le m 1)
theorem ZH{m r:Nat}(e:r=m)(h:m≠0):m-1<r:=Nat.lt_of_lt_of_eq (Nat.sub_one_lt h) e.symm
theorem VY{n:Nat}(h:1<=n):n=n-1+1:=(Nat.sub_add_cancel h).symm
theorem JT{c L:Nat}(e:L=5)(h:1<=c)(g:c<=5):c-1<L:=e▸Nat.lt_of_lt_of_le (Nat.sub_lt h Nat.one_pos) g
theorem Lp{i k:Nat}(h:k<=i):i=k+(i-k):=(Nat.add_sub_cancel' h).symm
theorem Zi{i j k:Nat}(h:k+i<=j):j=k+(j-k):=(Nat.add_sub_cancel' (Nat.le_trans (Nat.le_add_right k i) h)).symm
theorem Qj{m r:Nat}(h:m<r):m+1+(r-(m+1))=r:=Nat.add_sub_cancel' h
theorem Su{a b i:Nat}(h:i<b-a):a+i<b:=Nat.add_lt_of_lt_sub' h
theorem Ya{a b c i:Nat}(h:i<b-a)(g:b<=c):a+i<c:=Nat.lt_of_lt_of_le (Nat.add_lt_of_lt_sub' h) g
theorem Za{a b c i L:Nat}(e:L=c)(h:i<b-a)(g:b<=c):a+i<L:=e▸Nat.lt_of_lt_of_le (Nat.add_lt_of_lt_sub' h) g
theorem PH{a s:Nat}(h:¬s<a):a-s=0:=Nat.sub_eq_zero_of_le (Nat.le_of_not_lt h)
theorem Sy{q l:Nat}(h:q<=l): -(q:Int)+(l:Int)=((l-q:Nat):Int):=by rw [Int.natCast_sub h,Int.add_comm];rfl
theorem Sr{x o:Nat}(h:o<=x):(x:Int)-(o:Int)=((x-o:Nat):Int):=(Int.natCast_sub h).symm
theorem TS{b n:Nat}(h:1<=n):(b:Int)+(n:Int)-1=((b+n-1:Nat):Int):=(Int.natCast_sub (Nat.le_trans h (Nat.le_add_left n b))).symm
theorem Mj{x:Int}(h:0<=x):x=(x.toNat:Int):=(Int.toNat_of_nonneg h).symm
theorem Om{d x y z:Int}(h:d<x)(k:y+x<=z):y+d<z:=Int.lt_of_lt_of_le (Int.add_lt_add_left h y) k
theorem PT{d x y:Int}(h:d<=x)(k:0<=y):d<=x+y:=Int.le_trans h (Int.le_add_of_nonneg_right k)
theorem TA{n a b:Nat}(h:n<=a)(k:Nat.ble a b=true):((n:Int)).natAbs<=b:=u2 h k
theorem aC{a b n:Nat}(h:a<=n)(g:b<=n):((a:Int)-(b:Int)).natAbs<=n:=(Nat.le_total a b).elim (fun k=>by rw [←Int.natAbs_neg,Int.neg_sub,←Int.natCast_sub k];exact Nat.le_trans (Nat.sub_le b a) g) fun k=>by rw [←Int.natCast_sub k];exact Nat.le_trans (Nat.sub_le a b) h
theorem VJ{a b n m:Nat}(h:a<=n)(g:b<=n)(k:Nat.ble (n+1) m=true):((a:Int)-(b:Int)).natAbs<m:=Nat.lt_of_le_of_lt (aC h g) (u1 k)
theorem VG{u n m c:Nat}(h:m<=n)(g:u+8*n+100<c):u+8*m+100<c:=Nat.lt_of_le_of_lt (Nat.add_le_add_right (Nat.add_le_add_left (Nat.mul_le_mul_left 8 h) u) 100) g
theorem Zn{q l:Nat}(h:q<l):(-(q:Int)-1+(l:Int)).toNat=l-1-q:=by
 rw [Int.sub_eq_add_neg,←Int.neg_add,Int.add_comm,←Int.sub_eq_add_neg,Nat.sub_sub,Nat.add_comm];exact Int.toNat_sub l (q+1)
theorem YL{l k:Nat}:((l:Int)-1+ -1*(k:Int)).toNat=l-1-k:=by
 rw [Int.neg_mul,Int.one_mul,Int.sub_eq_add_neg,Int.add_assoc,←Int.neg_add,←Int.sub_eq_add_neg,Nat.sub_sub];exact Int.toNat_sub l (1+k)
theorem SJ{a b:Int}(h:a<b):(b-a).toNat=(b-(a+1)).toNat+1:=by
 have e:b-a=(((b-(a+1)).toNat+1:Nat):Int):=by rw [Int.natCast_add,Int.toNat_of_nonneg (Int.sub_nonneg.mpr h),←Int.sub_sub];exact(Int.sub_add_cancel ..).symm
 rw [e];rfl
theorem Vi{a b:Int}{k:Nat}(h:a<b)(g:(b-a).toNat=k+1):(b-(a+1)).toNat=k:=Nat.succ.inj ((SJ h).symm.trans g)
theorem Wp{a b:Int}(h:a<b):(b-a).toNat=(b-a).toNat-1+1:=by rw [SJ h];rfl
theorem ZB{a b:Nat}(h:a<=b):a+(b-a)=b:=Nat.add_sub_cancel' h
theorem Ys{a b:Nat}(h:¬a<=b):a-b=a-(b+1)+1:=x9 (Nat.lt_of_not_le h)
theorem Wr{T s w d:Nat}(h:s+w<=T)(g:1<=w)(k:T-s=d):T-(s+w)<d:=k▸Nat.sub_lt_sub_left (Nat.lt_of_lt_of_le (Nat.lt_add_of_pos_right g) h) (Nat.lt_add_of_pos_right g)
theorem VZ{T s w d f:Nat}(h:s+w<=T)(g:1<=w)(k:T-s=d)(j:d<f+1):T-(s+w)<f:=Nat.lt_of_lt_of_le (Wr h g k) (Nat.le_of_lt_succ j)
theorem UZ{L p f:Nat}(h:p<=L)(n:¬p=L)(k:L-p<f+1):L-(p+1)<f:=x4 (Nat.lt_of_le_of_ne h n) (Nat.lt_succ_self p) k
theorem Yj{p N s a c:Nat}(h:N<=a)(k:Nat.ble a c=true):min p N<=c+s:=Nat.le_trans (Nat.min_le_right p N) (Nat.le_trans (u2 h k) (Nat.le_add_right c s))
theorem aA{Y L a c d:Nat}(h:L+a<=Y)(e:a=c+d):min d (Y-(L+c))=d:=Nat.min_eq_left (Nat.le_sub_of_add_le (by rw [Nat.add_comm,Nat.add_assoc,←e];exact h))
theorem VD{Y L a c d:Nat}(h:L+a<=Y)(e:a=c+d):min c (Y-L)=c:=Nat.min_eq_left (Nat.le_sub_of_add_le (Nat.le_trans (by rw [e,Nat.add_comm,←Nat.add_assoc];exact Nat.le_add_right _ _) h))
theorem ZV{X L c:Nat}(h:L+c<=X):min L X+(c+(X-(L+c)))=X:=by rw [Nat.min_eq_left (Nat.le_trans (Nat.le_add_right L c) h),←Nat.add_assoc];exact Nat.add_sub_cancel' h
theorem ZS{L m a c:Nat}(e:L=a-m)(k:Nat.ble a c=true):L<=c:=e▸Nat.le_trans (Nat.sub_le a m) (u1 k)
theorem UK{L m a c:Nat}(e:L=a-m)(k:Nat.ble (a+3) c=true):L+1+1<c:=Nat.lt_of_lt_of_le (Nat.succ_lt_succ (Nat.succ_lt_succ (Nat.lt_succ_of_le (e▸Nat.sub_le a m)))) (u1 k)
theorem YZ{y m:Int}(h:0<m)(k:y<m):(y.toNat:Int)<m:=by
 rcases Int.le_total 0 y with g |g
 ·rw [Int.toNat_of_nonneg g];exact k
 ·rw [Int.toNat_of_nonpos g];exact h
theorem UH{a b m n:Nat}(h:b<=n)(e:a=b-m):a<=n:=e▸Nat.le_trans (Nat.sub_le b m) h
theorem Zl{i n:Nat}(h:i<n):min (n+1) (2*n-i)=n+1:=Nat.min_eq_left (Nat.le_sub_of_add_le (by rw [Nat.two_mul,Nat.add_assoc];exact Nat.add_le_add_left (by rw [Nat.add_comm];exact h) n))
theorem ZX{j:Int}{X V:Nat}(h:j<=(X:Int))(e:V=X):min j.toNat V=j.toNat:=Nat.min_eq_left (e▸Int.toNat_le.mpr h)
theorem ZN{a:Nat}:a=a/2+(a-a/2):=(Nat.add_sub_cancel' (Nat.div_le_self a 2)).symm
theorem Vq{a b:Nat}:((a:Int)-(b:Int)).natAbs=((b:Int)-(a:Int)).natAbs:=by rw [←Int.natAbs_neg,Int.neg_sub]
theorem Zm{b n:Nat}(h:b<=19*n)(g:1<=n):b+n-1<n*Nat.succ 20:=Nat.lt_of_lt_of_le (Nat.sub_lt (Nat.lt_of_lt_of_le g (Nat.le_add_left n b)) Nat.one_pos) (Nat.le_trans (Nat.add_le_add_right h n) (by rw [←Nat.succ_mul,Nat.mul_comm];exact Nat.mul_le_mul_left n (by decide)))
theorem Yd{w N b:Nat}(h:¬b<=w*N):w*N+w<=b+w-1:=Nat.le_sub_of_add_le (by rw [Nat.add_assoc,Nat.add_comm w 1,←Nat.add_assoc];exact Nat.add_le_add_right (Nat.lt_of_not_le h) w)
theorem YA{w a b:Nat}(g:1<=w)(h:b<=a+w):b+w-1<a+w+w:=Nat.lt_of_lt_of_le (Nat.sub_lt (Nat.lt_of_lt_of_le g (Nat.le_add_left w b)) Nat.one_pos) (Nat.add_le_add_right h w)
theorem Zj{a b:Nat}(h:a=b):(a:Int)-(b:Int)=0:=by rw [h];exact Int.sub_self _
theorem XZ{h s:Int}{Y:Nat}(e:s=0∨s=1)(k:h.natAbs<Y):(-h-s).natAbs<Y*2:=by
 rw [Int.sub_eq_add_neg,←Int.neg_add,Int.natAbs_neg,Nat.mul_two]
 refine Nat.lt_of_le_of_lt (Int.natAbs_add_le h s) (Nat.add_lt_add_of_lt_of_le k ?_)
 rcases e with e |e
 ·rw [e];exact Nat.zero_le _
 ·rw [e];exact Nat.lt_of_le_of_lt (Nat.zero_le _) k
theorem UD{lo hi f:Nat}(k:hi-lo<f+1)(h:lo<hi):hi-((lo+hi)/2+1)<f:=by
 have m1:(lo+hi)/2<hi:=Nat.div_lt_of_lt_mul (by rw [Nat.two_mul];exact Nat.add_lt_add_right h hi)
 have m2:lo<=(lo+hi)/2:=(Nat.le_div_iff_mul_le (by decide)).mpr (by rw [Nat.mul_two];exact Nat.add_le_add_left (Nat.le_of_lt h) lo)
 exact x4 m1 (Nat.lt_succ_of_le m2) k
theorem Vp{lo hi f:Nat}(k:hi-lo<f+1)(h:lo<hi):(lo+hi)/2-lo<f:=by
 have m1:(lo+hi)/2<hi:=Nat.div_lt_of_lt_mul (by rw [Nat.two_mul];exact Nat.add_lt_add_right h hi)
 have m2:lo<=(lo+hi)/2:=(Nat.le_div_iff_mul_le (by decide)).mpr (by rw [Nat.mul_two];exact Nat.add_le_add_left (Nat.le_of_lt h) lo)
 exact Nat.lt_of_lt_of_le (Nat.sub_lt_sub_right m2 m1) (Nat.le_of_lt_succ k)
theorem Yu(a b:Nat):(((a:Int)-(b:Int)).natAbs:Int)=((a-min a b:Nat):Int)+((b-min a b:Nat):Int):=by
 rcases Nat.le_total a b with h |h
 ·rw [Nat.min_eq_left h,Nat.sub_self,Vq,←Int.natCast_sub h];exact(Int.zero_add _).symm
 ·rw [Nat.min_eq_right h,Nat.sub_self,←Int.natCast_sub h];exact(Int.add_zero _).symm
theorem Yo{x:Int}(h:¬0<=x):(-x-1).natAbs<=x.natAbs:=by
 obtain⟨n,rfl⟩:∃n:Nat,x=Int.negSucc n:=by
  cases x with
  |ofNat n=>exact absurd (Int.natCast_nonneg n) h
  |negSucc n=>exact⟨n,rfl⟩
 exact(show(((n+1:Nat):Int)-1).natAbs<=n+1 from by rw [Int.natCast_add];exact(show((n:Int)+1-1).natAbs<=n+1 from by rw [Int.add_sub_cancel];exact Nat.le_succ n))
@[elab_as_elim] theorem dN{α:Sort _}{a b:α}{p:α->Prop}(e:a=b)(h:p b):p a:=e▸h
@[elab_as_elim] theorem cD{α:Sort _}{a b:α}{p:α->Prop}(e:a=b)(h:p a):p b:=e▸h
universe u
theorem on{α:Type u}{a:α}{p:Prop}(h:none=some a):p:=by cases h
theorem ZM{α:Type u}{a:α}{p:Prop}(h:some a=none):p:=by cases h
theorem tf{p:Prop}(h:true=false):p:=by cases h
theorem ft{p:Prop}(h:false=true):p:=by cases h
theorem HF{α:Type u}{a:α}{l:List α}{p:Prop}(h:a::l=[]):p:=by cases h
theorem Hw{α:Type u}{a:α}{l:List α}{p:Prop}(h:[]=a::l):p:=by cases h
theorem Jd{α:Type u}{a b:α}{l m:List α}{p:Prop}(h:a::l=b::m)(k:a=b->l=m->p):p:=by cases h;exact k rfl rfl
theorem T6{α:Type u}{a b:α}{p:Prop}(f:α->Nat)(h:a=b)(k:Nat.beq (f a) (f b)=false):p:=by subst h;rw [Nat.beq_refl]at k;cases k
set_option compiler.extract_closed false
set_option hygiene false
def wS(m:Lean.MacroM (Lean.TSyntax `tactic))(c:Char):Lean.MacroM (Lean.TSyntax `tactic):=do
 let l:=(("00c0 00Ck 10P1 00P7 10Xt 00Sj 00JH 00F4 00TB 10XF 30WU 20XO 10R8 20ZW 00Id 00Sw 00Bf 00EX 00WV 00SW 00Dp 00OY 00XA 00BU 00bC 00e_not 00aL 00VE 00aE 00Th 00Xu 10Gs 00Ce 00G3 00KG 00Sn 00VP 30YU 00Eh 00XX 20Ie 00Kq 00b_ite 11Yr 11ZE 00Zd 01DE 00XY 00aY 10bA 00Yy 00Zu 01VW 00CW 00aS 00YW 00aZ - 00bG 00bI 00cJ 00aO 10aI 20Rb 00CB 00Yl 00ZZ 10FN 10Pw 00Vh 10Xo 10Ub 00V6".splitOn " ").getD (c.toNat-35) "").toList
 let x ← `(by first |assumption |with_unfolding_all exact rfl |decide)
 let f:=fun(i:Nat)=>Array.replicate (((l.getD i '0')).toNat-48) x
 let t ←m
 if c=='!' then `(tactic| (dsimp only; $t:tactic))else `(tactic| (with_reducible refine $(Lean.Syntax.mkApp (Lean.mkIdent (.mkSimple (String.ofList (l.drop 2)))) ((f 0).push (← `(?_))++f 1)); $t:tactic))
def wK(s:List Char):Lean.MacroM (Lean.TSyntax `tactic):=s.reverse.foldl wS `(tactic|skip)
def wQ(m:Lean.MacroM (Lean.TSyntax `tactic))(x:Lean.Syntax):Lean.MacroM (Lean.TSyntax `tactic):=do `(tactic| (refine $(Lean.mkIdent (if x[0].isNone then `dN else `cD)) ($(⟨x[1]⟩) ..) ?_; $(←m):tactic))
def wR(s:List Lean.Syntax):Lean.MacroM (Lean.TSyntax `tactic):=s.reverse.foldl wQ `(tactic|skip)
theorem b7{p0 p1:Prop}{G:Prop}(h:p0∧p1)(k:p0->p1->G):G:=k h.1 h.2
theorem B2{p0 p1 p2:Prop}{G:Prop}(h:p0∧p1∧p2)(k:p0->p1->p2->G):G:=k h.1 h.2.1 h.2.2
theorem BM{p0 p1 p2 p3:Prop}{G:Prop}(h:p0∧p1∧p2∧p3)(k:p0->p1->p2->p3->G):G:=k h.1 h.2.1 h.2.2.1 h.2.2.2
theorem Vo{p0 p1 p2 p3 p4 p5:Prop}{G:Prop}(h:p0∧p1∧p2∧p3∧p4∧p5)(k:p0->p1->p2->p3->p4->p5->G):G:=k h.1 h.2.1 h.2.2.1 h.2.2.2.1 h.2.2.2.2.1 h.2.2.2.2.2
theorem f8{eI:Sort _}{p0:eI->Prop}{G:Prop}(h:∃a0,p0 a0)(k:∀a0,p0 a0->G):G:=h.elim fun a0 h=>k a0 h
theorem a9{eI:Sort _}{p0 p1:eI->Prop}{G:Prop}(h:∃a0,p0 a0∧p1 a0)(k:∀a0,p0 a0->p1 a0->G):G:=h.elim fun a0 h=>k a0 h.1 h.2
theorem E6{eI:Sort _}{p0 p1 p2:eI->Prop}{G:Prop}(h:∃a0,p0 a0∧p1 a0∧p2 a0)(k:∀a0,p0 a0->p1 a0->p2 a0->G):G:=h.elim fun a0 h=>k a0 h.1 h.2.1 h.2.2
theorem FD{eI:Sort _}{p0 p1 p2 p3:eI->Prop}{G:Prop}(h:∃a0,p0 a0∧p1 a0∧p2 a0∧p3 a0)(k:∀a0,p0 a0->p1 a0->p2 a0->p3 a0->G):G:=h.elim fun a0 h=>k a0 h.1 h.2.1 h.2.2.1 h.2.2.2
theorem RT{eI:Sort _}{p0 p1 p2 p3 p4:eI->Prop}{G:Prop}(h:∃a0,p0 a0∧p1 a0∧p2 a0∧p3 a0∧p4 a0)(k:∀a0,p0 a0->p1 a0->p2 a0->p3 a0->p4 a0->G):G:=h.elim fun a0 h=>k a0 h.1 h.2.1 h.2.2.1 h.2.2.2.1 h.2.2.2.2
theorem I9{eI:Sort _}{eL:Sort _}{p0:eI->eL->Prop}{G:Prop}(h:∃a0 a1,p0 a0 a1)(k:∀a0 a1,p0 a0 a1->G):G:=h.elim fun a0 h=>h.elim fun a1 h=>k a0 a1 h
theorem o1{eI:Sort _}{eL:Sort _}{p0 p1:eI->eL->Prop}{G:Prop}(h:∃a0 a1,p0 a0 a1∧p1 a0 a1)(k:∀a0 a1,p0 a0 a1->p1 a0 a1->G):G:=h.elim fun a0 h=>h.elim fun a1 h=>k a0 a1 h.1 h.2
theorem o4{eI:Sort _}{eL:Sort _}{p0 p1 p2:eI->eL->Prop}{G:Prop}(h:∃a0 a1,p0 a0 a1∧p1 a0 a1∧p2 a0 a1)(k:∀a0 a1,p0 a0 a1->p1 a0 a1->p2 a0 a1->G):G:=h.elim fun a0 h=>h.elim fun a1 h=>k a0 a1 h.1 h.2.1 h.2.2
theorem RK{eI:Sort _}{eL:Sort _}{p0 p1 p2 p3:eI->eL->Prop}{G:Prop}(h:∃a0 a1,p0 a0 a1∧p1 a0 a1∧p2 a0 a1∧p3 a0 a1)(k:∀a0 a1,p0 a0 a1->p1 a0 a1->p2 a0 a1->p3 a0 a1->G):G:=h.elim fun a0 h=>h.elim fun a1 h=>k a0 a1 h.1 h.2.1 h.2.2.1 h.2.2.2
theorem UW{eI:Sort _}{eL:Sort _}{p0 p1 p2 p3 p4 p5:eI->eL->Prop}{G:Prop}(h:∃a0 a1,p0 a0 a1∧p1 a0 a1∧p2 a0 a1∧p3 a0 a1∧p4 a0 a1∧p5 a0 a1)(k:∀a0 a1,p0 a0 a1->p1 a0 a1->p2 a0 a1->p3 a0 a1->p4 a0 a1->p5 a0 a1->G):G:=h.elim fun a0 h=>h.elim fun a1 h=>k a0 a1 h.1 h.2.1 h.2.2.1 h.2.2.2.1 h.2.2.2.2.1 h.2.2.2.2.2
theorem Ll{eI:Sort _}{eL:Sort _}{eN:Sort _}{p0:eI->eL->eN->Prop}{G:Prop}(h:∃a0 a1 a2,p0 a0 a1 a2)(k:∀a0 a1 a2,p0 a0 a1 a2->G):G:=h.elim fun a0 h=>h.elim fun a1 h=>h.elim fun a2 h=>k a0 a1 a2 h
theorem Vu{eI:Sort _}{eL:Sort _}{eN:Sort _}{p0 p1:eI->eL->eN->Prop}{G:Prop}(h:∃a0 a1 a2,p0 a0 a1 a2∧p1 a0 a1 a2)(k:∀a0 a1 a2,p0 a0 a1 a2->p1 a0 a1 a2->G):G:=h.elim fun a0 h=>h.elim fun a1 h=>h.elim fun a2 h=>k a0 a1 a2 h.1 h.2
theorem Fo{eI:Sort _}{eL:Sort _}{eN:Sort _}{p0 p1 p2:eI->eL->eN->Prop}{G:Prop}(h:∃a0 a1 a2,p0 a0 a1 a2∧p1 a0 a1 a2∧p2 a0 a1 a2)(k:∀a0 a1 a2,p0 a0 a1 a2->p1 a0 a1 a2->p2 a0 a1 a2->G):G:=h.elim fun a0 h=>h.elim fun a1 h=>h.elim fun a2 h=>k a0 a1 a2 h.1 h.2.1 h.2.2
theorem r5{eI:Sort _}{eL:Sort _}{eN:Sort _}{p0 p1 p2 p3:eI->eL->eN->Prop}{G:Prop}(h:∃a0 a1 a2,p0 a0 a1 a2∧p1 a0 a1 a2∧p2 a0 a1 a2∧p3 a0 a1 a2)(k:∀a0 a1 a2,p0 a0 a1 a2->p1 a0 a1 a2->p2 a0 a1 a2->p3 a0 a1 a2->G):G:=h.elim fun a0 h=>h.elim fun a1 h=>h.elim fun a2 h=>k a0 a1 a2 h.1 h.2.1 h.2.2.1 h.2.2.2
theorem KS{eI:Sort _}{eL:Sort _}{eN:Sort _}{p0 p1 p2 p3 p4 p5:eI->eL->eN->Prop}{G:Prop}(h:∃a0 a1 a2,p0 a0 a1 a2∧p1 a0 a1 a2∧p2 a0 a1 a2∧p3 a0 a1 a2∧p4 a0 a1 a2∧p5 a0 a1 a2)(k:∀a0 a1 a2,p0 a0 a1 a2->p1 a0 a1 a2->p2 a0 a1 a2->p3 a0 a1 a2->p4 a0 a1 a2->p5 a0 a1 a2->G):G:=h.elim fun a0 h=>h.elim fun a1 h=>h.elim fun a2 h=>k a0 a1 a2 h.1 h.2.1 h.2.2.1 h.2.2.2.1 h.2.2.2.2.1 h.2.2.2.2.2
theorem BQ{eI:Sort _}{eL:Sort _}{eN:Sort _}{eU:Sort _}{p0 p1:eI->eL->eN->eU->Prop}{G:Prop}(h:∃a0 a1 a2 a3,p0 a0 a1 a2 a3∧p1 a0 a1 a2 a3)(k:∀a0 a1 a2 a3,p0 a0 a1 a2 a3->p1 a0 a1 a2 a3->G):G:=h.elim fun a0 h=>h.elim fun a1 h=>h.elim fun a2 h=>h.elim fun a3 h=>k a0 a1 a2 a3 h.1 h.2
theorem DX{eI:Sort _}{eL:Sort _}{eN:Sort _}{eU:Sort _}{p0 p1 p2:eI->eL->eN->eU->Prop}{G:Prop}(h:∃a0 a1 a2 a3,p0 a0 a1 a2 a3∧p1 a0 a1 a2 a3∧p2 a0 a1 a2 a3)(k:∀a0 a1 a2 a3,p0 a0 a1 a2 a3->p1 a0 a1 a2 a3->p2 a0 a1 a2 a3->G):G:=h.elim fun a0 h=>h.elim fun a1 h=>h.elim fun a2 h=>h.elim fun a3 h=>k a0 a1 a2 a3 h.1 h.2.1 h.2.2
theorem FH{eI:Sort _}{eL:Sort _}{eN:Sort _}{eU:Sort _}{p0 p1 p2 p3:eI->eL->eN->eU->Prop}{G:Prop}(h:∃a0 a1 a2 a3,p0 a0 a1 a2 a3∧p1 a0 a1 a2 a3∧p2 a0 a1 a2 a3∧p3 a0 a1 a2 a3)(k:∀a0 a1 a2 a3,p0 a0 a1 a2 a3->p1 a0 a1 a2 a3->p2 a0 a1 a2 a3->p3 a0 a1 a2 a3->G):G:=h.elim fun a0 h=>h.elim fun a1 h=>h.elim fun a2 h=>h.elim fun a3 h=>k a0 a1 a2 a3 h.1 h.2.1 h.2.2.1 h.2.2.2
theorem Fj{eI:Sort _}{eL:Sort _}{eN:Sort _}{eU:Sort _}{p0 p1 p2 p3 p4:eI->eL->eN->eU->Prop}{G:Prop}(h:∃a0 a1 a2 a3,p0 a0 a1 a2 a3∧p1 a0 a1 a2 a3∧p2 a0 a1 a2 a3∧p3 a0 a1 a2 a3∧p4 a0 a1 a2 a3)(k:∀a0 a1 a2 a3,p0 a0 a1 a2 a3->p1 a0 a1 a2 a3->p2 a0 a1 a2 a3->p3 a0 a1 a2 a3->p4 a0 a1 a2 a3->G):G:=h.elim fun a0 h=>h.elim fun a1 h=>h.elim fun a2 h=>h.elim fun a3 h=>k a0 a1 a2 a3 h.1 h.2.1 h.2.2.1 h.2.2.2.1 h.2.2.2.2
theorem FO{eI:Sort _}{eL:Sort _}{eN:Sort _}{eU:Sort _}{p0 p1 p2 p3 p4 p5:eI->eL->eN->eU->Prop}{G:Prop}(h:∃a0 a1 a2 a3,p0 a0 a1 a2 a3∧p1 a0 a1 a2 a3∧p2 a0 a1 a2 a3∧p3 a0 a1 a2 a3∧p4 a0 a1 a2 a3∧p5 a0 a1 a2 a3)(k:∀a0 a1 a2 a3,p0 a0 a1 a2 a3->p1 a0 a1 a2 a3->p2 a0 a1 a2 a3->p3 a0 a1 a2 a3->p4 a0 a1 a2 a3->p5 a0 a1 a2 a3->G):G:=h.elim fun a0 h=>h.elim fun a1 h=>h.elim fun a2 h=>h.elim fun a3 h=>k a0 a1 a2 a3 h.1 h.2.1 h.2.2.1 h.2.2.2.1 h.2.2.2.2.1 h.2.2.2.2.2
theorem CD{eI:Sort _}{eL:Sort _}{eN:Sort _}{eU:Sort _}{p0 p1 p2 p3 p4 p5 p6:eI->eL->eN->eU->Prop}{G:Prop}(h:∃a0 a1 a2 a3,p0 a0 a1 a2 a3∧p1 a0 a1 a2 a3∧p2 a0 a1 a2 a3∧p3 a0 a1 a2 a3∧p4 a0 a1 a2 a3∧p5 a0 a1 a2 a3∧p6 a0 a1 a2 a3)(k:∀a0 a1 a2 a3,p0 a0 a1 a2 a3->p1 a0 a1 a2 a3->p2 a0 a1 a2 a3->p3 a0 a1 a2 a3->p4 a0 a1 a2 a3->p5 a0 a1 a2 a3->p6 a0 a1 a2 a3->G):G:=h.elim fun a0 h=>h.elim fun a1 h=>h.elim fun a2 h=>h.elim fun a3 h=>k a0 a1 a2 a3 h.1 h.2.1 h.2.2.1 h.2.2.2.1 h.2.2.2.2.1 h.2.2.2.2.2.1 h.2.2.2.2.2.2
theorem RP{eI:Sort _}{eL:Sort _}{eN:Sort _}{eU:Sort _}{p0 p1 p2 p3 p4 p5 p6 p7 p8:eI->eL->eN->eU->Prop}{G:Prop}(h:∃a0 a1 a2 a3,p0 a0 a1 a2 a3∧p1 a0 a1 a2 a3∧p2 a0 a1 a2 a3∧p3 a0 a1 a2 a3∧p4 a0 a1 a2 a3∧p5 a0 a1 a2 a3∧p6 a0 a1 a2 a3∧p7 a0 a1 a2 a3∧p8 a0 a1 a2 a3)(k:∀a0 a1 a2 a3,p0 a0 a1 a2 a3->p1 a0 a1 a2 a3->p2 a0 a1 a2 a3->p3 a0 a1 a2 a3->p4 a0 a1 a2 a3->p5 a0 a1 a2 a3->p6 a0 a1 a2 a3->p7 a0 a1 a2 a3->p8 a0 a1 a2 a3->G):G:=h.elim fun a0 h=>h.elim fun a1 h=>h.elim fun a2 h=>h.elim fun a3 h=>k a0 a1 a2 a3 h.1 h.2.1 h.2.2.1 h.2.2.2.1 h.2.2.2.2.1 h.2.2.2.2.2.1 h.2.2.2.2.2.2.1 h.2.2.2.2.2.2.2.1 h.2.2.2.2.2.2.2.2
theorem Mx{eI:Sort _}{eL:Sort _}{eN:Sort _}{eU:Sort _}{fD:Sort _}{p0 p1:eI->eL->eN->eU->fD->Prop}{G:Prop}(h:∃a0 a1 a2 a3 a4,p0 a0 a1 a2 a3 a4∧p1 a0 a1 a2 a3 a4)(k:∀a0 a1 a2 a3 a4,p0 a0 a1 a2 a3 a4->p1 a0 a1 a2 a3 a4->G):G:=h.elim fun a0 h=>h.elim fun a1 h=>h.elim fun a2 h=>h.elim fun a3 h=>h.elim fun a4 h=>k a0 a1 a2 a3 a4 h.1 h.2
theorem UJ{eI:Sort _}{eL:Sort _}{eN:Sort _}{eU:Sort _}{fD:Sort _}{p0 p1 p2:eI->eL->eN->eU->fD->Prop}{G:Prop}(h:∃a0 a1 a2 a3 a4,p0 a0 a1 a2 a3 a4∧p1 a0 a1 a2 a3 a4∧p2 a0 a1 a2 a3 a4)(k:∀a0 a1 a2 a3 a4,p0 a0 a1 a2 a3 a4->p1 a0 a1 a2 a3 a4->p2 a0 a1 a2 a3 a4->G):G:=h.elim fun a0 h=>h.elim fun a1 h=>h.elim fun a2 h=>h.elim fun a3 h=>h.elim fun a4 h=>k a0 a1 a2 a3 a4 h.1 h.2.1 h.2.2
theorem IQ{eI:Sort _}{eL:Sort _}{eN:Sort _}{eU:Sort _}{fD:Sort _}{p0 p1 p2 p3 p4:eI->eL->eN->eU->fD->Prop}{G:Prop}(h:∃a0 a1 a2 a3 a4,p0 a0 a1 a2 a3 a4∧p1 a0 a1 a2 a3 a4∧p2 a0 a1 a2 a3 a4∧p3 a0 a1 a2 a3 a4∧p4 a0 a1 a2 a3 a4)(k:∀a0 a1 a2 a3 a4,p0 a0 a1 a2 a3 a4->p1 a0 a1 a2 a3 a4->p2 a0 a1 a2 a3 a4->p3 a0 a1 a2 a3 a4->p4 a0 a1 a2 a3 a4->G):G:=h.elim fun a0 h=>h.elim fun a1 h=>h.elim fun a2 h=>h.elim fun a3 h=>h.elim fun a4 h=>k a0 a1 a2 a3 a4 h.1 h.2.1 h.2.2.1 h.2.2.2.1 h.2.2.2.2
theorem KB{eI:Sort _}{eL:Sort _}{eN:Sort _}{eU:Sort _}{fD:Sort _}{p0 p1 p2 p3 p4 p5 p6:eI->eL->eN->eU->fD->Prop}{G:Prop}(h:∃a0 a1 a2 a3 a4,p0 a0 a1 a2 a3 a4∧p1 a0 a1 a2 a3 a4∧p2 a0 a1 a2 a3 a4∧p3 a0 a1 a2 a3 a4∧p4 a0 a1 a2 a3 a4∧p5 a0 a1 a2 a3 a4∧p6 a0 a1 a2 a3 a4)(k:∀a0 a1 a2 a3 a4,p0 a0 a1 a2 a3 a4->p1 a0 a1 a2 a3 a4->p2 a0 a1 a2 a3 a4->p3 a0 a1 a2 a3 a4->p4 a0 a1 a2 a3 a4->p5 a0 a1 a2 a3 a4->p6 a0 a1 a2 a3 a4->G):G:=h.elim fun a0 h=>h.elim fun a1 h=>h.elim fun a2 h=>h.elim fun a3 h=>h.elim fun a4 h=>k a0 a1 a2 a3 a4 h.1 h.2.1 h.2.2.1 h.2.2.2.1 h.2.2.2.2.1 h.2.2.2.2.2.1 h.2.2.2.2.2.2
theorem RH{eI:Sort _}{eL:Sort _}{eN:Sort _}{eU:Sort _}{fD:Sort _}{p0 p1 p2 p3 p4 p5 p6 p7:eI->eL->eN->eU->fD->Prop}{G:Prop}(h:∃a0 a1 a2 a3 a4,p0 a0 a1 a2 a3 a4∧p1 a0 a1 a2 a3 a4∧p2 a0 a1 a2 a3 a4∧p3 a0 a1 a2 a3 a4∧p4 a0 a1 a2 a3 a4∧p5 a0 a1 a2 a3 a4∧p6 a0 a1 a2 a3 a4∧p7 a0 a1 a2 a3 a4)(k:∀a0 a1 a2 a3 a4,p0 a0 a1 a2 a3 a4->p1 a0 a1 a2 a3 a4->p2 a0 a1 a2 a3 a4->p3 a0 a1 a2 a3 a4->p4 a0 a1 a2 a3 a4->p5 a0 a1 a2 a3 a4->p6 a0 a1 a2 a3 a4->p7 a0 a1 a2 a3 a4->G):G:=h.elim fun a0 h=>h.elim fun a1 h=>h.elim fun a2 h=>h.elim fun a3 h=>h.elim fun a4 h=>k a0 a1 a2 a3 a4 h.1 h.2.1 h.2.2.1 h.2.2.2.1 h.2.2.2.2.1 h.2.2.2.2.2.1 h.2.2.2.2.2.2.1 h.2.2.2.2.2.2.2
theorem Oz{eI:Sort _}{eL:Sort _}{eN:Sort _}{eU:Sort _}{fD:Sort _}{p0 p1 p2 p3 p4 p5 p6 p7 p8 p9:eI->eL->eN->eU->fD->Prop}{G:Prop}(h:∃a0 a1 a2 a3 a4,p0 a0 a1 a2 a3 a4∧p1 a0 a1 a2 a3 a4∧p2 a0 a1 a2 a3 a4∧p3 a0 a1 a2 a3 a4∧p4 a0 a1 a2 a3 a4∧p5 a0 a1 a2 a3 a4∧p6 a0 a1 a2 a3 a4∧p7 a0 a1 a2 a3 a4∧p8 a0 a1 a2 a3 a4∧p9 a0 a1 a2 a3 a4)(k:∀a0 a1 a2 a3 a4,p0 a0 a1 a2 a3 a4->p1 a0 a1 a2 a3 a4->p2 a0 a1 a2 a3 a4->p3 a0 a1 a2 a3 a4->p4 a0 a1 a2 a3 a4->p5 a0 a1 a2 a3 a4->p6 a0 a1 a2 a3 a4->p7 a0 a1 a2 a3 a4->p8 a0 a1 a2 a3 a4->p9 a0 a1 a2 a3 a4->G):G:=h.elim fun a0 h=>h.elim fun a1 h=>h.elim fun a2 h=>h.elim fun a3 h=>h.elim fun a4 h=>k a0 a1 a2 a3 a4 h.1 h.2.1 h.2.2.1 h.2.2.2.1 h.2.2.2.2.1 h.2.2.2.2.2.1 h.2.2.2.2.2.2.1 h.2.2.2.2.2.2.2.1 h.2.2.2.2.2.2.2.2.1 h.2.2.2.2.2.2.2.2.2
theorem UL{eI:Sort _}{eL:Sort _}{eN:Sort _}{eU:Sort _}{fD:Sort _}{fS:Sort _}{p0:eI->eL->eN->eU->fD->fS->Prop}{G:Prop}(h:∃a0 a1 a2 a3 a4 a5,p0 a0 a1 a2 a3 a4 a5)(k:∀a0 a1 a2 a3 a4 a5,p0 a0 a1 a2 a3 a4 a5->G):G:=h.elim fun a0 h=>h.elim fun a1 h=>h.elim fun a2 h=>h.elim fun a3 h=>h.elim fun a4 h=>h.elim fun a5 h=>k a0 a1 a2 a3 a4 a5 h
theorem Nj{eI:Sort _}{eL:Sort _}{eN:Sort _}{eU:Sort _}{fD:Sort _}{fS:Sort _}{p0 p1:eI->eL->eN->eU->fD->fS->Prop}{G:Prop}(h:∃a0 a1 a2 a3 a4 a5,p0 a0 a1 a2 a3 a4 a5∧p1 a0 a1 a2 a3 a4 a5)(k:∀a0 a1 a2 a3 a4 a5,p0 a0 a1 a2 a3 a4 a5->p1 a0 a1 a2 a3 a4 a5->G):G:=h.elim fun a0 h=>h.elim fun a1 h=>h.elim fun a2 h=>h.elim fun a3 h=>h.elim fun a4 h=>h.elim fun a5 h=>k a0 a1 a2 a3 a4 a5 h.1 h.2
theorem KA{eI:Sort _}{eL:Sort _}{eN:Sort _}{eU:Sort _}{fD:Sort _}{fS:Sort _}{p0 p1 p2 p3:eI->eL->eN->eU->fD->fS->Prop}{G:Prop}(h:∃a0 a1 a2 a3 a4 a5,p0 a0 a1 a2 a3 a4 a5∧p1 a0 a1 a2 a3 a4 a5∧p2 a0 a1 a2 a3 a4 a5∧p3 a0 a1 a2 a3 a4 a5)(k:∀a0 a1 a2 a3 a4 a5,p0 a0 a1 a2 a3 a4 a5->p1 a0 a1 a2 a3 a4 a5->p2 a0 a1 a2 a3 a4 a5->p3 a0 a1 a2 a3 a4 a5->G):G:=h.elim fun a0 h=>h.elim fun a1 h=>h.elim fun a2 h=>h.elim fun a3 h=>h.elim fun a4 h=>h.elim fun a5 h=>k a0 a1 a2 a3 a4 a5 h.1 h.2.1 h.2.2.1 h.2.2.2
theorem Sg{eI:Sort _}{eL:Sort _}{eN:Sort _}{eU:Sort _}{fD:Sort _}{fS:Sort _}{p0 p1 p2 p3 p4:eI->eL->eN->eU->fD->fS->Prop}{G:Prop}(h:∃a0 a1 a2 a3 a4 a5,p0 a0 a1 a2 a3 a4 a5∧p1 a0 a1 a2 a3 a4 a5∧p2 a0 a1 a2 a3 a4 a5∧p3 a0 a1 a2 a3 a4 a5∧p4 a0 a1 a2 a3 a4 a5)(k:∀a0 a1 a2 a3 a4 a5,p0 a0 a1 a2 a3 a4 a5->p1 a0 a1 a2 a3 a4 a5->p2 a0 a1 a2 a3 a4 a5->p3 a0 a1 a2 a3 a4 a5->p4 a0 a1 a2 a3 a4 a5->G):G:=h.elim fun a0 h=>h.elim fun a1 h=>h.elim fun a2 h=>h.elim fun a3 h=>h.elim fun a4 h=>h.elim fun a5 h=>k a0 a1 a2 a3 a4 a5 h.1 h.2.1 h.2.2.1 h.2.2.2.1 h.2.2.2.2
theorem VO{eI:Sort _}{eL:Sort _}{eN:Sort _}{eU:Sort _}{fD:Sort _}{fS:Sort _}{gS:Sort _}{p0 p1 p2 p3 p4 p5:eI->eL->eN->eU->fD->fS->gS->Prop}{G:Prop}(h:∃a0 a1 a2 a3 a4 a5 a6,p0 a0 a1 a2 a3 a4 a5 a6∧p1 a0 a1 a2 a3 a4 a5 a6∧p2 a0 a1 a2 a3 a4 a5 a6∧p3 a0 a1 a2 a3 a4 a5 a6∧p4 a0 a1 a2 a3 a4 a5 a6∧p5 a0 a1 a2 a3 a4 a5 a6)(k:∀a0 a1 a2 a3 a4 a5 a6,p0 a0 a1 a2 a3 a4 a5 a6->p1 a0 a1 a2 a3 a4 a5 a6->p2 a0 a1 a2 a3 a4 a5 a6->p3 a0 a1 a2 a3 a4 a5 a6->p4 a0 a1 a2 a3 a4 a5 a6->p5 a0 a1 a2 a3 a4 a5 a6->G):G:=h.elim fun a0 h=>h.elim fun a1 h=>h.elim fun a2 h=>h.elim fun a3 h=>h.elim fun a4 h=>h.elim fun a5 h=>h.elim fun a6 h=>k a0 a1 a2 a3 a4 a5 a6 h.1 h.2.1 h.2.2.1 h.2.2.2.1 h.2.2.2.2.1 h.2.2.2.2.2
theorem WG{eI:Sort _}{eL:Sort _}{eN:Sort _}{eU:Sort _}{fD:Sort _}{fS:Sort _}{gS:Sort _}{gZ:Sort _}{p0 p1 p2 p3 p4 p5:eI->eL->eN->eU->fD->fS->gS->gZ->Prop}{G:Prop}(h:∃a0 a1 a2 a3 a4 a5 a6 a7,p0 a0 a1 a2 a3 a4 a5 a6 a7∧p1 a0 a1 a2 a3 a4 a5 a6 a7∧p2 a0 a1 a2 a3 a4 a5 a6 a7∧p3 a0 a1 a2 a3 a4 a5 a6 a7∧p4 a0 a1 a2 a3 a4 a5 a6 a7∧p5 a0 a1 a2 a3 a4 a5 a6 a7)(k:∀a0 a1 a2 a3 a4 a5 a6 a7,p0 a0 a1 a2 a3 a4 a5 a6 a7->p1 a0 a1 a2 a3 a4 a5 a6 a7->p2 a0 a1 a2 a3 a4 a5 a6 a7->p3 a0 a1 a2 a3 a4 a5 a6 a7->p4 a0 a1 a2 a3 a4 a5 a6 a7->p5 a0 a1 a2 a3 a4 a5 a6 a7->G):G:=h.elim fun a0 h=>h.elim fun a1 h=>h.elim fun a2 h=>h.elim fun a3 h=>h.elim fun a4 h=>h.elim fun a5 h=>h.elim fun a6 h=>h.elim fun a7 h=>k a0 a1 a2 a3 a4 a5 a6 a7 h.1 h.2.1 h.2.2.1 h.2.2.2.1 h.2.2.2.2.1 h.2.2.2.2.2
theorem My{eI:Sort _}{eL:Sort _}{eN:Sort _}{eU:Sort _}{fD:Sort _}{fS:Sort _}{gS:Sort _}{gZ:Sort _}{p0 p1 p2 p3 p4 p5 p6 p7 p8 p9:eI->eL->eN->eU->fD->fS->gS->gZ->Prop}{G:Prop}(h:∃a0 a1 a2 a3 a4 a5 a6 a7,p0 a0 a1 a2 a3 a4 a5 a6 a7∧p1 a0 a1 a2 a3 a4 a5 a6 a7∧p2 a0 a1 a2 a3 a4 a5 a6 a7∧p3 a0 a1 a2 a3 a4 a5 a6 a7∧p4 a0 a1 a2 a3 a4 a5 a6 a7∧p5 a0 a1 a2 a3 a4 a5 a6 a7∧p6 a0 a1 a2 a3 a4 a5 a6 a7∧p7 a0 a1 a2 a3 a4 a5 a6 a7∧p8 a0 a1 a2 a3 a4 a5 a6 a7∧p9 a0 a1 a2 a3 a4 a5 a6 a7)(k:∀a0 a1 a2 a3 a4 a5 a6 a7,p0 a0 a1 a2 a3 a4 a5 a6 a7->p1 a0 a1 a2 a3 a4 a5 a6 a7->p2 a0 a1 a2 a3 a4 a5 a6 a7->p3 a0 a1 a2 a3 a4 a5 a6 a7->p4 a0 a1 a2 a3 a4 a5 a6 a7->p5 a0 a1 a2 a3 a4 a5 a6 a7->p6 a0 a1 a2 a3 a4 a5 a6 a7->p7 a0 a1 a2 a3 a4 a5 a6 a7->p8 a0 a1 a2 a3 a4 a5 a6 a7->p9 a0 a1 a2 a3 a4 a5 a6 a7->G):G:=h.elim fun a0 h=>h.elim fun a1 h=>h.elim fun a2 h=>h.elim fun a3 h=>h.elim fun a4 h=>h.elim fun a5 h=>h.elim fun a6 h=>h.elim fun a7 h=>k a0 a1 a2 a3 a4 a5 a6 a7 h.1 h.2.1 h.2.2.1 h.2.2.2.1 h.2.2.2.2.1 h.2.2.2.2.2.1 h.2.2.2.2.2.2.1 h.2.2.2.2.2.2.2.1 h.2.2.2.2.2.2.2.2.1 h.2.2.2.2.2.2.2.2.2
theorem Wq{eI:Sort _}{eL:Sort _}{eN:Sort _}{eU:Sort _}{fD:Sort _}{fS:Sort _}{gS:Sort _}{gZ:Sort _}{iP:Sort _}{p0 p1:eI->eL->eN->eU->fD->fS->gS->gZ->iP->Prop}{G:Prop}(h:∃a0 a1 a2 a3 a4 a5 a6 a7 a8,p0 a0 a1 a2 a3 a4 a5 a6 a7 a8∧p1 a0 a1 a2 a3 a4 a5 a6 a7 a8)(k:∀a0 a1 a2 a3 a4 a5 a6 a7 a8,p0 a0 a1 a2 a3 a4 a5 a6 a7 a8->p1 a0 a1 a2 a3 a4 a5 a6 a7 a8->G):G:=h.elim fun a0 h=>h.elim fun a1 h=>h.elim fun a2 h=>h.elim fun a3 h=>h.elim fun a4 h=>h.elim fun a5 h=>h.elim fun a6 h=>h.elim fun a7 h=>h.elim fun a8 h=>k a0 a1 a2 a3 a4 a5 a6 a7 a8 h.1 h.2
end
local macro_rules | `(tactic|walk_at $s:str)=>wK s.getString.toList
local macro_rules | `(tactic|rw [$rs,*])=>wR (rs.getElems.toList.map (·.raw))
section
open PySem PySem.Calls PyProof.Rows
set_option maxRecDepth 100000
inductive AV where
 |none |bool (b:Bool) |int (i:Int) |str (x:Str) |tup (vs:List AV) |lst (k:Nat) |raw (v:Value)
 deriving Inhabited
structure Wd where
 K:Addr->Option Obj
 ρ:List Addr
def Pn(o:Obj)(arr:List Value):Prop:=o.cls= .type "tuple"∧∃n,o.data= .seq arr.toArray n
mutual
noncomputable def VR(W:Wd):AV->Value->Prop
 | .none,v=>v= .none
 | .bool b,v=>v= .bool b
 | .int i,v=>∃t,v= .int i t
 | .str x,v=>∃t,v= .str x t
 | .lst k,v=>∃a,v= .ref a∧W.ρ[k]? =some a
 | .raw u,v=>v=u
 | .tup vs,v=>∃a o arr,v= .ref a∧W.K a=some o∧Pn o arr∧l5 W vs arr
noncomputable def l5(W:Wd):List AV->List Value->Prop
 | [],l=>l=[]
 |a::r,l=>∃v t,l=v::t∧VR W a v∧l5 W r t
end
def Wd.le(W W':Wd):Prop:=(∀a o,W.K a=some o->W'.K a=some o)∧∃r,W'.ρ=W.ρ++r
theorem Wd.le_refl(W:Wd):W.le W:=⟨fun _ _ h=>h,[],by simp⟩
theorem Wd.le_trans{W W' W'':Wd}(h:W.le W')(h':W'.le W''):W.le W'':=by
 obtain⟨h1,r,e⟩:=h
 obtain⟨h2,r',e'⟩:=h'
 exact⟨fun a o x=>h2 a o (h1 a o x),r++r',by(rw [e',e,append_assoc];rfl)⟩
theorem Wd.le_get{W W':Wd}(h:W.le W'){k:Nat}{a:Addr}(e:W.ρ[k]? =some a):W'.ρ[k]? =some a:=by
 refine f8 (h.2) fun r e'=> ?_
 (rw [e',getElem?_append_left (List.getElem?_eq_some_iff.mp e).1,e];rfl)
mutual
theorem VR.mono{W W':Wd}(h:W.le W'):∀{a:AV}{v:Value},VR W a v->VR W' a v
 | .none,_,e=>e
 | .bool _,_,e=>e
 | .int _,_,e=>e
 | .str _,_,e=>e
 | .lst _,_,⟨a,e,g⟩=>⟨a,e,Wd.le_get h g⟩
 | .raw _,_,e=>e
 | .tup _,_,⟨a,o,arr,e,g,t,r⟩=>⟨a,o,arr,e,h.1 _ _ g,t,l5.mono h r⟩
theorem l5.mono{W W':Wd}(h:W.le W'):∀{as:List AV}{vs:List Value},l5 W as vs->l5 W' as vs
 | [],_,e=>e
 |_::_,_,⟨v,t,e,g,r⟩=>⟨v,t,e,VR.mono h g,l5.mono h r⟩
end
theorem l5.length{W:Wd}:∀{as:List AV}{vs:List Value},l5 W as vs->vs.length=as.length
 | [],_,e=>by rw [show _=_ from e];rfl
 |_::_,_,⟨_,_,e,_,r⟩=>by(rw [e,length_cons,length_cons,l5.length r];rfl)
theorem l5.append{W:Wd}:∀{as bs:List AV}{vs us:List Value},l5 W as vs->l5 W bs us->l5 W (as++bs) (vs++us)
 | [],_,_,_,e,h=>by rw [show _=_ from e];exact h
 |_::_,_,_,_,⟨v,t,e,g,r⟩,h=>⟨v,t++_,by rw [e];rfl,g,l5.append r h⟩
theorem l5.get{W:Wd}:∀{as:List AV}{vs:List Value}(i:Nat){a:AV},l5 W as vs->as[i]? =some a->∃v,vs[i]? =some v∧VR W a v
 |_::_,_,0,_,⟨v,_,e,g,_⟩,h=>by(replace h:=Option.some.inj h;subst h);exact⟨v,by rw [e];rfl,g⟩
 |_::_,_,i+1,_,⟨_,_,e,_,r⟩,h=>by
  refine a9 (l5.get i r (by exact h)) fun v h1 h2=> ?_
  exact⟨v,by rw [e];exact h1,h2⟩
theorem l5.get'{W:Wd}{as:List AV}{vs:List Value}(i:Nat){v:Value}(r:l5 W as vs)(h:vs[i]? =some v):∃a,as[i]? =some a∧VR W a v:=by
 have hl:=r.length
 have hi:=(List.getElem?_eq_some_iff.mp h).1
 refine a9 (r.get i (a:=as[i]) (by simp [hl▸hi])) fun v' h1 h2=> ?_
 rw [h]at h1;(replace h1:=Option.some.inj h1;subst h1)
 exact⟨_,by simp [hl▸hi],h2⟩
theorem l5.of_get{W:Wd}:∀{as:List AV}{vs:List Value},vs.length=as.length->(∀(i:Nat) a v,as[i]? =some a->vs[i]? =some v->VR W a v)->l5 W as vs
 | [],_,hl,_=>List.length_eq_zero_iff.mp hl
 |a::r,[],hl,_=>by simp at hl
 |a::r,v::t,hl,h=>⟨v,t,rfl,h 0 a v rfl rfl,l5.of_get (by exact Nat.succ.inj hl) fun i a v h1 h2=>h (i+1) a v (by exact h1) (by exact h2)⟩
theorem l5.one{W:Wd}{a:AV}{v:Value}(h:VR W a v):l5 W [a] [v]:=⟨v,[],rfl,h,rfl⟩
set_option genInjectivity true in
structure St where
 vars:List (Option AV)
 lists:List (List AV)
structure Bs where
 prog:Program
 w:World
 eB:Heap
 os:OsState
 tabs:List (Addr×Addr×Str)
 pins:List (Nat×Addr):=[]
structure RL(B:Bs)(W:Wd)(ls:List (List AV))(s:Shared):Prop where
 base:∀a o,B.eB.get? a=some o->W.K a=some o
 keep:∀a o,W.K a=some o->s.heap.get? a=some o
 len:W.ρ.length=ls.length
 off:∀a∈W.ρ,W.K a=none
 nd:W.ρ.Nodup
 lists:∀(k:Nat) a vs,W.ρ[k]? =some a->ls[k]? =some vs->∃vals,s.heap.PlainList a vals.toArray∧l5 W vs vals
 gens:s.gens= #[]
 os:s.os=B.os
 tabs:∀c P q,(c,P,q)∈B.tabs->W.K P=none∧P∉W.ρ∧∃ps,s.heap.IsCode c P ps∧s.heap.TableAt c P ps∧
  ∀pos c',codeAmong pos ps.toList=some c'->∃a o vs t,c'= .ref a∧W.K a=some o∧o.cls= .type "code"∧o.data= .fields vs∧vs[1]? =some (.str q t)
 pins:∀k a,(k,a)∈B.pins->W.ρ[k]? =some a
def Br(n:Nat)(A:Around):Prop:=A.depth+n<recursionLimit∧A.units+8*n+100<cLine∧A.handled=none
theorem Br.mono{n m:Nat}{A:Around}(h:Br n A)(hm:m<=n):Br m A:=⟨by have:=h.1;lia,by have:=h.2.1;exact VG ‹_› ‹_›,h.2.2⟩
theorem Br.deeper{n:Nat}{A:Around}{env:Env}(h:Br (n+1) A):Br n (A.deeper env):=
 ⟨by have:=h.1;simp only [Around.deeper];lia,by have:=h.2.1;simp only [Around.deeper];lia,h.2.2⟩
def TL(B:Bs)(n:Nat){α β:Type}(rel:Wd->β->α->Prop)(t:Sem α)(W:Wd)(s:Shared)(Q:β->List (List AV)->Prop):Prop:=
 ∀(A:Around)(E:Value->Shared->Prop)(Z:α->Shared->Prop),Br n A->
  (∀a s' W' b ls',W.le W'->RL B W' ls' s'->rel W' b a->Q b ls'->Z a s')->wpAny (model B.prog B.w) A t Z E s
def O3(f:Value)(h:Heap):Prop:=∀a,f= .ref a->∃o fd,h.get? a=some o∧o.data= .func fd
def Spec(B:Bs)(n:Nat)(f:Value)(args:List AV)(kw:List (Str×AV))(ls:List (List AV))(Q:AV->List (List AV)->Prop):Prop:=
 ∀W s vals kvs,RL B W ls s->l5 W args vals->l5 W (kw.map (·.2)) kvs->
  O3 f s.heap∧TL B n VR (call f vals ((kw.map (·.1)).zip kvs)) W s Q
structure FC where
 env:Env
 Γ:List Str
 mine:Bool
def UU(env:Env)(h:Heap)(m:Str->Option Value)(x:Str)(v:Value):Prop:=
 (env.kindOf x=some .local∧m x=some v)∨((env.kindOf x=some .cell∨env.kindOf x=some .free)∧∃c,env.cells.lookup x=some c∧h.IsCell c (some v))
noncomputable def C0(C:FC):List Addr:=if C.mine then C.env.cells.filterMap fun p=>if C.env.kindOf p.1=some .cell then some p.2 else none else []
noncomputable def d5(C:FC):List Addr:=C.env.locals::C0 C
structure FR(W:Wd)(C:FC)(vars:List (Option AV))(h:Heap):Prop where
 kind:C.env.scope.kind= .function
 glob:C.env.globals=mainGlobals
 blt:C.env.builtins=builtinsNs
 off:∀a∈d5 C,W.K a=none∧a∉W.ρ
 nd:C.env.locals∉C0 C
 gnd:C.Γ.Nodup
 inj:∀x y c,(x,c)∈C.env.cells->(y,c)∈C.env.cells->C.env.kindOf x=some .cell->C.env.kindOf y=some .cell->x=y
 isCell:∀x c,(x,c)∈C.env.cells->C.mine=true->C.env.kindOf x=some .cell->∃v,h.IsCell c v
 frozen:∀x c,(x,c)∈C.env.cells->¬(C.mine=true∧C.env.kindOf x=some .cell)->∃o v,W.K c=some o∧o.data= .cell v
 hasCell:∀x,C.mine=true->C.env.kindOf x=some .cell->(C.env.cells.lookup x).isSome=true
 ns:∃m,h.Ns C.env.locals m∧
  ∀(i:Nat) x av,C.Γ[i]? =some x->vars[i]? =some (some av)->∃v,VR W av v∧UU C.env h m x v
structure R(B:Bs)(W:Wd)(C:FC)(σ:St)(s:Shared):Prop where
 rl:RL B W σ.lists s
 fr:FR W C σ.vars s.heap
def T(B:Bs)(n:Nat)(C:FC){α β:Type}(rel:Wd->β->α->Prop)(t:Sem α)(σ:St)(Q:β->St->Prop):Prop:=
 ∀(W:Wd)(s:Shared)(A:Around)(E:Value->Shared->Prop)(Z:α->Shared->Prop),Br n A->R B W C σ s->
  (∀a s' W' b eG,W.le W'->R B W' C eG s'->rel W' b a->Q b eG->Z a s')->wpAny (model B.prog B.w) A t Z E s
noncomputable def Wd.frz(W:Wd)(S:List Addr)(h:Heap):Wd:=⟨fun a=>if a∈S then h.get? a else W.K a,W.ρ⟩
noncomputable def Wd.unf(W:Wd)(S:List Addr):Wd:=⟨fun a=>if a∈S then none else W.K a,W.ρ⟩
noncomputable def Wd.addK(W:Wd)(a:Addr)(o:Obj):Wd:=⟨fun b=>if b=a then some o else W.K b,W.ρ⟩
noncomputable def Wd.addL(W:Wd)(a:Addr):Wd:=⟨W.K,W.ρ++[a]⟩
def Wb(o:Obj):Prop:=(∀x n,o.data≠ .seq x n)∧((∀vs,o.data≠ .fields vs)∨(o.cls≠ .type "code"∧o.cls≠ .none))
structure N6(B:Bs)(W:Wd)(S:List Addr)(s:Shared):Prop where
 off:∀a∈S,W.K a=none∧a∉W.ρ
 obj:∀a∈S,∃o,s.heap.get? a=some o∧Wb o
section
variable{B:Bs}{W W':Wd}{S:List Addr}{s s':Shared}{ls ls':List (List AV)}
theorem E0(F:N6 B W S s):W.le (W.frz S s.heap):=by
 refine⟨fun a o e=> ?_,[],by simp [Wd.frz]⟩
 show(if a∈S then _ else W.K a)=_
 rw [if_neg (fun hm=>by rw [(F.off a hm).1]at e;exact on e)];exact e
theorem Gq(F:N6 B W S s)(h:RL B W ls s):RL B (W.frz S s.heap) ls s where
 base:=fun a o e=>(E0 F).1 a o (h.base a o e)
 keep:=fun a o e=>by
  change(if a∈S then _ else W.K a)=_ at e
  split at e
  ·exact e
  ·exact h.keep a o e
 len:=h.len
 off:=fun a ha=>by
  show(if a∈S then _ else W.K a)=_
  rw [if_neg (fun hm=>(F.off a hm).2 ha)];exact h.off a ha
 nd:=h.nd
 lists:=fun k a vs h1 h2=>let⟨vals,h3,h4⟩:=h.lists k a vs h1 h2;⟨vals,h3,h4.mono (E0 F)⟩
 gens:=h.gens
 os:=h.os
 tabs:=fun c P q hm=>by
  refine B2 (h.tabs c P q hm) fun a1 a2 rr2=> ?_
  obtain⟨ps,a3,a4,a5⟩:=rr2
  refine⟨?_,a2,ps,a3,a4,fun pos c' e=> ?_⟩
  ·show(if P∈S then _ else W.K P)=_
   rewrite [if_neg (fun hP=> ?_)]
   ·exact a1
   ·refine E6 (F.obj P hP) fun o ho _ hn=> ?_
    rw [a4.2]at ho;(replace ho:=Option.some.inj ho;subst ho)
    exact hn.elim (fun h=>h _ rfl) (fun h=>h.2 rfl)
  ·refine DX (a5 pos c' e) fun a o vs t e1 e2 r=> ?_
   exact⟨a,o,vs,t,e1,(E0 F).1 _ _ e2,r⟩
 pins:=h.pins
theorem Kh(F:N6 B W S s)(hl:(W.frz S s.heap).le W')(h:RL B W' ls' s'):∀a∈S,s'.heap.get? a=s.heap.get? a:=by
 intro a ha
 refine a9 (F.obj a ha) fun o ho _=> ?_
 have e:(W.frz S s.heap).K a=some o:=by show(if a∈S then _ else W.K a)=_;rw [if_pos ha];exact ho
 rw [ho];exact h.keep _ _ (hl.1 _ _ e)
def CM(B:Bs)(W:Wd)(S:List Addr):Prop:=∀a∈S,B.eB.get? a=none∧∀o,W.K a=some o->Wb o
theorem Vl(U:CM B W' S){a:Addr}{o:Obj}(e:W'.K a=some o)(ht:(∃x n,o.data= .seq x n)∨(o.cls= .type "code"∧∃vs,o.data= .fields vs)):(W'.unf S).K a=some o:=by
 show(if a∈S then _ else W'.K a)=_
 rewrite [if_neg (fun ha=> ?_)]
 ·exact e
 ·refine b7 ((U a ha).2 o e) fun h1 h2=> ?_
  rcases ht with⟨x,n,e⟩ |⟨hc,vs,e⟩
  ·exact h1 x n e
  ·exact h2.elim (fun h=>h vs e) fun h=>h.1 hc
mutual
theorem Fb(U:CM B W' S):∀{a:AV}{v:Value},VR W' a v->VR (W'.unf S) a v
 | .none,_,e=>e
 | .bool _,_,e=>e
 | .int _,_,e=>e
 | .str _,_,e=>e
 | .lst _,_,⟨a,e,g⟩=>⟨a,e,g⟩
 | .raw _,_,e=>e
 | .tup _,_,⟨a,o,arr,e,g,t,r⟩=>⟨a,o,arr,e,Vl U g (.inl ⟨_,t.2⟩),t,OG U r⟩
theorem OG(U:CM B W' S):∀{as:List AV}{vs:List Value},l5 W' as vs->l5 (W'.unf S) as vs
 | [],_,e=>e
 |_::_,_,⟨v,t,e,g,r⟩=>⟨v,t,e,Fb U g,OG U r⟩
end
theorem Oj(U:CM B W' S)(h:RL B W' ls' s'):RL B (W'.unf S) ls' s' where
 base:=fun a o e=>by
  show(if a∈S then _ else W'.K a)=_
  rw [if_neg (fun ha=>by rw [(U a ha).1]at e;exact on e)];exact h.base a o e
 keep:=fun a o e=>by
  change(if a∈S then _ else W'.K a)=_ at e
  split at e
  ·exact on e
  ·exact h.keep a o e
 len:=h.len
 off:=fun a ha=>by
  show(if a∈S then _ else W'.K a)=_
  split
  ·rfl
  ·exact h.off a ha
 nd:=h.nd
 lists:=fun k a vs h1 h2=>let⟨vals,h3,h4⟩:=h.lists k a vs h1 h2;⟨vals,h3,OG U h4⟩
 gens:=h.gens
 os:=h.os
 tabs:=fun c P q hm=>by
  refine B2 (h.tabs c P q hm) fun a1 a2 rr7=> ?_
  obtain⟨ps,a3,a4,a5⟩:=rr7
  refine⟨?_,a2,ps,a3,a4,fun pos c' e=> ?_⟩
  ·show(if P∈S then _ else W'.K P)=_
   split
   ·rfl
   ·exact a1
  ·refine DX (a5 pos c' e) fun a o vs t e1 e2 r=> ?_
   exact⟨a,o,vs,t,e1,Vl U e2 (.inr ⟨r.1,_,r.2.1⟩),r⟩
 pins:=h.pins
theorem BT(F:N6 B W S s)(h:RL B W ls s)(hl:(W.frz S s.heap).le W'):CM B W' S:=by
 refine fun a ha=>⟨?_,fun o e=> ?_⟩
 ·cases q:B.eB.get? a with
  |none=>rfl
  |some o=>have:=h.base a o q;rw [(F.off a ha).1]at this;exact on this
 ·refine a9 (F.obj a ha) fun o' ho hO=> ?_
  have e':(W.frz S s.heap).K a=some o':=by show(if a∈S then _ else W.K a)=_;rw [if_pos ha];exact ho
  have:=hl.1 _ _ e'
  rw [e]at this;(replace this:=Option.some.inj this;subst this)
  exact hO
theorem GW(F:N6 B W S s)(hl:(W.frz S s.heap).le W'):W.le (W'.unf S):=by
 refine⟨fun a o e=> ?_,hl.2⟩
 have hn:a∉S:=fun ha=>by rw [(F.off a ha).1]at e;exact on e
 show(if a∈S then _ else W'.K a)=_
 rw [if_neg hn]
 refine hl.1 a o ?_
 show(if a∈S then _ else W.K a)=_
 rw [if_neg hn];exact e
end
theorem RL.fresh{B:Bs}{W:Wd}{ls:List (List AV)}{s:Shared}(h:RL B W ls s){a:Addr}(ha:s.heap.objs.size<=a):W.K a=none∧a∉W.ρ:=by
 constructor
 ·cases e:W.K a with
  |none=>rfl
  |some o=>exact absurd (Heap.lt_size (h.keep a o e)) (Nat.not_lt.mpr ha)
 ·intro hm
  obtain⟨k,hk,e⟩:=getElem_of_mem hm
  have hk':k<ls.length:=h.len▸hk
  refine a9 (h.lists k a ls[k] (by simp [hk,e]) (by simp [hk'])) fun vals ee1 _=> ?_
  obtain⟨n,hl⟩:=ee1
  exact absurd (Heap.lt_size hl) (Nat.not_lt.mpr ha)
theorem RL.keepAll{B:Bs}{W:Wd}{ls:List (List AV)}{s s':Shared}(h:RL B W ls s)(hk:∀b o,s.heap.get? b=some o->s'.heap.get? b=some o)(hg:s'.gens=s.gens)(ho:s'.os=s.os):RL B W ls s' where
 base:=h.base
 keep:=fun a o e=>hk _ _ (h.keep a o e)
 len:=h.len
 off:=h.off
 nd:=h.nd
 lists:=fun k a vs h1 h2=>let⟨vals,h3,h4⟩:=h.lists k a vs h1 h2;⟨vals,h3.at fun o e=>hk _ _ e,h4⟩
 gens:=hg.trans h.gens
 os:=ho.trans h.os
 tabs:=fun c P q hm=>let⟨a1,a2,ps,a3,a4,a5⟩:=h.tabs c P q hm;⟨a1,a2,ps,a3.keeps hk,a4.keeps hk,a5⟩
 pins:=h.pins
set_option tactic.hygienic true in
theorem RL.addK{B:Bs}{W:Wd}{ls:List (List AV)}{s:Shared}(h:RL B W ls s){a:Addr}{o:Obj}(e:s.heap.get? a=some o)(h1:W.K a=none)(h2:a∉W.ρ)(h3:∀vs,o.cls= .none->o.data≠ .fields vs):
  RL B (W.addK a o) ls s∧W.le (W.addK a o):=by
 have hle:W.le (W.addK a o):=⟨fun b o' e'=>by
  show(if b=a then _ else W.K b)=_
  rw [if_neg (fun hb=>by rw [hb,h1]at e';exact on e')];exact e',[],by simp [Wd.addK]⟩
 refine⟨⟨fun b o' e'=>hle.1 b o' (h.base b o' e'),fun b o' e'=> ?_,h.len,fun b hb=> ?_,h.nd,fun k b vs e1 e2=> ?_,h.gens,h.os,fun c P q hm=> ?_,h.pins⟩,hle⟩
 ·change(if b=a then _ else W.K b)=_ at e'
  split at e'
  ·next hb=>rw [hb];(replace e':=Option.some.inj e';subst e');exact e
  ·exact h.keep b o' e'
 ·show(if b=a then _ else W.K b)=_
  rw [if_neg (fun(hb':b=a)=>h2 (hb'▸hb))];exact h.off b hb
 ·refine a9 (h.lists k b vs e1 e2) fun vals h3 h4=> ?_
  exact⟨vals,h3,h4.mono hle⟩
 ·refine B2 (h.tabs c P q hm) fun a1 a2 rr13=> ?_
  obtain⟨ps,a3,a4,a5⟩:=rr13
  refine⟨?_,a2,ps,a3,a4,fun pos c' e'=> ?_⟩
  ·show(if P=a then _ else W.K P)=_
   rewrite [if_neg (fun hP=> ?_)]
   ·exact a1
   ·rw [←hP,a4.2]at e;(replace e:=Option.some.inj e;subst e);exact h3 _ rfl rfl
  ·refine DX (a5 pos c' e') fun b o' vs t e1 e2 r=> ?_
   exact⟨b,o',vs,t,e1,hle.1 _ _ e2,r⟩
theorem B0(W:Wd)(a:Addr):W.le (W.addL a):=⟨fun _ _ e=>e,[a],rfl⟩
theorem RL.addL{B:Bs}{W:Wd}{ls:List (List AV)}{s:Shared}(h:RL B W ls s){a:Addr}{vals:List Value}{vs:List AV}(e:s.heap.PlainList a vals.toArray)(h1:W.K a=none)(h2:a∉W.ρ)(hv:l5 W vs vals):
  RL B (W.addL a) (ls++[vs]) s:=by
 have hle:=B0 W a
 refine⟨h.base,h.keep,by show(W.ρ++[a]).length=_;simp [h.len],fun b hb=> ?_,?_,fun k b us e1 e2=> ?_,h.gens,h.os,fun c P q hm=> ?_,fun k b hm=>Wd.le_get hle (h.pins k b hm)⟩
 ·rcases mem_append.mp hb with hb |hb
  ·exact h.off b hb
  ·rw [mem_singleton.mp hb];exact h1
 ·refine nodup_append.mpr ⟨h.nd,by simp,fun x hx y hy=> ?_⟩
  rw [mem_singleton.mp hy];exact fun hxy=>h2 (hxy▸hx)
 ·change(W.ρ++[a])[k]? =_ at e1
  by_cases hk:k<W.ρ.length
  ·rw [getElem?_append_left hk]at e1
   rw [getElem?_append_left (h.len▸hk)]at e2
   refine a9 (h.lists k b us e1 e2) fun v' h3 h4=> ?_
   exact⟨v',h3,h4.mono hle⟩
  ·have hk':W.ρ.length<=k:=Nat.not_lt.mp hk
   rw [getElem?_append_right hk']at e1
   rw [getElem?_append_right (h.len▸hk')]at e2
   rw [←h.len]at e2
   cases hd:k-W.ρ.length with
   |zero=>rw [hd]at e1 e2;(replace e1:=Option.some.inj e1;subst e1);(replace e2:=Option.some.inj e2;subst e2);exact⟨vals,e,hv.mono hle⟩
   |succ j=>rw [hd]at e1;simp at e1
 ·refine B2 (h.tabs c P q hm) fun a1 a2 rr16=> ?_
  obtain⟨ps,a3,a4,a5⟩:=rr16
  refine⟨a1,fun hP=> ?_,ps,a3,a4,a5⟩
  rcases mem_append.mp hP with hP |hP
  ·exact a2 hP
  ·obtain⟨n,e⟩:=e
   rw [←mem_singleton.mp hP,a4.2]at e;cases e
theorem RL.setL{B:Bs}{W:Wd}{ls:List (List AV)}{s s':Shared}(h:RL B W ls s){k:Nat}{a:Addr}{vals:List Value}{vs:List AV}(hk:W.ρ[k]? =some a)
  (hx:Heap.ExtBut a s.heap s'.heap) (e:s'.heap.PlainList a vals.toArray) (hv:l5 W vs vals) (hg:s'.gens=s.gens) (ho:s'.os=s.os):
  RL B W (ls.set k vs) s':=by
 have ha:a∈W.ρ:=mem_of_getElem? hk
 refine⟨h.base,fun b o e'=>hx b o (fun hb=>by rw [hb,h.off a ha]at e';exact on e') (h.keep b o e'),by rw [length_set];exact h.len,h.off,h.nd,fun j b us e1 e2=> ?_,hg.trans h.gens,ho.trans h.os,fun c P q hm=> ?_,h.pins⟩
 ·by_cases hj:k=j
  ·subst hj
   rw [hk]at e1;(replace e1:=Option.some.inj e1;subst e1)
   rw [getElem?_set_self (by rw [←h.len];exact(List.getElem?_eq_some_iff.mp hk).1)]at e2
   (replace e2:=Option.some.inj e2;subst e2);exact⟨vals,e,hv⟩
  ·rw [getElem?_set_ne hj]at e2
   refine a9 (h.lists j b us e1 e2) fun v' h3 h4=> ?_
   refine⟨v',h3.extBut hx (fun hb=>hj ?_),h4⟩
   subst hb
   refine f8 (List.getElem?_eq_some_iff.mp hk) fun p1 p2=> ?_
   refine f8 (List.getElem?_eq_some_iff.mp e1) fun q1 q2=> ?_
   exact(getElem_inj h.nd).mp (p2.trans q2.symm)
 ·refine B2 (h.tabs c P q hm) fun a1 a2 rr21=> ?_
  obtain⟨ps,a3,a4,a5⟩:=rr21
  have hP:P≠a:=fun hP=>a2 (hP▸ha)
  have hc:c≠a:=by
   refine b7 a4 fun ee0 _=> ?_
   clear a4
   obtain⟨o,vs',hc,hcl,hcd,_⟩:=ee0
   intro hca
   obtain⟨v',⟨n,h3⟩,_⟩:=h.lists k a (ls[k]'(by rw [←h.len];exact(List.getElem?_eq_some_iff.mp hk).1)) hk (by simp)
   rw [←hca,hc]at h3;(replace h3:=Option.some.inj h3;subst h3);exact absurd (show Value.type "list"=Value.type "code" from hcl) (by decide)
  refine b7 a4 fun ee0 ht=> ?_
  clear a4
  obtain⟨o,vs',hc1,hcl,hcd,h11⟩:=ee0
  exact⟨a1,a2,ps,a3.extBut hx hc hP,⟨⟨o,vs',hx _ _ hc hc1,hcl,hcd,h11⟩,hx _ _ hP ht⟩,a5⟩
set_option tactic.hygienic true in
theorem GE{C:FC}{a:Addr}(h:a∈C0 C):C.mine=true∧∃x,(x,a)∈C.env.cells∧C.env.kindOf x=some .cell:=by
 unfold C0 at h
 split at h
 ·next hm=>
  refine a9 (mem_filterMap.mp h) fun ee0 h1 h2=> ?_
  obtain⟨x,c⟩:=ee0
  split at h2
  ·next hk=>(replace h2:=Option.some.inj h2;subst h2);exact⟨hm,x,h1,hk⟩
  ·exact on h2
 ·cases h
theorem o8{C:FC}{x:Str}{a:Addr}(hm:C.mine=true)(h:(x,a)∈C.env.cells)(hk:C.env.kindOf x=some .cell):a∈C0 C:=by
 unfold C0
 rw [if_pos hm]
 exact mem_filterMap.mpr ⟨(x,a),h,by simp [hk]⟩
theorem FR.own{B:Bs}{W:Wd}{C:FC}{vars:List (Option AV)}{s:Shared}(h:FR W C vars s.heap):N6 B W (d5 C) s where
 off:=h.off
 obj:=fun a ha=>by
  rcases mem_cons.mp ha with rfl |ha
  ·refine a9 (h.ns) fun m ee1 _=> ?_
   obtain⟨o,es,ep,ho,hd,_⟩:=ee1
   exact⟨o,ho,(fun x n e=>by rw [hd]at e;exact T6 (·.ctorIdx) e rfl),.inl fun vs e=>by rw [hd]at e;exact T6 (·.ctorIdx) e rfl⟩
  ·obtain⟨hmine,x,hm,hk⟩:=GE ha
   refine o1 (h.isCell x a hm hmine hk) fun v o ho hd=> ?_
   exact⟨o,ho,(fun x n e=>by rw [hd]at e;exact T6 (·.ctorIdx) e rfl),.inl fun vs e=>by rw [hd]at e;exact T6 (·.ctorIdx) e rfl⟩
theorem j3{α β:Type} [BEq α] [LawfulBEq α]:∀{l:List (α×β)}{x:α}{c:β},l.lookup x=some c->(x,c)∈l
 | (y,d)::r,x,c,h=>by
  rw [lookup_cons]at h
  cases hy:x==y with
  |true=>rw [hy]at h;(replace h:=Option.some.inj h;subst h);rw [eq_of_beq hy];exact .head _
  |false=>rw [hy]at h;exact .tail _ (j3 h)
theorem FR.stay{W W':Wd}{C:FC}{vars:List (Option AV)}{h h':Heap}(F:FR W C vars h)(hl:W.le W')
  (hoff:∀a∈d5 C,W'.K a=none∧a∉W'.ρ) (hown:∀a∈d5 C,h'.get? a=h.get? a) (hk0:∀a o,W.K a=some o->h.get? a=some o) (hk:∀a o,W.K a=some o->h'.get? a=some o):FR W' C vars h':=by
 have oL:=hown C.env.locals (.head _)
 refine⟨F.kind,F.glob,F.blt,hoff,F.nd,F.gnd,F.inj,fun x c hm hmine hx=> ?_,fun x c hm hx=> ?_,F.hasCell,?_⟩
 ·refine o1 (F.isCell x c hm hmine hx) fun v o ho hd=> ?_
  exact⟨v,o,(hown c (.tail _ (o8 hmine hm hx))).trans ho,hd⟩
 ·refine o1 (F.frozen x c hm hx) fun o v h1 h2=> ?_
  exact⟨o,v,hl.1 _ _ h1,h2⟩
 ·refine a9 (F.ns) fun m ee1 hv=> ?_
  obtain⟨o,es,ep,ho,hr⟩:=ee1
  refine⟨m,⟨o,es,ep,oL.trans ho,hr⟩,fun i x av e1 e2=> ?_⟩
  refine a9 (hv i x av e1 e2) fun v g b=> ?_
  refine⟨v,g.mono hl,b.imp (fun q=>q) fun⟨kd,c,e,o,ho,hd⟩=>⟨kd,c,e,o,?_,hd⟩⟩
  by_cases hx:C.mine=true∧C.env.kindOf x=some .cell
  ·rw [hown c (.tail _ (o8 hx.1 (j3 e) hx.2))];exact ho
  ·refine o1 (F.frozen x c (j3 e) hx) fun gU eH h1 h2=> ?_
   have:=hk0 _ _ h1
   rw [ho]at this;(replace this:=Option.some.inj this;subst this)
   exact hk _ _ h1
theorem R.lift{B:Bs}{W:Wd}{C:FC}{σ:St}{s:Shared}(h:R B W C σ s){S:List Addr}(hS:S=d5 C):
  RL B (W.frz S s.heap) σ.lists s∧W.le (W.frz S s.heap)∧
  ∀W' s' ls',(W.frz S s.heap).le W'->RL B W' ls' s'->R B (W'.unf S) C {σ with lists:=ls'} s'∧W.le (W'.unf S):=by
 subst hS
 have F:=h.fr.own (B:=B)
 refine⟨Gq F h.rl,E0 F,fun W' s' ls' hl h'=>⟨⟨Oj (BT F h.rl hl) h',?_⟩,GW F hl⟩⟩
 refine h.fr.stay (GW F hl) (fun a ha=>⟨by show(if a∈_ then _ else _)=_;(rw [if_pos ha];rfl),fun hm=> ?_⟩) (Kh F hl h') h.rl.keep (fun a o e=>h'.keep _ _ (hl.1 _ _ ((E0 F).1 _ _ e)))
 have:=h'.off a hm
 refine a9 (F.obj a ha) fun o ho _=> ?_
 have e:(W.frz (d5 C) s.heap).K a=some o:=by show(if a∈_ then _ else W.K a)=_;rw [if_pos ha];exact ho
 rw [hl.1 _ _ e]at this;exact ZM this
theorem R.run{B:Bs}{n:Nat}{W:Wd}{C:FC}{σ:St}{s:Shared}(h:R B W C σ s){t:Sem Value}{A:Around}{E:Value->Shared->Prop}{Z:Value->Shared->Prop}{Q:AV->List (List AV)->Prop}(hA:Br n A)
  (ht:TL B n VR t (W.frz (d5 C) s.heap) s Q)
  (hZ:∀v s' W' av ls',W.le W'->R B W' C {σ with lists:=ls'} s'->VR W' av v->Q av ls'->Z v s'):wpAny (model B.prog B.w) A t Z E s:=by
 refine B2 (h.lift rfl) fun h1 h2 h3=> ?_
 refine ht A E Z hA fun v s' W' av ls' hl hr hv hq=> ?_
 refine b7 (h3 W' s' ls' hl hr) fun h4 h5=> ?_
 exact hZ v s' _ av ls' h5 h4 (Fb (BT (h.fr.own (B:=B)) h.rl hl) hv) hq
theorem R.runU{B:Bs}{n:Nat}{W:Wd}{C:FC}{σ:St}{s:Shared}(h:R B W C σ s){α:Type}{t:Sem α}{A:Around}{E:Value->Shared->Prop}{Z:α->Shared->Prop}{Q:α->List (List AV)->Prop}(hA:Br n A)
  (ht:TL B n (fun _ b a=>b=a) t (W.frz (d5 C) s.heap) s Q)
  (hZ:∀v s' W' ls',W.le W'->R B W' C {σ with lists:=ls'} s'->Q v ls'->Z v s'):wpAny (model B.prog B.w) A t Z E s:=by
 refine B2 (h.lift rfl) fun h1 h2 h3=> ?_
 refine ht A E Z hA fun v s' W' b ls' hl hr hv hq=> ?_
 refine b7 (h3 W' s' ls' hl hr) fun h4 h5=> ?_
 subst hv
 exact hZ b s' _ ls' h5 h4 hq
inductive HC |add |sub |mul |fdiv |mod |pow |shl |shr |and |or |xor
 deriving DecidableEq
inductive HE |eq |ne |lt |le |gt |ge |is
 deriving DecidableEq
noncomputable def HC.to:HC->Operator
 | .add=> .Add | .sub=> .Sub | .mul=> .Mult | .fdiv=> .FloorDiv | .mod=> .Mod | .pow=> .Pow | .shl=> .LShift | .shr=> .RShift | .and=> .BitAnd | .or=> .BitOr | .xor=> .BitXor
noncomputable def HE.to:HE->CmpOp
 | .eq=> .Eq | .ne=> .NotEq | .lt=> .Lt | .le=> .LtE | .gt=> .Gt | .ge=> .GtE | .is=> .Is
inductive Tg |one (i:Nat) |two (i j:Nat)
mutual
inductive Ex where
 |var (i:Nat)
 |glob (v:Value)
 |none
 |bool (b:Bool)
 |int (i:Int)
 |str (x:Str)
 |bin (o:HC) (l r:Ex)
 |neg (x:Ex)
 |inv (x:Ex)
 |not (x:Ex)
 |cmp (l:Ex) (o:HE) (r:Ex)
 |cmp2 (l:Ex) (o:HE) (m:Ex) (o':HE) (r:Ex)
 |and (x y:Ex)
 |or (x y:Ex)
 |ite (c a b:Ex)
 |item (v i:Ex)
 |slice (v lo hi st:Ex)
 |tup (es:Bp)
 |list (es:Bp)
 |call (f:Ex) (args:Bp)
 |callk (f:Ex) (args:Bp) (k:Str) (kv:Ex)
 |rlist (a b c:Ex)
 |meth (o:Ex) (name:Str) (args:Bp)
 |comp (elt:Ex) (tg:Tg) (src:Oy) (keep:List Nat)
inductive Bp where
 |nil
 |cons (e:Ex) (r:Bp)
inductive Oy where
 |list (e:Ex)
 |enum (e:Ex)
 |rev (e:Ex)
 |range (a b:Ex)
 |range1 (b:Ex)
end
mutual
inductive Sm where
 |bad
 |asg (x:Nat) (e:Ex)
 |asg2 (x y:Nat) (e:Ex)
 |unp (x y:Nat) (e:Ex)
 |seti (o i e:Ex)
 |aug (x:Nat) (o:HC) (e:Ex)
 |expr (e:Ex)
 |ret (e:Ex)
 |ite (c:Ex) (a b:o7)
 |while (c:Ex) (a:o7)
 |for (tg:Tg) (src:Oy) (a:o7)
inductive o7 where
 |nil
 |cons (s:Sm) (r:o7)
end
inductive Fl |next |brk |cont |ret (v:AV)
noncomputable abbrev Ls:=List (List AV)
noncomputable def F7{α:Type}(xs:List α)(lo hi st:Option Int):List α:=
 (sliceRange (sliceBounds lo hi st xs.length).1 (sliceBounds lo hi st xs.length).2.1 (sliceBounds lo hi st xs.length).2.2).filterMap (xs[·]?)
noncomputable def F1(x:Str)(lo hi:Option Int):Str:=
 if((Builtin.Str.strSliceIndices lo hi 1 x.length).length==x.length)=true then x else⟨((Builtin.Str.strSliceIndices lo hi 1 x.length).filterMap (x.cps[·]?)).toArray⟩
noncomputable def AT:AV->Option (Option Int)
 | .none=>some none
 | .int i=>some (some i)
 |_=>none
@[reducible] noncomputable def O5(ls:Ls):AV->Option Bool
 | .none=>some false
 | .bool b=>some b
 | .int i=>some (i !=0)
 | .str x=>if x.length<4611686018427387904 then some (x.length !=0)else none
 | .lst k=>(ls[k]?).bind fun l=>if l.length<4611686018427387904 then some (l.length !=0)else none
 |_=>none
def D9{α:Type}(Q:α->Prop)(x:Option α):Prop:=match x with
 |some a=>Q a
 |Option.none=>False
def RQ(a:AV)(P:Int->Prop):Prop:=match a with
 | .int i=>P i
 |_=>False
def VQ(o:HC)(a b:Int)(Q:AV->Prop):Prop:=match o with
 | .add=>Q (.int (a+b))
 | .sub=>Q (.int (a-b))
 | .mul=>IntMulOk a b∧Q (.int (a*b))
 | .fdiv=>b≠0∧Builtin.divisionGoesByPylong a b=false∧Q (.int (a.fdiv b))
 | .mod=>b≠0∧Q (.int (a.fmod b))
 | .pow=>0<=b∧(Builtin.Int.intBits a:Int)*b<=2^27∧Q (.int (a^b.toNat))
 | .shl=>0<=b∧(Builtin.Int.intBits a:Int)+b<=2^27∧Q (.int (a*2^b.toNat))
 | .shr=>0<=b∧Q (.int (a.fdiv (2^b.toNat)))
 | .and=>Q (.int (Builtin.bitAnd a b))
 | .or=>Q (.int (Builtin.bitOr a b))
 | .xor=>Q (.int (Builtin.bitXor a b))
def ZG(o:HC)(x:Str)(b:AV)(Q:AV->Prop):Prop:=match b with
 | .str y=>o= .add∧x.length+y.length<=sizeLine∧Q (.str (x++y))
 | .int n=>o= .mul∧MulOk x n∧Q (.str (Txt.mul x n))
 |_=>False
def ZY(o:HC)(i:Nat)(b:AV)(ls:Ls)(Q:Ls->Prop):Prop:=match b with
 | .lst j=>o= .add∧D9 (fun xs=>D9 (fun ys=>xs.length+ys.length<=1000000∧Q (ls++[xs++ys])) ls[j]?) ls[i]?
 | .int n=>o= .mul∧D9 (fun xs=>xs.length*n.toNat<=1000000∧ -1000000<=n∧n<=1000000∧Q (ls++[(List.replicate n.toNat xs).flatten])) ls[i]?
 |_=>False
def O8(o:HC)(a b:AV)(ls:Ls)(Q:AV->Ls->Prop):Prop:=match a with
 | .int a=>RQ b fun b=>VQ o a b fun v=>Q v ls
 | .str x=>ZG o x b fun v=>Q v ls
 | .lst i=>ZY o i b ls (Q (.lst ls.length))
 |_=>False
noncomputable def B7:List AV->Option (List Int)
 | []=>some []
 | .int a::r=>(B7 r).map (a:: ·)
 |_=>none
noncomputable def O0:List AV->Option (List Str)
 | []=>some []
 | .str a::r=>(O0 r).map (a:: ·)
 |_=>none
noncomputable def Vv(o:HE)(a b:Int):Option Bool:=match o with
 | .eq=>some (a==b)
 | .ne=>some (a !=b)
 | .lt=>some (decide (a<b))
 | .le=>some (decide (a<=b))
 | .gt=>some (decide (b<a))
 | .ge=>some (decide (b<=a))
 | .is=>none
noncomputable def QA:AV->Bool
 | .none=>true
 |_=>false
noncomputable def SK:Value->Bool
 | .ref _=>true
 |_=>false
noncomputable def OH(o:HE)(b:AV)(t:Bool):Option Bool:=if QA b then(if o== .is then some t else none)else none
noncomputable def GR(xs ys:List AV):Option Bool:=match B7 xs,B7 ys with
 |some a,some b=>some (!decide (a=b))
 |_,_=>(O0 xs).bind fun a=>(O0 ys).bind fun b=>if a.all PyData.strOk&&b.all PyData.strOk then some (!decide (a=b))else none
noncomputable def Bm(ls:Ls)(o:HE)(a b:AV):Option Bool:=match a with
 | .int x=>match b with
  | .int y=>Vv o x y
  |_=>OH o b false
 | .str x=>match b with
  | .str y=>if o== .eq then some (x==y)else if o== .ne then some (x !=y)else none
  |_=>none
 | .none=>OH o b true
 | .raw v=>if SK v then OH o b false else none
 | .tup xs=>match b with
  | .tup ys=>if o== .eq then(B7 xs).bind fun a=>(B7 ys).bind fun b=>some (decide (a=b))else none
  |_=>none
 | .lst i=>match b with
  | .lst j=>if o== .ne then(ls[i]?).bind fun xs=>(ls[j]?).bind fun ys=>GR xs ys else none
  |_=>none
 | .bool _=>none
noncomputable def t8(ls:Ls)(a b:AV):Option AV:=
 match a,b with
 | .lst k,.int i=>if -(2^63)<=i∧i<2^63 then(ls[k]?).bind fun xs=>(seqIndex? i xs.length).bind (xs[·]?)else none
 | .tup xs,.int i=>if -(2^63)<=i∧i<2^63 then(seqIndex? i xs.length).bind (xs[·]?)else none
 | .str x,.int i=>if -(2^63)<=i∧i<2^63 then(seqIndex? i x.length).bind fun k=>(x.cps[k]?).map fun c=> .str ⟨#[c]⟩else none
 |_,_=>none
noncomputable def R5(vars:List (Option AV))(i:Nat)(v:AV):List (Option AV):=vars.set i (some v)
noncomputable def St.setv(σ:St)(i:Nat)(v:AV):St:={σ with vars:=R5 σ.vars i v}
noncomputable def Ah(tg:Tg)(v:AV)(σ:St):Option St:=
 match tg,v with
 | .one i,v=>some (σ.setv i v)
 | .two i j,.tup [a,b]=>some ((σ.setv i a).setv j b)
 |_,_=>none
noncomputable def S6:Int->List AV->List AV
 |_,[]=>[]
 |i,a::r=> .tup [.int i,a]::S6 (i+1) r
noncomputable def AY(a b c:Int):List AV:=(List.range (Builtin.Range.rangeSize a b c).toNat).map fun(k:Nat)=>AV.int (a+k*c)
noncomputable def o2(a b:Int):List AV:=(List.range (b-a).toNat).map fun(k:Nat)=>AV.int (a+k)
noncomputable def X6(keep:List Nat):Nat->List (Option AV)->List (Option AV)
 |_,[]=>[]
 |i,v::r=>(if keep.contains i then v else Option.none)::X6 keep (i+1) r
noncomputable def A9(c:St->(Bool->St->Prop)->Prop)(b:St->(Fl->St->Prop)->Prop):Nat->St->(Fl->St->Prop)->Prop
 |0,_,_=>False
 |n+1,σ,Q=>c σ fun t σ=>if t then b σ fun f σ=>match f with
   | .next=>A9 c b n σ Q
   | .cont=>A9 c b n σ Q
   | .brk=>Q .next σ
   | .ret v=>Q (.ret v) σ
  else Q .next σ
noncomputable def A2(ok:St->Prop)(tg:Tg)(b:St->(Fl->St->Prop)->Prop):List AV->St->(Fl->St->Prop)->Prop
 | [],σ,Q=>ok σ∧Q .next σ
 |v::r,σ,Q=>ok σ∧match Ah tg v σ with
  |Option.none=>False
  |some σ=>b σ fun f σ=>match f with
   | .next=>A2 ok tg b r σ Q
   | .cont=>A2 ok tg b r σ Q
   | .brk=>Q .next σ
   | .ret v=>Q (.ret v) σ
noncomputable def W0(ok:St->Prop)(tg:Tg)(k:Nat)(e:St->(AV->St->Prop)->Prop):List AV->St->(St->Prop)->Prop
 | [],σ,Q=>ok σ∧Q σ
 |v::r,σ,Q=>ok σ∧match Ah tg v σ with
  |Option.none=>False
  |some σ=>e σ fun av σ=>match σ.lists[k]? with
   |some cur=>cur.length<=1000000∧W0 ok tg k e r {σ with lists:=σ.lists.set k (cur++[av])} Q
   |Option.none=>False
noncomputable def DH:AV->Str->Option (String×Bool)
 | .str _,n=>if n="join" then some ("str.join",true)else if n="split" then some ("str.split",true)else if n="lower" then some ("str.lower",true)else Option.none
 | .int _,n=>if n="bit_length" then some ("int.bit_length",true)else Option.none
 | .lst _,n=>if n="append" then some ("list.append",true)else if n="insert" then some ("list.insert",true)else if n="reverse" then some ("list.reverse",true)else Option.none
 |_,_=>Option.none
def Bj(eB:Heap)(a:Addr)(xs:List Int):Prop:=∃vals n,eB.get? a=some {cls:= .type "list",dict:=none,data:= .seq (vals:List Value).toArray n,slots:= #[]}∧l5 ⟨fun _=>none,[]⟩ (xs.map .int) vals
def Ul(eB:Heap)(a:AV)(l h s:Option Int)(σ:St)(Q:AV->St->Prop):Prop:=match a with
 | .raw v=>s≠some 0∧∃a xs,v= .ref a∧Bj eB a xs∧xs.length<=1000000∧Q (.lst σ.lists.length) {σ with lists:=σ.lists++[F7 (xs.map .int) l h s]}
 | .lst k=>s≠some 0∧D9 (fun xs=>xs.length<=1000000∧Q (.lst σ.lists.length) {σ with lists:=σ.lists++[F7 xs l h s]}) σ.lists[k]?
 | .str x=>s=none∧x.length<=1000000∧Q (.str (F1 x l h)) σ
 |_=>False
def Ba(eB:Heap)(a l h s:AV)(σ:St)(Q:AV->St->Prop):Prop:=D9 (fun l=>D9 (fun h=>D9 (fun s=>Ul eB a l h s σ Q) (AT s)) (AT h)) (AT l)
def GN(a l h s:AV)(σ:St)(Q:Bool->St->Prop):Prop:=D9 (fun l=>D9 (fun h=>D9 (fun s:Option Int=>∃x,a= .str x∧s=none∧x.length<=1000000∧Q ((F1 x l h).length !=0) σ) (AT s)) (AT h)) (AT l)
theorem b8{α:Type}{Q:α->Prop}{x:Option α}{a:α}(e:x=some a)(h:Q a):D9 Q x:=by rw [e];exact h
theorem j5{α:Type}{Q:α->Prop}{x:Option α}(h:D9 Q x):∃a,x=some a∧Q a:=by
 cases x with
 |none=>exact h.elim
 |some a=>exact⟨a,rfl,h⟩
theorem Lz{a:AV}{P:Int->Prop}(h:RQ a P):∃i,a= .int i∧P i:=by
 cases a with
 |int i=>exact⟨i,rfl,h⟩
 |_=>exact h.elim
set_option genInjectivity false in
set_option genSizeOf false in
structure Pv where
 q0:Option AV
 q1:Option AV
 q2:Option AV
 q3:Option AV
 q4:Option AV
 q5:Option AV
 q6:Option AV
 q7:Option AV
 q8:Option AV
 q9:Option AV
 q10:Option AV
 q11:Option AV
 q12:Option AV
 q13:Option AV
 q14:Option AV
 q15:Option AV
 q16:Option AV
 q17:Option AV
 q18:Option AV
 q19:Option AV
 q20:Option AV
 q21:Option AV
 q22:Option AV
 q23:Option AV
 q24:Option AV
 q25:Option AV
 q26:Option AV
 q27:Option AV
 q28:Option AV
 q29:Option AV
 q30:Option AV
 q31:Option AV
 q32:Option AV
 q33:Option AV
 q34:Option AV
 q35:Option AV
 q36:Option AV
 q37:Option AV
 q38:Option AV
 q39:Option AV
noncomputable def Uc:Type:=(Bs)×(Params)×(Fl->St->Prop)×(AV->List (List AV)->Prop)×(Pv)×List (List (List AV))×List (Nat)×List (Int)×List (List Nat)×List (List (Nat×Nat))×List (List (Nat×Bool))×List (List AV)×List (Str)×List (List Int)×List (Option AV)×List (Bool)×List (List Str)×List (AV)×List (List (List Int))×List (List (List Nat×Int))
@[irreducible] noncomputable def Uc.b(u:Uc):Bs:=u.1
@[irreducible] noncomputable def Uc.p(u:Uc):Params:=u.2.1
@[irreducible] noncomputable def Uc.f(u:Uc):Fl->St->Prop:=u.2.2.1
@[irreducible] noncomputable def Uc.q(u:Uc):AV->List (List AV)->Prop:=u.2.2.2.1
@[irreducible] noncomputable def Uc.v(u:Uc):Pv:=u.2.2.2.2.1
@[irreducible] noncomputable def Uc.l(u:Uc)(i:Nat):List (List AV):=u.2.2.2.2.2.1.getD i ([])
@[irreducible] noncomputable def Uc.n(u:Uc)(i:Nat):Nat:=u.2.2.2.2.2.2.1.getD i (0)
@[irreducible] noncomputable def Uc.i(u:Uc)(i:Nat):Int:=u.2.2.2.2.2.2.2.1.getD i (0)
@[irreducible] noncomputable def Uc.d(u:Uc)(i:Nat):List Nat:=u.2.2.2.2.2.2.2.2.1.getD i ([])
@[irreducible] noncomputable def Uc.e(u:Uc)(i:Nat):List (Nat×Nat):=u.2.2.2.2.2.2.2.2.2.1.getD i ([])
@[irreducible] noncomputable def Uc.g(u:Uc)(i:Nat):List (Nat×Bool):=u.2.2.2.2.2.2.2.2.2.2.1.getD i ([])
@[irreducible] noncomputable def Uc.a(u:Uc)(i:Nat):List AV:=u.2.2.2.2.2.2.2.2.2.2.2.1.getD i ([])
@[irreducible] noncomputable def Uc.s(u:Uc)(i:Nat):Str:=u.2.2.2.2.2.2.2.2.2.2.2.2.1.getD i (default)
@[irreducible] noncomputable def Uc.j(u:Uc)(i:Nat):List Int:=u.2.2.2.2.2.2.2.2.2.2.2.2.2.1.getD i ([])
@[irreducible] noncomputable def Uc.o(u:Uc)(i:Nat):Option AV:=u.2.2.2.2.2.2.2.2.2.2.2.2.2.2.1.getD i (none)
@[irreducible] noncomputable def Uc.c(u:Uc)(i:Nat):Bool:=u.2.2.2.2.2.2.2.2.2.2.2.2.2.2.2.1.getD i (false)
@[irreducible] noncomputable def Uc.t(u:Uc)(i:Nat):List Str:=u.2.2.2.2.2.2.2.2.2.2.2.2.2.2.2.2.1.getD i ([])
@[irreducible] noncomputable def Uc.y(u:Uc)(i:Nat):AV:=u.2.2.2.2.2.2.2.2.2.2.2.2.2.2.2.2.2.1.getD i (.none)
@[irreducible] noncomputable def Uc.mk(b:Bs)(p:Params)(f:Fl->St->Prop)(q:AV->List (List AV)->Prop)(v:Pv)(l:List (List (List AV)))(n:List (Nat))(i:List (Int))(d:List (List Nat))(e:List (List (Nat×Nat)))(g:List (List (Nat×Bool)))(a:List (List AV))(s:List (Str))(j:List (List Int))(o:List (Option AV))(c:List (Bool))(t:List (List Str))(y:List (AV))(k:List (List (List Int)))(h:List (List (List Nat×Int))):Uc:=(b,p,f,q,v,l,n,i,d,e,g,a,s,j,o,c,t,y,k,h)
noncomputable def Ue:Type:=(Bs)×List (Wd)×List (FC)×List (St)×List (Shared)×List (Around)×List (Value->Shared->Prop)×List (List Addr)×List (Nat)×List (Scope)×List (Pos)×List (Value)×List (AV)×List (Str)×List (List (List AV))×List (AV->St->Prop)×List (List AV)×List (List Value)×List (List (Str×Value))×List (List Str)×List (Expr)×List (Bool)×List (Env)×List (Fl->St->Prop)×List (AV->List (List AV)->Prop)×List (List Stmt)×List (FuncData)×List (Tg)×List (Arguments)×List (List (Str×Addr))×List (List Nat)×List (Wd->List AV->Heap->Prop)×List (St->Prop)×List (Ex)×List (Int)×List (List Int)×List (List (Option AV))×(Params)×List (Flow->Shared->Prop)×List (Heap)
@[irreducible] noncomputable def Ue.b(u:Ue):Bs:=u.1
@[irreducible] noncomputable def Ue.w(u:Ue)(i:Nat):Wd:=u.2.1.getD i (⟨fun _=>none,[]⟩)
@[irreducible] noncomputable def Ue.c(u:Ue)(i:Nat):FC:=u.2.2.1.getD i (⟨default,[],false⟩)
@[irreducible] noncomputable def Ue.st(u:Ue)(i:Nat):St:=u.2.2.2.1.getD i (⟨[],[]⟩)
@[irreducible] noncomputable def Ue.s(u:Ue)(i:Nat):Shared:=u.2.2.2.2.1.getD i ({})
@[irreducible] noncomputable def Ue.A(u:Ue)(i:Nat):Around:=u.2.2.2.2.2.1.getD i ({})
@[irreducible] noncomputable def Ue.e(u:Ue)(i:Nat):Value->Shared->Prop:=u.2.2.2.2.2.2.1.getD i (fun _ _=>True)
@[irreducible] noncomputable def Ue.la(u:Ue)(i:Nat):List Addr:=u.2.2.2.2.2.2.2.1.getD i ([])
@[irreducible] noncomputable def Ue.n(u:Ue)(i:Nat):Nat:=u.2.2.2.2.2.2.2.2.1.getD i (0)
@[irreducible] noncomputable def Ue.sc(u:Ue)(i:Nat):Scope:=u.2.2.2.2.2.2.2.2.2.1.getD i (default)
@[irreducible] noncomputable def Ue.p(u:Ue)(i:Nat):Pos:=u.2.2.2.2.2.2.2.2.2.2.1.getD i (default)
@[irreducible] noncomputable def Ue.v(u:Ue)(i:Nat):Value:=u.2.2.2.2.2.2.2.2.2.2.2.1.getD i (default)
@[irreducible] noncomputable def Ue.y(u:Ue)(i:Nat):AV:=u.2.2.2.2.2.2.2.2.2.2.2.2.1.getD i (.none)
@[irreducible] noncomputable def Ue.t(u:Ue)(i:Nat):Str:=u.2.2.2.2.2.2.2.2.2.2.2.2.2.1.getD i (default)
@[irreducible] noncomputable def Ue.l(u:Ue)(i:Nat):List (List AV):=u.2.2.2.2.2.2.2.2.2.2.2.2.2.2.1.getD i ([])
@[irreducible] noncomputable def Ue.k(u:Ue)(i:Nat):AV->St->Prop:=u.2.2.2.2.2.2.2.2.2.2.2.2.2.2.2.1.getD i (fun _ _=>True)
@[irreducible] noncomputable def Ue.m(u:Ue)(i:Nat):List AV:=u.2.2.2.2.2.2.2.2.2.2.2.2.2.2.2.2.1.getD i ([])
@[irreducible] noncomputable def Ue.h(u:Ue)(i:Nat):List Value:=u.2.2.2.2.2.2.2.2.2.2.2.2.2.2.2.2.2.1.getD i ([])
@[irreducible] noncomputable def Ue.g(u:Ue)(i:Nat):List (Str×Value):=u.2.2.2.2.2.2.2.2.2.2.2.2.2.2.2.2.2.2.1.getD i ([])
@[irreducible] noncomputable def Ue.z(u:Ue)(i:Nat):List Str:=u.2.2.2.2.2.2.2.2.2.2.2.2.2.2.2.2.2.2.2.1.getD i ([])
@[irreducible] noncomputable def Ue.x(u:Ue)(i:Nat):Expr:=u.2.2.2.2.2.2.2.2.2.2.2.2.2.2.2.2.2.2.2.2.1.getD i (default)
@[irreducible] noncomputable def Ue.o(u:Ue)(i:Nat):Bool:=u.2.2.2.2.2.2.2.2.2.2.2.2.2.2.2.2.2.2.2.2.2.1.getD i (false)
@[irreducible] noncomputable def Ue.env(u:Ue)(i:Nat):Env:=u.2.2.2.2.2.2.2.2.2.2.2.2.2.2.2.2.2.2.2.2.2.2.1.getD i (default)
@[irreducible] noncomputable def Ue.f(u:Ue)(i:Nat):Fl->St->Prop:=u.2.2.2.2.2.2.2.2.2.2.2.2.2.2.2.2.2.2.2.2.2.2.2.1.getD i (fun _ _=>True)
@[irreducible] noncomputable def Ue.q(u:Ue)(i:Nat):AV->List (List AV)->Prop:=u.2.2.2.2.2.2.2.2.2.2.2.2.2.2.2.2.2.2.2.2.2.2.2.2.1.getD i (fun _ _=>True)
@[irreducible] noncomputable def Ue.bd(u:Ue)(i:Nat):List Stmt:=u.2.2.2.2.2.2.2.2.2.2.2.2.2.2.2.2.2.2.2.2.2.2.2.2.2.1.getD i ([])
@[irreducible] noncomputable def Ue.fd(u:Ue)(i:Nat):FuncData:=u.2.2.2.2.2.2.2.2.2.2.2.2.2.2.2.2.2.2.2.2.2.2.2.2.2.2.1.getD i (default)
@[irreducible] noncomputable def Ue.tg(u:Ue)(i:Nat):Tg:=u.2.2.2.2.2.2.2.2.2.2.2.2.2.2.2.2.2.2.2.2.2.2.2.2.2.2.2.1.getD i (.one 0)
@[irreducible] noncomputable def Ue.ag(u:Ue)(i:Nat):Arguments:=u.2.2.2.2.2.2.2.2.2.2.2.2.2.2.2.2.2.2.2.2.2.2.2.2.2.2.2.2.1.getD i (default)
@[irreducible] noncomputable def Ue.cl(u:Ue)(i:Nat):List (Str×Addr):=u.2.2.2.2.2.2.2.2.2.2.2.2.2.2.2.2.2.2.2.2.2.2.2.2.2.2.2.2.2.1.getD i ([])
@[irreducible] noncomputable def Ue.kp(u:Ue)(i:Nat):List Nat:=u.2.2.2.2.2.2.2.2.2.2.2.2.2.2.2.2.2.2.2.2.2.2.2.2.2.2.2.2.2.2.1.getD i ([])
@[irreducible] noncomputable def Ue.P(u:Ue)(i:Nat):Wd->List AV->Heap->Prop:=u.2.2.2.2.2.2.2.2.2.2.2.2.2.2.2.2.2.2.2.2.2.2.2.2.2.2.2.2.2.2.2.1.getD i (fun _ _ _=>True)
@[irreducible] noncomputable def Ue.ok(u:Ue)(i:Nat):St->Prop:=u.2.2.2.2.2.2.2.2.2.2.2.2.2.2.2.2.2.2.2.2.2.2.2.2.2.2.2.2.2.2.2.2.1.getD i (fun _=>True)
@[irreducible] noncomputable def Ue.ex(u:Ue)(i:Nat):Ex:=u.2.2.2.2.2.2.2.2.2.2.2.2.2.2.2.2.2.2.2.2.2.2.2.2.2.2.2.2.2.2.2.2.2.1.getD i (.none)
@[irreducible] noncomputable def Ue.i(u:Ue)(i:Nat):Int:=u.2.2.2.2.2.2.2.2.2.2.2.2.2.2.2.2.2.2.2.2.2.2.2.2.2.2.2.2.2.2.2.2.2.2.1.getD i (0)
@[irreducible] noncomputable def Ue.li(u:Ue)(i:Nat):List Int:=u.2.2.2.2.2.2.2.2.2.2.2.2.2.2.2.2.2.2.2.2.2.2.2.2.2.2.2.2.2.2.2.2.2.2.2.1.getD i ([])
@[irreducible] noncomputable def Ue.lv(u:Ue)(i:Nat):List (Option AV):=u.2.2.2.2.2.2.2.2.2.2.2.2.2.2.2.2.2.2.2.2.2.2.2.2.2.2.2.2.2.2.2.2.2.2.2.2.1.getD i ([])
@[irreducible] noncomputable def Ue.pr(u:Ue):Params:=u.2.2.2.2.2.2.2.2.2.2.2.2.2.2.2.2.2.2.2.2.2.2.2.2.2.2.2.2.2.2.2.2.2.2.2.2.2.1
@[irreducible] noncomputable def Ue.fz(u:Ue)(i:Nat):Flow->Shared->Prop:=u.2.2.2.2.2.2.2.2.2.2.2.2.2.2.2.2.2.2.2.2.2.2.2.2.2.2.2.2.2.2.2.2.2.2.2.2.2.2.1.getD i (fun _ _=>True)
@[irreducible] noncomputable def Ue.hp(u:Ue)(i:Nat):Heap:=u.2.2.2.2.2.2.2.2.2.2.2.2.2.2.2.2.2.2.2.2.2.2.2.2.2.2.2.2.2.2.2.2.2.2.2.2.2.2.2.getD i ({})
@[irreducible] noncomputable def Ue.mk(b:Bs)(w:List (Wd))(c:List (FC))(st:List (St))(s:List (Shared))(A:List (Around))(e:List (Value->Shared->Prop))(la:List (List Addr))(n:List (Nat))(sc:List (Scope))(p:List (Pos))(v:List (Value))(y:List (AV))(t:List (Str))(l:List (List (List AV)))(k:List (AV->St->Prop))(m:List (List AV))(h:List (List Value))(g:List (List (Str×Value)))(z:List (List Str))(x:List (Expr))(o:List (Bool))(env:List (Env))(f:List (Fl->St->Prop))(q:List (AV->List (List AV)->Prop))(bd:List (List Stmt))(fd:List (FuncData))(tg:List (Tg))(ag:List (Arguments))(cl:List (List (Str×Addr)))(kp:List (List Nat))(P:List (Wd->List AV->Heap->Prop))(ok:List (St->Prop))(ex:List (Ex))(i:List (Int))(li:List (List Int))(lv:List (List (Option AV)))(pr:Params)(fz:List (Flow->Shared->Prop))(hp:List (Heap)):Ue:=(b,w,c,st,s,A,e,la,n,sc,p,v,y,t,l,k,m,h,g,z,x,o,env,f,q,bd,fd,tg,ag,cl,kp,P,ok,ex,i,li,lv,pr,fz,hp)
@[irreducible] noncomputable def Xy{α:Type}(e:Nonempty α)(q:α->Prop):α:= @Classical.epsilon α e fun w=>¬q w
theorem hk{α:Type}{e:Nonempty α}{q:α->Prop}(h:q (Xy e q))(w:α):q w:=Classical.byContradiction fun n=>by
 unfold Xy at h
 exact @Classical.epsilon_spec_aux α e (fun w=>¬q w) ⟨w,n⟩ h
theorem Ug:Nonempty Params:=⟨{strHash:=fun _=>0,shareClass:=fun _=>0,mergeTok:=id,idOf:=fun _=>0,idOfShared:=fun _ _=>0,followText:=fun _=>false,idOfImm:=fun _=>0}⟩
theorem bH:Nonempty Bs:=Ug.elim fun P=>⟨⟨⟨default,[],[],[],[],{}⟩,⟨fun _ _=>0,P⟩,{},{},[],[]⟩⟩
theorem nc:Nonempty Uc:=bH.elim fun b=>Ug.elim fun P=>⟨.mk b P (fun _ _=>True) (fun _ _=>True) ⟨none,none,none,none,none,none,none,none,none,none,none,none,none,none,none,none,none,none,none,none,none,none,none,none,none,none,none,none,none,none,none,none,none,none,none,none,none,none,none,none⟩ [] [] [] [] [] [] [] [] [] [] [] [] [] [] []⟩
theorem ne:Nonempty Ue:=bH.elim fun b=>Ug.elim fun P=>⟨.mk b [] [] [] [] [] [] [] [] [] [] [] [] [] [] [] [] [] [] [] [] [] [] [] [] [] [] [] [] [] [] [] [] [] [] [] [] P [] []⟩
noncomputable def ec(q:Uc->Prop):Uc:=Xy nc q
noncomputable def ee(q:Ue->Prop):Ue:=Xy ne q
section
variable{B:Bs}{n:Nat}{W:Wd}{ls:Ls}{s:Shared}{Q:AV->Ls->Prop}
theorem E1(i:Int)(t:Tok):VR W (.int i) (.int i t):=⟨t,rfl⟩
theorem DG(x:Str)(t:Tok):VR W (.str x) (.str x t):=⟨t,rfl⟩
theorem QW(b:Bool):VR W (.bool b) (.bool b):=rfl
theorem RL.same(h:RL B W ls s){s':Shared}(hh:s'.heap=s.heap)(hg:s'.gens=s.gens)(ho:s'.os=s.os):RL B W ls s':=h.keepAll (fun _ _ e=>hh▸e) hg ho
theorem RL.newList(h:RL B W ls s){s':Shared}{arr:Array Value}{vs:List AV}(hv:l5 W vs arr.toList)(hh:s'.heap=s.heap.push {cls:= .type "list",data:= .seq arr})(hg:s'.gens=s.gens)(ho:s'.os=s.os):
  RL B (W.addL s.heap.objs.size) (ls++[vs]) s'∧VR (W.addL s.heap.objs.size) (.lst ls.length) (.ref s.heap.objs.size):=by
 refine b7 (h.fresh (Nat.le_refl s.heap.objs.size)) fun f1 f2=> ?_
 have h':RL B W ls s':=h.keepAll (fun b o e=>hh▸Heap.get?_push_of_some _ e) hg ho
 refine⟨h'.addL (vals:=arr.toList) ⟨0,?_⟩ f1 f2 hv,_,rfl,?_⟩
 ·(rw [hh,Heap.get?_push_size _ rfl,Array.toArray_toList];rfl)
 ·show(W.ρ++[_])[ls.length]? =_
  rw [←h.len,getElem?_append_right (Nat.le_refl _),Nat.sub_self];rfl
theorem RL.newTup(h:RL B W ls s){s':Shared}{arr:Array Value}{vs:List AV}(hv:l5 W vs arr.toList)(hh:s'.heap=s.heap.push {cls:= .type "tuple",data:= .seq arr})(hg:s'.gens=s.gens)(ho:s'.os=s.os):
  ∃W',W.le W'∧RL B W' ls s'∧VR W' (.tup vs) (.ref s.heap.objs.size):=by
 refine b7 (h.fresh (Nat.le_refl s.heap.objs.size)) fun f1 f2=> ?_
 have h':RL B W ls s':=h.keepAll (fun b o e=>hh▸Heap.get?_push_of_some _ e) hg ho
 have e:s'.heap.get? s.heap.objs.size=some {cls:= .type "tuple",data:= .seq arr}:=by rw [hh];exact Heap.get?_push_size _ rfl
 refine b7 (h'.addK e f1 f2 (fun vs e=>by exact T6 (·.ctorIdx) e rfl)) fun r hle=> ?_
 refine⟨_,hle,r,s.heap.objs.size,{cls:= .type "tuple",data:= .seq arr},arr.toList,rfl,?_,⟨rfl,0,?_⟩,hv.mono hle⟩
 ·show(if _=_ then _ else _)=_
  (rw [if_pos rfl];rfl)
 ·(rw [Array.toArray_toList];rfl)
theorem RL.list(h:RL B W ls s){k:Nat}{vs:List AV}{v:Value}(hv:VR W (.lst k) v)(hk:ls[k]? =some vs):∃a vals n,v= .ref a∧W.ρ[k]? =some a∧s.heap.get? a=some {cls:= .type "list",data:= .seq (List.toArray vals) n}∧l5 W vs vals:=by
 refine a9 hv fun a e hr=> ?_
 clear hv
 refine a9 (h.lists k a vs hr hk) fun vals ee1 hvs=> ?_
 obtain⟨n,hl⟩:=ee1
 exact⟨a,vals,n,e,hr,hl,hvs⟩
theorem FF{α:Type}(xs:List α):∀(k:Nat)(acc:Array α),(List.foldl (fun x1 x2=>x1++x2) acc (List.replicate k xs.toArray)).toList=acc.toList++(List.replicate k xs).flatten
 |0,acc=>by simp
 |k+1,acc=>by
  (rw [replicate_succ,foldl_cons];rewrite [FF xs k];rw [replicate_succ,flatten_cons])
  simp
theorem l5.rep{as:List AV}{vs:List Value}(h:l5 W as vs):∀k:Nat,l5 W (List.replicate k as).flatten (List.replicate k vs).flatten
 |0=>rfl
 |k+1=>by rw [replicate_succ,replicate_succ,flatten_cons,flatten_cons];exact h.append (l5.rep h k)
theorem PD{o:HC}{a b:Int}{va vb:Value}{P:AV->Prop}(ha:VR W (.int a) va)(hb:VR W (.int b) vb)(hq:VQ o a b P){A:Around}{E Z:Value->Shared->Prop}(hZ:∀i t tk,P (.int i)->Z (.int i t) {s with toks:=tk}):wpAny (model B.prog B.w) A (binaryOp o.to va vb) Z E s:=by
 obtain⟨t,rfl⟩:=ha;obtain⟨u,rfl⟩:=hb
 cases o with
 |add=>exact PyProof.Rows.add_int (hZ _ _ _ hq)
 |sub=>exact PyProof.Rows.sub_int (hZ _ _ _ hq)
 |mul=>exact PyProof.Rows.mul_int (hZ _ _ _ hq.2) hq.1
 |fdiv=>exact PyProof.Rows.floordiv_int hq.1 (hZ _ _ _ hq.2.2) (.inl hq.2.1)
 |mod=>exact PyProof.Rows.mod_int' hq.1 (hZ _ _ _ hq.2)
 |pow=>exact PyProof.Rows.pow_int hq.1 hq.2.1 (hZ _ _ _ hq.2.2)
 |shl=>exact PyProof.Rows.lshift_int hq.1 hq.2.1 (hZ _ _ _ hq.2.2)
 |shr=>exact PyProof.Rows.rshift_int hq.1 (hZ _ _ _ hq.2)
 |and=>exact PyProof.Rows.and_int (hZ _ _ _ hq)
 |or=>exact PyProof.Rows.or_int (hZ _ _ _ hq)
 |xor=>exact PyProof.Rows.xor_int (hZ _ _ _ hq)
set_option tactic.hygienic true in
theorem Ui(h:RL B W ls s){o:HC}{a b:AV}{va vb:Value}(ha:VR W a va)(hb:VR W b vb)(hq:O8 o a b ls Q):TL B n VR (binaryOp o.to va vb) W s Q:=by
 intro A E Z hA hZ
 cases a with
 |int a=>
  refine a9 (Lz hq) fun b ee1 hq'=> ?_
  subst ee1
  exact PD (P:=fun v=>Q v ls) ha hb hq' fun i t tk q=>hZ _ _ W _ ls W.le_refl (h.same rfl rfl rfl) (E1 _ _) q
 |str x=>
  refine f8 ha fun t ee1=> ?_
  clear ha
  subst ee1
  cases b with
  |str y=>
   refine f8 hb fun u ee1=> ?_
   clear hb
   subst ee1
   refine B2 hq fun ee0 h1 h2=> ?_
   clear hq
   subst ee0
   exact PyProof.Rows.add_str (fun t' k=>hZ _ _ W _ ls W.le_refl (h.same rfl rfl rfl) (DG _ _) h2) h1
  |int y=>
   refine f8 hb fun u ee1=> ?_
   clear hb
   subst ee1
   refine B2 hq fun ee0 h1 h2=> ?_
   clear hq
   subst ee0
   exact SB.mul h1 (fun t' k=>hZ _ _ W _ ls W.le_refl (h.same rfl rfl rfl) (DG _ _) h2)
  |_=>exact hq.elim
 |lst i=>
  cases b with
  |lst j=>
   obtain⟨rfl,hq⟩:=hq
   obtain⟨xs,e1,hq⟩:=j5 hq
   obtain⟨ys,e2,hq⟩:=j5 hq
   refine r5 (h.list ha e1) fun a1 v1 n1 ee3 r1 l1 s1=> ?_
   subst ee3
   refine r5 (h.list hb e2) fun a2 v2 n2 ee3 r2 l2 s2=> ?_
   subst ee3
   have hl1:=s1.length
   have hl2:=s2.length
   refine concat_meets ⟨_,l1,rfl⟩ ⟨_,l2,rfl⟩ noFill_list_add seq_list_add PySem.F.slot_list_add PySem.F.entry_list_add (PySem.F.args_list_add_2 _ _) (list_addW a1 a2 v1.toArray v2.toArray n1 n2 none none #[] #[]
    (by have:=hq.1;unfold sizeLine;simp only [size_toArray];lia)) ⟨l1,l2,?_⟩
   refine b7 (h.newList (vs:=xs++ys) (s':={s with heap:=s.heap.push {cls:= .type "list",data:= .seq (v1.toArray++v2.toArray)}}) (by simpa using s1.append s2) rfl rfl rfl) fun r hv=> ?_
   exact hZ _ _ _ _ _ (B0 _ _) r hv hq.2
  |int x=>
   obtain⟨rfl,hq⟩:=hq
   obtain⟨xs,e1,hq⟩:=j5 hq
   refine r5 (h.list ha e1) fun a1 v1 n1 ee3 r1 l1 s1=> ?_
   subst ee3
   obtain⟨u,rfl⟩:=hb
   obtain⟨q1,q2,q3,q4⟩:=hq
   have hlen:=s1.length
   refine wpAny_binaryOp_repeat_ref (T:="list") (U:="int") (by decide) ⟨_,l1,rfl⟩ (fun s'=>typeIs_int s' x u) noFill_list_mul F.fills_int_mul F.slot_int_rmul repeat_list F.slot_int_index.lookup
    (call_meets F.slot_int_rmul (typeIs_int s x u) F.entry_int_rmul (F.args_int_rmul_2 _ _) (int___rmul___int_list x u a1 v1.toArray n1)
     ⟨l1,rfl,⟨_,l1,rfl⟩,call_meets F.slot_list_mul ⟨_,l1,rfl⟩ F.entry_list_mul (F.args_list_mul_2 _ _)
      (AutoListH.list___mul___list_int_3 a1 v1.toArray n1 x u (by simp [Builtin.List.listFitsIndex];lia) (by rw [size_toArray,hlen];lia) (by rw [size_toArray,hlen];simp [Builtin.List.listTooLong,sizeLine];exact u2 ‹_› rfl)) ⟨l1,?_⟩⟩)
   have hrep:l5 W (List.replicate x.toNat xs).flatten (List.foldl (fun x1 x2=>x1++x2) (#[]:Array Value) (List.replicate (if v1.toArray.isEmpty=true then 0 else x.toNat) v1.toArray)).toList:=by
    rw [FF]
    split
    ·next he=>
     have:v1=[]:=by simpa using he
     subst this
     have:xs=[]:=List.length_eq_zero_iff.mp hlen.symm
     subst this
     simp [l5]
    ·exact s1.rep x.toNat
   obtain⟨r,hv⟩:=h.newList (vs:=(List.replicate x.toNat xs).flatten) (s':={s with heap:=s.heap.push {cls:= .type "list",data:= .seq (List.foldl (fun x1 x2=>x1++x2) (#[]:Array Value) (List.replicate (if v1.toArray.isEmpty=true then 0 else x.toNat) v1.toArray))}}) hrep rfl rfl rfl
   exact hZ _ _ _ _ _ (B0 _ _) r hv q4
  |_=>exact hq.elim
 |_=>exact hq.elim
end
section
variable{B:Bs}{n:Nat}{W:Wd}{ls:Ls}{s:Shared}{Q:AV->Ls->Prop}
theorem T0:∀{xs:List AV}{ns:List Int},B7 xs=some ns->xs=ns.map AV.int
 | [],_,h=>by(replace h:=Option.some.inj h;subst h);rfl
 | .int a::r,ns,h=>by
  refine a9 (Option.map_eq_some_iff.mp (show(B7 r).map (a:: ·)=some ns from h)) fun t h1 ee2=> ?_
  clear h
  subst ee2
  rw [T0 h1];rfl
 | .none::_,_,h=>by exact on h
 | .bool _::_,_,h=>by exact on h
 | .str _::_,_,h=>by exact on h
 | .tup _::_,_,h=>by exact on h
 | .lst _::_,_,h=>by exact on h
 | .raw _::_,_,h=>by exact on h
theorem Ct:∀{xs:List AV}{ns:List Str},O0 xs=some ns->xs=ns.map AV.str
 | [],_,h=>by(replace h:=Option.some.inj h;subst h);rfl
 | .str a::r,ns,h=>by
  refine a9 (Option.map_eq_some_iff.mp (show(O0 r).map (a:: ·)=some ns from h)) fun t h1 ee2=> ?_
  clear h
  subst ee2
  rw [Ct h1];rfl
 | .none::_,_,h=>by exact on h
 | .bool _::_,_,h=>by exact on h
 | .int _::_,_,h=>by exact on h
 | .tup _::_,_,h=>by exact on h
 | .lst _::_,_,h=>by exact on h
 | .raw _::_,_,h=>by exact on h
theorem Jk(ns:List Int):B7 (ns.map AV.int)=some ns:=by
 induction ns with
 |nil=>rfl
 |cons a r ih=>show(B7 (r.map AV.int)).map (a:: ·)=_;rw [ih];rfl
theorem JV(ns:List Str):O0 (ns.map AV.str)=some ns:=by
 induction ns with
 |nil=>rfl
 |cons a r ih=>show(O0 (r.map AV.str)).map (a:: ·)=_;rw [ih];rfl
theorem l5.ints:∀{ns:List Int}{vs:List Value},l5 W (ns.map AV.int) vs->IntsAre vs ns
 | [],_,e=>by rw [show _=_ from e];exact .nil
 |a::r,_,⟨v,t,e,⟨tk,ev⟩,h⟩=>by rw [e,ev];exact .cons a tk (l5.ints h)
theorem l5.strs:∀{ns:List Str}{vs:List Value},l5 W (ns.map AV.str) vs->StrsAre vs ns
 | [],_,e=>by rw [show _=_ from e];exact .nil
 |a::r,_,⟨v,t,e,⟨tk,ev⟩,h⟩=>by rw [e,ev];exact .cons a tk (l5.strs h)
theorem W6:∀{vs:List Value}{ns:List Str},StrsAre vs ns->CarriedAll vs (ns.map PyData.str)
 |_,_,.nil=> .nil
 |_,_,.cons _ t r=> .cons (.str _ t) (W6 r)
theorem CX:∀ns:List Str,ns.all PyData.strOk=true->PyData.canLayAll0 (ns.map PyData.str)=true
 | [],_=>rfl
 |_::r,h=>by
  simp only [List.all_cons,Bool.and_eq_true]at h
  simp [PyData.canLayAll0,PyData.canLay0,CX r h.2,h.1]
theorem Et:∀ns:List Str,PyData.depthAll (ns.map PyData.str)=0
 | []=>rfl
 |_::r=>by simp [PyData.depthAll,PyData.depth,Et r]
theorem CL(ns:List Str)(h:ns.all PyData.strOk=true):SeqAt.shaped (.list (ns.map PyData.str))=true:=by
 simp [SeqAt.shaped,PyData.canLay0,PyData.depth,CX ns h,Et]
theorem BW:∀ns ms:List Str,PySem.Spec.sameAll (ns.map PyData.str) (ms.map PyData.str)=decide (ns=ms)
 | [],[]=>by exact rfl
 | [],_::_=>by exact rfl
 |_::_,[]=>by exact rfl
 |a::r,b::t=>by
  simp only [map_cons,PySem.Spec.sameAll,PySem.Spec.same,BW r t]
  by_cases h:a=b<;>by_cases h':r=t<;>simp [h,h']
theorem QU{A:Around}{E Z:Value->Shared->Prop}{a b:Addr}{xs ys:List Value}{ns ms:List Str}(ha:s.heap.IsList a xs.toArray)(hb:s.heap.IsList b ys.toArray)(hi:StrsAre xs ns)(hj:StrsAre ys ms)(ho:(ns.all PyData.strOk&&ms.all PyData.strOk)=true)(hu:A.units+64<cLine)(h:Z (.bool (!decide (ns=ms))) s):
  wpAny (model B.prog B.w) A (compareOp .NotEq (.ref a) (.ref b)) Z E s:=
 ne_dataH_same (reads_newData ha (W6 hi)) (reads_newData hb (W6 hj)) (CL _ (Bool.and_eq_true_iff.mp ho).1) (CL _ (Bool.and_eq_true_iff.mp ho).2) hu (SeqAt.noMix_of_shape (.list .str) rfl _ _ (list_map_has fun _=>rfl) (list_map_has fun _=>rfl))
  (by rw [show PySem.Spec.same (.list (ns.map PyData.str)) (.list (ms.map PyData.str))=decide (ns=ms) by simp only [PySem.Spec.same];exact BW ns ms];exact h)
theorem He{h:RL B W ls s}{xs:List AV}{v:Value}(hv:VR W (.tup xs) v):∃a vals,v= .ref a∧s.heap.IsTuple a (List.toArray vals)∧l5 W xs vals:=by
 refine r5 hv fun a o arr e hk ee5 hr=> ?_
 clear hv
 obtain⟨hc,n,hd⟩:=ee5
 exact⟨a,arr,e,⟨o,h.keep _ _ hk,hc,n,hd⟩,hr⟩
theorem ET(ns ms:List Int)(hl:ns.length=ms.length):((List.range ns.length).all fun j=>ns.getD j 0==ms.getD j 0)=decide (ns=ms):=by
 by_cases h:ns=ms
 ·subst h;simp
 ·(rw [decide_eq_false h];rewrite [List.all_eq_false])
  apply Classical.byContradiction
  intro hn
  apply h
  refine List.ext_getElem hl fun i h1 h2=> ?_
  have:¬∃x,x∈List.range ns.length∧¬(ns.getD x 0==ms.getD x 0)=true:=hn
  have:=fun hne=>this ⟨i,by simpa using h1,hne⟩
  simp only [beq_iff_eq,getD_eq_getElem?_getD,getElem?_eq_getElem h1,getElem?_eq_getElem h2,Option.getD_some]at this
  exact Classical.byContradiction this
set_option tactic.hygienic true in
theorem EY{o:HE}{b:AV}{t t':Bool}(h:OH o b t=some t'):b= .none∧o= .is∧t=t':=by
 unfold OH at h
 split at h
 ·next e=>
  split at h
  ·next e2=>
   cases b with
   |none=>exact⟨rfl,eq_of_beq e2,Option.some.inj h⟩
   |_=>exact ft e
  ·exact on h
 ·exact on h
theorem QV{o:HE}{a b:Int}{t:Bool}{va vb:Value}(ha:VR W (.int a) va)(hb:VR W (.int b) vb)(hq:Vv o a b=some t){A:Around}{E Z:Value->Shared->Prop}(hZ:Z (.bool t) s):wpAny (model B.prog B.w) A (compareOp o.to va vb) Z E s:=by
 obtain⟨t,rfl⟩:=ha;obtain⟨u,rfl⟩:=hb
 cases o with
 |eq=>(replace hq:=Option.some.inj hq;subst hq);exact PyProof.Rows.eq_int hZ
 |ne=>(replace hq:=Option.some.inj hq;subst hq);exact PyProof.Rows.ne_int hZ
 |lt=>(replace hq:=Option.some.inj hq;subst hq);exact PyProof.Rows.lt_int hZ
 |le=>(replace hq:=Option.some.inj hq;subst hq);exact PySem.P.le_int hZ
 |gt=>(replace hq:=Option.some.inj hq;subst hq);exact PyProof.Rows.gt_int hZ
 |ge=>(replace hq:=Option.some.inj hq;subst hq);exact PySem.P.ge_int hZ
 |is=>exact on hq
theorem Ng{xs ys:List AV}{t:Bool}(h:GR xs ys=some t):(∃a b,B7 xs=some a∧B7 ys=some b∧(!decide (a=b))=t)∨((O0 xs).bind fun a=>(O0 ys).bind fun b=>if a.all PyData.strOk&&b.all PyData.strOk then some (!decide (a=b))else none)=some t:=by
 unfold GR at h
 cases e1:B7 xs with
 |none=>rw [e1]at h;exact .inr h
 |some a=>
  cases e2:B7 ys with
  |none=>rw [e1,e2]at h;exact .inr h
  |some b=>rw [e1,e2]at h;(replace h:=Option.some.inj h;subst h);exact .inl ⟨a,b,rfl,rfl,rfl⟩
set_option tactic.hygienic true in
theorem Gn(h:RL B W ls s){o:HE}{a b:AV}{t:Bool}{va vb:Value}(ha:VR W a va)(hb:VR W b vb)(hq:Bm ls o a b=some t){A:Around}(hA:Br n A){E Z:Value->Shared->Prop}(hZ:Z (.bool t) s):
  wpAny (model B.prog B.w) A (compareOp o.to va vb) Z E s:=by
 have hu:A.units+64<cLine:=by have:=hA.2.1;lia
 cases a with
 |int x=>
  cases b with
  |int y=>exact QV ha hb hq hZ
  |_=>
   refine B2 (EY hq) fun e1 ee1 ee2=> ?_
   subst ee1
   subst ee2
   (first |exact T6 (·.ctorIdx) e1 rfl |cases e1)
   all_goals (obtain⟨t,rfl⟩:=ha;rw [show vb=_ from hb];exact is_none hZ)
 |str x=>
  cases b with
  |str y=>
   obtain⟨t,rfl⟩:=ha;obtain⟨u,rfl⟩:=hb
   replace hq:(if o== .eq then some (x==y)else if o== .ne then some (x !=y)else none)=some _:=hq
   split at hq
   ·next e=>(replace hq:=Option.some.inj hq;subst hq);rw [eq_of_beq e];exact PyProof.Rows.eq_str hZ
   ·split at hq
    ·next e=>(replace hq:=Option.some.inj hq;subst hq);rw [eq_of_beq e];exact PyProof.Rows.ne_str hZ
    ·exact on hq
  |_=>exact on hq
 |none=>
  refine B2 (EY hq) fun ee0 ee1 ee2=> ?_
  subst ee0
  subst ee1
  subst ee2
  rw [show va=_ from ha,show vb=_ from hb];exact is_none hZ
 |raw v=>
  cases v with
  |ref p=>
   refine B2 (EY (t:=false) hq) fun ee0 ee1 ee2=> ?_
   subst ee0
   subst ee1
   subst ee2
   rw [show va=_ from ha,show vb=_ from hb];exact is_none hZ
  |_=>exact on hq
 |bool _=>exact on hq
 |tup xs=>
  cases b with
  |tup ys=>
   replace hq:(if o== .eq then(B7 xs).bind fun a=>(B7 ys).bind fun b=>some (decide (a=b))else none)=some t:=hq
   split at hq
   ·next eo=>
    rw [eq_of_beq eo]
    cases e1:B7 xs with
    |none=>rw [e1]at hq;exact on hq
    |some a'=>
    cases e2:B7 ys with
    |none=>rw [e1,e2]at hq;exact on hq
    |some b'=>
    rw [e1,e2]at hq
    (replace hq:=Option.some.inj hq;subst hq)
    rw [T0 e1]at ha;rw [T0 e2]at hb
    refine o4 (He (h:=h) ha) fun p vp ee2 hp hvp=> ?_
    subst ee2
    refine o4 (He (h:=h) hb) fun q vq ee2 hq hvq=> ?_
    subst ee2
    have ip:=hvp.ints
    have iq:=hvq.ints
    have lp:=ip.length
    have lq:=iq.length
    refine SeqAt.eq_tupleAt (e:=fun j=>a'.getD j 0==b'.getD j 0) hp hq (by lia) (fun j h1 h2=> ?_) ?_
    ·have h1':j<vp.length:=by exact h1
     have h2':j<vq.length:=by exact h2
     obtain⟨t1,g1⟩:=ip.get j (a'.getD j 0) (by rw [getD_eq_getElem?_getD,getElem?_eq_getElem (by exact XW ‹_› ‹_›)];rfl)
     obtain⟨t2,g2⟩:=iq.get j (b'.getD j 0) (by rw [getD_eq_getElem?_getD,getElem?_eq_getElem (by exact XW ‹_› ‹_›)];rfl)
     have g1':vp.toArray[j]= .int (a'.getD j 0) t1:=by
      have:=List.getElem?_eq_some_iff.mp g1;exact this.2
     have g2':vq.toArray[j]= .int (b'.getD j 0) t2:=by
      have:=List.getElem?_eq_some_iff.mp g2;exact this.2
     rw [g1',g2']
     exact SeqAt.EqAt.int_int (A:=A.in1) (s:=s) (a'.getD j 0) t1 (b'.getD j 0) t2
    ·simp only [size_toArray,lp,lq]
     by_cases hl:a'.length=b'.length
     ·rw [hl,Nat.min_self,←hl,ET _ _ hl];simpa [hl]using hZ
     ·have:¬a'=b':=fun e=>hl (by(rw [e];rfl))
      rw [show(a'.length==b'.length)=false from by simpa using hl,Bool.and_false]
      rwa [decide_eq_false this]at hZ
   ·exact on hq
  |_=>exact on hq
 |lst i=>
  cases b with
  |lst j=>
   replace hq:(if o== .ne then(ls[i]?).bind fun xs=>(ls[j]?).bind fun ys=>GR xs ys else none)=some t:=hq
   split at hq
   ·next eo=>
    rw [eq_of_beq eo]
    cases e1:ls[i]? with
    |none=>rw [e1]at hq;exact on hq
    |some xs=>
    cases e2:ls[j]? with
    |none=>rw [e1,e2]at hq;exact on hq
    |some ys=>
    rw [e1,e2]at hq
    replace hq:GR xs ys=some t:=hq
    refine r5 (h.list ha e1) fun p vp np ee3 rp lp hvp=> ?_
    subst ee3
    refine r5 (h.list hb e2) fun q vq nq ee3 rq lq hvq=> ?_
    subst ee3
    replace hq:=Ng hq
    rcases hq with⟨a',b',f1,f2,ee⟩ |hq
    ·subst ee
     rw [T0 f1]at hvp;rw [T0 f2]at hvq
     exact PySem.W.ke_ne_ints ⟨_,lp,rfl,_,rfl⟩ ⟨_,lq,rfl,_,rfl⟩ hvp.ints hvq.ints hu hZ
    ·cases f1:O0 xs with
     |none=>rw [f1]at hq;exact on hq
     |some a'=>
     cases f2:O0 ys with
     |none=>rw [f1,f2]at hq;exact on hq
     |some b'=>
     rw [f1,f2]at hq
     replace hq:(if a'.all PyData.strOk&&b'.all PyData.strOk then some (!decide (a'=b'))else none)=some t:=hq
     split at hq
     ·next ho=>
      (replace hq:=Option.some.inj hq;subst hq)
      rw [Ct f1]at hvp;rw [Ct f2]at hvq
      exact QU ⟨_,lp,rfl,_,rfl⟩ ⟨_,lq,rfl,_,rfl⟩ hvp.strs hvq.strs ho hu hZ
     ·exact on hq
   ·exact on hq
  |_=>exact on hq
end
section
variable{B:Bs}{n:Nat}{W:Wd}{ls:Ls}{s:Shared}{Q:AV->Ls->Prop}{A:Around}
set_option tactic.hygienic true in
theorem Y6(h:RL B W ls s){a:AV}{t:Bool}{va:Value}(ha:VR W a va)(hq:O5 ls a=some t){E:Value->Shared->Prop}{Z:Bool->Shared->Prop}(hZ:∀tk,Z t {s with toks:=tk}):
  wpAny (model B.prog B.w) A (truthy va) Z E s:=by
 cases a with
 |none=>(replace hq:=Option.some.inj hq;subst hq);rw [show va=_ from ha];exact fun _ _ _=>hZ s.toks
 |bool b=>(replace hq:=(Option.some.inj hq).symm;subst hq);rw [show va=_ from ha];exact wpAny_truthy_bool (hZ s.toks)
 |int i=>(replace hq:=Option.some.inj hq;subst hq);obtain⟨u,rfl⟩:=ha;exact P.truthy_int (hZ s.toks)
 |str x=>
  refine f8 ha fun u ee1=> ?_
  clear ha
  subst ee1
  simp only [O5]at hq
  split at hq
  ·next hl=>
   (replace hq:=Option.some.inj hq;subst hq)
   refine P.truthy_str (by lia) ?_
   have:((x.length:Int) !=0)=(x.length !=0):=by
    cases e:x.length with
    |zero=>rfl
    |succ k=>(rw [show(k+1 !=0)=true from by exact rfl];rfl)<;>(simp only [bne_iff_ne,ne_eq];omega)
   rw [this];exact hZ _
  ·exact on hq
 |lst k=>
  simp only [O5,Option.bind_eq_some_iff]at hq
  obtain⟨xs,e1,hq⟩:=hq
  split at hq
  ·next hl=>
   (replace hq:=Option.some.inj hq;subst hq)
   obtain⟨p,vp,np,rfl,rp,lp,hvp⟩:=h.list ha e1
   have hlen:=hvp.length
   refine wpAny_truthy_list (items:=vp.toArray) ⟨_,lp,rfl,_,rfl⟩ (by simp only [size_toArray];lia) ?_
   have:(!vp.toArray.isEmpty)=(xs.length !=0):=by
    cases vp with
    |nil=>rw [length_nil]at hlen;rw [←hlen];rfl
    |cons a r=>rw [length_cons]at hlen;rw [←hlen];simp
   rw [this];exact hZ _
  ·exact on hq
 |tup _=>exact on hq
 |raw _=>exact on hq
theorem LH{ls:Ls}{a b x:AV}(h:t8 ls a b=some x):
  (∃k i,a= .lst k∧b= .int i∧(if -(2^63)<=i∧i<2^63 then(ls[k]?).bind fun xs=>(seqIndex? i xs.length).bind (xs[·]?)else none)=some x)∨
  (∃xs i,a= .tup xs∧b= .int i∧(if -(2^63)<=i∧i<2^63 then(seqIndex? i xs.length).bind (xs[·]?)else none)=some x)∨
  ∃y i,a= .str y∧b= .int i∧(if -(2^63)<=i∧i<2^63 then(seqIndex? i y.length).bind fun k=>(y.cps[k]?).map fun c=> .str ⟨#[c]⟩else none)=some x:=by
 cases b with
 |int i=>cases a with
  |lst k=>exact .inl ⟨k,i,rfl,rfl,h⟩
  |tup k=>exact .inr (.inl ⟨k,i,rfl,rfl,h⟩)
  |str k=>exact .inr (.inr ⟨k,i,rfl,rfl,h⟩)
  |_=>exact on h
 |_=>cases a<;>exact on h
set_option tactic.hygienic true in
theorem QE(h:RL B W ls s){a b x:AV}{va vb:Value}(ha:VR W a va)(hb:VR W b vb)(hq:t8 ls a b=some x){E:Value->Shared->Prop}{Z:Value->Shared->Prop}{value slice:Expr}
  (hs:∀v i u,subscripted slice false v (.int i u)=operate [v,.int i u] (getItem v (.int i u)))
  (hZ:∀v tk,VR W x v->Z v {s with toks:=tk}):
  wpAny (model B.prog B.w) A (subscriptTail value slice va vb) Z E s:=by
 replace hq:=LH hq
 rcases hq with⟨k,i,ee1,ee2,hq⟩ |⟨xs,i,ee1,ee2,hq⟩ |⟨x,i,ee1,ee2,hq⟩
 ·subst ee1
  subst ee2
  split at hq
  ·next hr=>
   simp only [Option.bind_eq_some_iff]at hq
   refine a9 hq fun xs e1 rr4=> ?_
   clear hq
   obtain⟨j,e2,e3⟩:=rr4
   refine r5 (h.list ha e1) fun p vp np ee3 rp lp hvp=> ?_
   subst ee3
   refine f8 hb fun u ee1=> ?_
   clear hb
   subst ee1
   have hlen:=hvp.length
   refine a9 (hvp.get j e3) fun v e4 hv=> ?_
   have hl:s.heap.IsList p vp.toArray:=⟨_,lp,rfl,_,rfl⟩
   refine tail_any (ops:=[.ref p,.int i u]) hl.typeIs slot_list_getitem.lookup ?_ (hs _ _ _)
   unfold seqIndex? at e2
   by_cases h0:i<0
   ·simp only [h0,if_true]at e2
    split at e2
    ·next hc=>
     (replace e2:=Option.some.inj e2;subst e2)
     simp only [Bool.and_eq_true,decide_eq_true_eq]at hc
     exact wpAny_getItem_list_neg hl h0 (by simp only [size_toArray];lia) hr.1 (by rw [size_toArray,hlen];simpa using e4) (hZ v s.toks hv)
    ·exact on e2
   ·simp only [h0,if_false]at e2
    split at e2
    ·(replace e2:=Option.some.inj e2;subst e2)
     exact wpAny_getItem_list hl (by exact z1 ‹_›) hr.2 (by simpa using e4) (hZ v s.toks hv)
    ·exact on e2
  ·exact on hq
 ·subst ee1
  subst ee2
  split at hq
  ·next hr=>
   simp only [Option.bind_eq_some_iff]at hq
   refine a9 hq fun j e2 e3=> ?_
   clear hq
   refine o4 (He (h:=h) ha) fun p vp ee2 lp hvp=> ?_
   subst ee2
   refine f8 hb fun u ee1=> ?_
   clear hb
   subst ee1
   have hlen:=hvp.length
   refine a9 (hvp.get j e3) fun v e4 hv=> ?_
   exact tail_any (ops:=[.ref p,.int i u]) (lp.typeIs) slot_tuple_getitem.lookup (getItem_tuple lp hr.1 hr.2 (by rw [size_toArray,hlen];exact e2) (by simpa using e4) (hZ v s.toks hv)) (hs _ _ _)
  ·exact on hq
 ·subst ee1
  subst ee2
  split at hq
  ·next hr=>
   simp only [Option.bind_eq_some_iff,Option.map_eq_some_iff]at hq
   refine a9 hq fun j e2 rr12=> ?_
   clear hq
   obtain⟨c,e3,rfl⟩:=rr12
   refine f8 ha fun t ee1=> ?_
   clear ha
   subst ee1
   refine f8 hb fun u ee1=> ?_
   clear hb
   subst ee1
   refine tail_any (ops:=[.str x t,.int i u]) (typeIs_str s x t) F.slot_str_getitem.lookup (getItem_str (c:=c) ?_ ?_ (hZ _ _ (DG _ _))) (hs _ _ _)
   ·simp;lia
   ·rw [e2];exact e3
  ·exact on hq
theorem K9{l:AV}{v:Value}{o:Option Int}(hv:VR W l v)(ho:AT l=some o):IsPart v o∧∃p,v=partValue p∧p.map (·.1)=o:=by
 cases l with
 |none=>(replace ho:=Option.some.inj ho;subst ho);rw [show v=_ from hv];exact⟨.none,none,rfl,rfl⟩
 |int i=>(replace ho:=Option.some.inj ho;subst ho);obtain⟨t,rfl⟩:=hv;exact⟨.int i t,some (i,t),rfl,rfl⟩
 |bool _=>exact on ho
 |str _=>exact on ho
 |tup _=>exact on ho
 |lst _=>exact on ho
 |raw _=>exact on ho
theorem l5.pick{as:List AV}{vs:List Value}(h:l5 W as vs)(lo hi st:Option Int):l5 W (F7 as lo hi st) (slicePick vs.toArray lo hi st).toList:=by
 have hl:=h.length
 unfold F7 slicePick
 rw [size_toArray,hl]
 have:∀idx:List Nat,l5 W (idx.filterMap (as[·]?)) (idx.filterMap (vs.toArray[·]?)):=by
  intro idx
  induction idx with
  |nil=>exact rfl
  |cons i r ih=>
   rw [filterMap_cons,filterMap_cons]
   cases e:as[i]? with
   |none=>
    have:vs.toArray[i]? =none:=by
     (rw [List.getElem?_toArray];rewrite [List.getElem?_eq_none_iff];rw [hl]);exact List.getElem?_eq_none_iff.mp e
    rw [this];exact ih
   |some a=>
    refine a9 (h.get i e) fun v e' hv=> ?_
    rw [show vs.toArray[i]? =some v from by simpa using e']
    exact⟨v,_,rfl,hv,ih⟩
 exact this _
theorem X8(h:RL B W ls s){a:Addr}{vp:List Value}{np:Nat}{vl vh vst:Value}{xs:List AV}{lo hi st:Option Int}(lp:s.heap.get? a=some {cls:= .type "list",dict:=none,data:= .seq vp.toArray np,slots:= #[]})(hvp:l5 W xs vp)(hlen:xs.length<=1000000)(pl:IsPart vl lo)(ph:IsPart vh hi)(ps:IsPart vst st)(h0:st≠some 0)
  {E Z:Value->Shared->Prop} {value:Expr} {lower upper step:Option Expr} {p:Pos}
  (hZ:∀s' W',W.le W'->RL B W' (ls++[F7 xs lo hi st]) s'->VR W' (.lst ls.length) (.ref (s.heap.objs.size+1))->Z (.ref (s.heap.objs.size+1)) s'):
  wpAny (model B.prog B.w) A (subscriptTail value (.Slice lower upper step p) (.ref a) (.ref s.heap.objs.size)) Z E {s with heap:=s.heap.push {cls:= .type "slice",data:= .fields #[vl,vh,vst]}}:=by
 have hl:=hvp.length
 have h':RL B W ls {s with heap:=s.heap.push {cls:= .type "slice",data:= .fields #[vl,vh,vst]}}:=h.keepAll (fun _ _ e=>Heap.get?_push_of_some _ e) rfl rfl
 have lp':=Heap.get?_push_of_some (o:={cls:= .type "slice",data:= .fields #[vl,vh,vst]}) lp
 have hL:Heap.IsList (s.heap.push {cls:= .type "slice",data:= .fields #[vl,vh,vst]}) a vp.toArray:=⟨_,lp',rfl,_,rfl⟩
 have hsz:(s.heap.push {cls:= .type "slice",data:= .fields #[vl,vh,vst]}).objs.size=s.heap.objs.size+1:=Heap.size_push _ _
 refine b7 (h'.newList (vs:=F7 xs lo hi st) (s':={s with heap:=(s.heap.push {cls:= .type "slice",data:= .fields #[vl,vh,vst]}).push {cls:= .type "list",data:= .seq (slicePick vp.toArray lo hi st)}}) (hvp.pick lo hi st) rfl rfl rfl) fun r hv=> ?_
 have fin:wpAny (model B.prog B.w) A (getItem (.ref a) (.ref s.heap.objs.size)) Z E {s with heap:=s.heap.push {cls:= .type "slice",data:= .fields #[vl,vh,vst]}}:=by
  refine wpAny_getItem_list_slice hL ⟨_,Heap.get?_push_size _ rfl,rfl,rfl⟩ pl ph ps h0 ?_ (by unfold sizeLine;simp only [size_toArray];exact e8 ‹_› ‹_› rfl)
  dsimp only at r hv ⊢
  rw [hsz]at r hv ⊢
  exact hZ _ _ (B0 _ _) r hv
 cases step with
 |none=>exact tail_any (ops:=[.ref s.heap.objs.size,.ref a]) hL.typeIs slot_list_getitem.lookup fin rfl
 |some e=>exact tail_any (ops:=[.ref a,.ref s.heap.objs.size]) hL.typeIs slot_list_getitem.lookup fin rfl
theorem Fe(h:RL B W ls s){k:Nat}{va vl vh vst:Value}{xs:List AV}{lo hi st:Option Int}(ha:VR W (.lst k) va)(hk:ls[k]? =some xs)(hlen:xs.length<=1000000)(pl:IsPart vl lo)(ph:IsPart vh hi)(ps:IsPart vst st)(h0:st≠some 0)
  {E Z:Value->Shared->Prop} {value:Expr} {lower upper step:Option Expr} {p:Pos}
  (hZ:∀s' W',W.le W'->RL B W' (ls++[F7 xs lo hi st]) s'->VR W' (.lst ls.length) (.ref (s.heap.objs.size+1))->Z (.ref (s.heap.objs.size+1)) s'):
  wpAny (model B.prog B.w) A (subscriptTail value (.Slice lower upper step p) va (.ref s.heap.objs.size)) Z E {s with heap:=s.heap.push {cls:= .type "slice",data:= .fields #[vl,vh,vst]}}:=by
 refine r5 (h.list ha hk) fun a vp np ee3 rp lp hvp=> ?_
 subst ee3
 exact X8 h lp hvp hlen pl ph ps h0 hZ
set_option tactic.hygienic true in
theorem Hp(h:RL B W ls s){x:Str}{va vl vh:Value}{lo hi:Option Int}{l u:Option (Int×Tok)}(ha:VR W (.str x) va)(el:vl=partValue l)(eh:vh=partValue u)(e1:l.map (·.1)=lo)(e2:u.map (·.1)=hi)(hlen:x.length<=1000000)
  {E Z:Value->Shared->Prop} {value:Expr} {lower upper step:Option Expr} {p:Pos}
  (hZ:∀t s',RL B W ls s'->Z (.str (F1 x lo hi) t) s'):
  wpAny (model B.prog B.w) A (subscriptTail value (.Slice lower upper step p) va (.ref s.heap.objs.size)) Z E {s with heap:=s.heap.push {cls:= .type "slice",data:= .fields #[vl,vh,.none]}}:=by
 refine f8 ha fun t ee1=> ?_
 clear ha
 subst ee1
 subst el eh
 have h':∀tk,RL B W ls {s with heap:=s.heap.push {cls:= .type "slice",data:= .fields #[partValue l,partValue u,.none]},toks:=tk}:=fun tk=>h.keepAll (fun _ _ e=>Heap.get?_push_of_some _ e) rfl rfl
 have hle:(Builtin.Str.strSliceIndices lo hi 1 x.length).length<=x.length:=indices_len_le lo hi x.length
 have fin:wpAny (model B.prog B.w) A (getItem (.str x t) (.ref s.heap.objs.size)) Z E {s with heap:=s.heap.push {cls:= .type "slice",data:= .fields #[partValue l,partValue u,.none]}}:=by
  refine wpAny_getItem_str_slice (l:=l) (u:=u) (st:=none) ⟨_,Heap.get?_push_size _ rfl,rfl,rfl⟩ rfl ?_
  unfold sliceMade slicePicked
  simp only [Option.map_none,Option.getD_none,e1,e2]
  have hz:=hZ
  unfold F1 at hz
  split
  ·next hc=>
   simp only [beq_self_eq_true,Bool.true_and]at hc
   simp only [hc,if_true]at hz
   exact hz t _ (h' s.toks)
  ·next hc=>
   simp only [beq_self_eq_true,Bool.true_and]at hc
   rw [if_neg hc]at hz
   refine⟨?_,hz _ _ (h' _)⟩
   show((Builtin.Str.strSliceIndices lo hi 1 x.length).filterMap _).toArray.size<=sizeLine
   rw [size_toArray]
   have:=List.length_filterMap_le (x.cps[·]?) (Builtin.Str.strSliceIndices lo hi 1 x.length)
   unfold sizeLine;lia
 cases step with
 |none=>exact tail_any (ops:=[.ref s.heap.objs.size,.str x t]) (typeIs_str _ x t) F.slot_str_getitem.lookup fin rfl
 |some e=>exact tail_any (ops:=[.str x t,.ref s.heap.objs.size]) (typeIs_str _ x t) F.slot_str_getitem.lookup fin rfl
end
set_option genInjectivity false
set_option genSizeOf false
structure Vw where
 tag:Nat
 p:Pos
 k:Nat
 id:Str
 co:Const
 op:Operator
 uo:UnaryOp
 bo:BoolOp
 ops:List CmpOp
 a:Expr
 b:Expr
 c:Expr
 es:List Expr
 kws:List Keyword
 gs:List Comprehension
 sc:Scope
 x:Option Expr
 y:Option Expr
 z:Option Expr
noncomputable def WT:Pos:=⟨0,0,0,0⟩
noncomputable def Ux:Expr:= .Await (.Name ⟨#[]⟩ WT) WT
noncomputable def HA:Vw:=⟨20,WT,0,⟨#[]⟩,.none,.Add,.Not,.And,[],Ux,Ux,Ux,[],[],[],⟨.function,[],false,false,[]⟩,none,none,none⟩
noncomputable def vw:Expr->Vw
 | .Name id p=>{HA with tag:=1,id:=id,p:=p}
 | .Constant c k p=>{HA with tag:=2,co:=c,k:=k,p:=p}
 | .BinOp a op b p=>{HA with tag:=3,a:=a,op:=op,b:=b,p:=p}
 | .UnaryOp o a p=>{HA with tag:=4,uo:=o,a:=a,p:=p}
 | .Compare a ops es p=>{HA with tag:=5,a:=a,ops:=ops,es:=es,p:=p}
 | .BoolOp o es p=>{HA with tag:=6,bo:=o,es:=es,p:=p}
 | .IfExp a b c p=>{HA with tag:=7,a:=a,b:=b,c:=c,p:=p}
 | .Subscript a b p=>{HA with tag:=8,a:=a,b:=b,p:=p}
 | .Slice x y z p=>{HA with tag:=9,x:=x,y:=y,z:=z,p:=p}
 | .Tuple es k p=>{HA with tag:=10,es:=es,k:=k,p:=p}
 | .List es p=>{HA with tag:=11,es:=es,p:=p}
 | .Call a es kws p=>{HA with tag:=12,a:=a,es:=es,kws:=kws,p:=p}
 | .Attribute a id p=>{HA with tag:=13,a:=a,id:=id,p:=p}
 | .ListComp a gs sc p=>{HA with tag:=14,a:=a,gs:=gs,sc:=sc,p:=p}
 | .SetComp .. =>{HA with tag:=15}
 | .DictComp .. =>{HA with tag:=16}
 | .Set .. =>{HA with tag:=18}
 |_=>HA
noncomputable def Ni(v:Vw)(t:Nat):Expr:=match t with
 |1=> .Name v.id v.p
 |2=> .Constant v.co v.k v.p
 |3=> .BinOp v.a v.op v.b v.p
 |4=> .UnaryOp v.uo v.a v.p
 |5=> .Compare v.a v.ops v.es v.p
 |6=> .BoolOp v.bo v.es v.p
 |7=> .IfExp v.a v.b v.c v.p
 |8=> .Subscript v.a v.b v.p
 |9=> .Slice v.x v.y v.z v.p
 |10=> .Tuple v.es v.k v.p
 |11=> .List v.es v.p
 |12=> .Call v.a v.es v.kws v.p
 |13=> .Attribute v.a v.id v.p
 |14=> .ListComp v.a v.gs v.sc v.p
 |_=>Ux
noncomputable def is(e:Expr)(t:Nat):Bool:=Nat.beq (vw e).tag t
theorem RA(e:Expr):Nat.blt (vw e).tag 15=true->e=Ni (vw e) (vw e).tag:=by
 cases e<;>first |exact fun _=>rfl |exact fun h=>Bool.noConfusion h
theorem un{e:Expr}{t:Nat}(h:is e t=true)(hb:Nat.blt t 15=true):e=Ni (vw e) t:=by
 have h:=Nat.eq_of_beq_eq_true h
 subst h
 exact RA e hb
noncomputable def Lq(k:Option NameKind):Bool:=k==some .local ||k==some .cell ||k==some .free
noncomputable def L7(sc cs:Scope):Scope:={cs with names:=cs.names.map fun(n,k)=>if k== .free&&sc.kind== .function&&sc.names.lookup n==some .cell then(n,.cell)else(n,k)}
noncomputable def w0(G:List (Str×Value))(sc:Scope)(e:Expr)(v:Value):Bool:=is e 1&&(sc.names.lookup (vw e).id==some .globalImplicit&&G.lookup (vw e).id==some v&& !((vw e).id==("__debug__":Str)))
noncomputable def Gz(G:List (Str×Value))(sc:Scope)(id:Str)(k:Int):Bool:=sc.names.lookup id==some .globalImplicit&& !(id==("__debug__":Str))&&match G.lookup id with
 |some (.int k' _)=>k'==k
 |_=>false
noncomputable def Da(Γ:List Str)(sc:Scope)(id:Str)(i:Nat):Bool:=Γ[i]? ==some id&&Lq (sc.names.lookup id)&& !(id==("__debug__":Str))&& !(id==("__classdict__":Str))
noncomputable def A1(Γ:List Str)(sc:Scope)(mine:Bool)(id:Str)(i:Nat):Bool:=Γ[i]? ==some id&&(sc.names.lookup id==some .local || (mine&&sc.names.lookup id==some .cell))
noncomputable def O1(e:Expr):Bool:=is e 12&&(is (vw e).a 1&&((vw e).es.isEmpty&&(vw e).kws.isEmpty))
noncomputable def BS(e:Expr):Bool:=is e 9
noncomputable def X9(e:Expr):Bool:=is e 18
noncomputable def Ed(e:Expr):Bool:=is e 13
noncomputable def Bc{α:Type}:List α->Option α
 | [a]=>some a
 |_=>none
noncomputable def HK{α:Type}:List α->Option (α×α)
 | [a,b]=>some (a,b)
 |_=>none
noncomputable def Gd{α:Type}:List α->Option (α×List α)
 |a::r=>some (a,r)
 | []=>none
noncomputable def Sp(o:BoolOp)(p:Pos)(l:List Expr):Option (Expr×Expr):=(Gd l).bind fun u=>(Gd u.2).bind fun t=>if t.2.isEmpty then some (u.1,t.1)else(Bc t.2).map fun z=>(u.1,.BoolOp o [t.1,z] p)
noncomputable def bF(l:List Keyword):Option (Str×Expr):=(Bc l).bind fun k=>k.arg.map fun s=>(s,k.value)
noncomputable def Vz(l:List Comprehension):Option (Expr×Expr):=(Bc l).bind fun g=>if g.ifs.isEmpty&&g.is_async==0 then some (g.target,g.iter)else none
noncomputable def BI(Γ:List Str)(sc:Scope)(mine:Bool)(t:Expr):Tg->Bool
 | .one i=>is t 1&&A1 Γ sc mine (vw t).id i
 | .two i j=>is t 10&&(HK (vw t).es).any fun x=>is x.1 1&&(is x.2 1&&(A1 Γ sc mine (vw x.1).id i&&(A1 Γ sc mine (vw x.2).id j&& !((vw x.1).id==(vw x.2).id))))
noncomputable def DA:Oy->Tg->Bool
 | .list _,_=>true
 | .enum _,.two _ _=>true
 | .rev _,.one _=>true
 | .range _ _,.one _=>true
 | .range1 _,.one _=>true
 |_,_=>false
noncomputable def U2(sc cs:Scope):Bool:=cs.names.all fun x=>x.2 != .cell&&(x.2 != .local ||cs.names.lookup x.1==some .local)&&(x.2 != .free || (sc.names.lookup x.1==some .cell&&cs.names.lookup x.1==some .free))
noncomputable def EK(Γ:List Str)(sc:Scope):List Nat->Bool:=fun keep=>keep.all fun i=>match Γ[i]? with
 |some id=>sc.names.lookup id==some .cell ||sc.names.lookup id==some .free
 |none=>false
noncomputable def BJ(c:Const)(e:Expr):Bool:=is e 2&&(vw e).co==c
noncomputable def K4:Ex->Bool
 | .none=>true
 |_=>false
noncomputable def Do:Ex->Bool
 | .comp .. =>true
 |_=>false
noncomputable def SE(G:List (Str×Value))(sc:Scope)(k:Int)(e:Expr):Bool:=BJ (.int k) e || (is e 1&&Gz G sc (vw e).id k)
section
variable(G:List (Str×Value))(Γ:List Str)
mutual
noncomputable def d6:Bool->Scope->Expr->Ex->Bool
 |_,sc,e,.var i=>is e 1&&Da Γ sc (vw e).id i
 |_,sc,e,.glob v=>w0 G sc e v
 |_,sc,e,.int k=>SE G sc k e
 |_,_,e,.str x=>BJ (.str x) e
 |_,_,e,.bool b=>BJ (.bool b) e
 |_,_,e,.none=>BJ .none e
 |mi,sc,e,.bin o a b=>is e 3&&((vw e).op==o.to&&(d6 mi sc (vw e).a a&&d6 mi sc (vw e).b b))
 |mi,sc,e,.neg a=>is e 4&&((vw e).uo== .USub&&d6 mi sc (vw e).a a)
 |mi,sc,e,.inv a=>is e 4&&((vw e).uo== .Invert&&d6 mi sc (vw e).a a)
 |mi,sc,e,.not a=>is e 4&&((vw e).uo== .Not&&d6 mi sc (vw e).a a)
 |mi,sc,e,.cmp a o b=>is e 5&&((vw e).ops==[o.to]&&(d6 mi sc (vw e).a a&&(Bc (vw e).es).any fun r=> !X9 r&&d6 mi sc r b))
 |mi,sc,e,.cmp2 a o b o' c=>is e 5&&((vw e).ops==[o.to,o'.to]&&(d6 mi sc (vw e).a a&&(HK (vw e).es).any fun r=> !X9 r.2&&(d6 mi sc r.1 b&&d6 mi sc r.2 c)))
 |mi,sc,e,.and a b=>is e 6&&((vw e).bo== .And&&(Sp .And (vw e).p (vw e).es).any fun u=>d6 mi sc u.1 a&&d6 mi sc u.2 b)
 |mi,sc,e,.or a b=>is e 6&&((vw e).bo== .Or&&(HK (vw e).es).any fun u=>d6 mi sc u.1 a&&d6 mi sc u.2 b)
 |mi,sc,e,.ite c a b=>is e 7&&(d6 mi sc (vw e).a c&&(d6 mi sc (vw e).b a&&d6 mi sc (vw e).c b))
 |mi,sc,e,.slice a l h s=>is e 8&&(is (vw e).b 9&&(d6 mi sc (vw e).a a&&((vw (vw e).b).x.elim (K4 l) (fun e=>d6 mi sc e l)&&((vw (vw e).b).y.elim (K4 h) (fun e=>d6 mi sc e h)&&(vw (vw e).b).z.elim (K4 s) (fun e=>d6 mi sc e s)))))
 |mi,sc,e,.item a b=>is e 8&&(!BS (vw e).b&&(d6 mi sc (vw e).a a&&d6 mi sc (vw e).b b))
 |mi,sc,e,.tup xs=>is e 10&&G5 mi sc (vw e).es xs
 |mi,sc,e,.list xs=>is e 11&&G5 mi sc (vw e).es xs
 |mi,sc,e,.meth a n xs=>is e 12&&((vw e).kws.isEmpty&&(is (vw e).a 13&&(!O1 (vw (vw e).a).a&&((vw (vw e).a).id==n&&(Nat.blt (vw e).es.length 20&&((vw (vw e).a).p.endLine==(vw e).p.line&&(d6 mi sc (vw (vw e).a).a a&&G5 mi sc (vw e).es xs)))))))
 |mi,sc,e,.rlist a b c=>is e 12&&((vw e).kws.isEmpty&&(w0 G sc (vw e).a (.type "list")&&(Bc (vw e).es).any fun u=>is u 12&&((vw u).kws.isEmpty&&(w0 G sc (vw u).a (.type "range")&&(Gd (vw u).es).any fun x=>d6 mi sc x.1 a&&(HK x.2).any fun y=>d6 mi sc y.1 b&&d6 mi sc y.2 c))))
 |mi,sc,e,.call g xs=>is e 12&&((vw e).kws.isEmpty&&(!Ed (vw e).a&&(d6 mi sc (vw e).a g&&G5 mi sc (vw e).es xs)))
 |mi,sc,e,.callk g xs k' x=>is e 12&&(!Ed (vw e).a&&(d6 mi sc (vw e).a g&&(G5 mi sc (vw e).es xs&&(bF (vw e).kws).any fun u=>u.1==k'&&d6 mi sc u.2 x)))
 |mi,sc,e,.comp x tg src keep=>is e 14&&((vw e).sc.kind== .function&&(U2 sc (vw e).sc&&(EK Γ (L7 sc (vw e).sc) keep&&(mi&&(DA src tg&&(d6 false (L7 sc (vw e).sc) (vw e).a x&&(Vz (vw e).gs).any fun u=>BI Γ (L7 sc (vw e).sc) false u.1 tg&&(!X9 u.2&&EM mi sc u.2 src)))))))
noncomputable def G5:Bool->Scope->List Expr->Bp->Bool
 |_,_,es,.nil=>es.isEmpty
 |mi,sc,es,.cons x t=>(Gd es).any fun u=>d6 mi sc u.1 x&&G5 mi sc u.2 t
noncomputable def EM:Bool->Scope->Expr->Oy->Bool
 |mi,sc,e,.list x=>d6 mi sc e x
 |mi,sc,e,.enum a=>is e 12&&((vw e).kws.isEmpty&&(w0 G sc (vw e).a (.type "enumerate")&&(Bc (vw e).es).any fun x=>d6 mi sc x a))
 |mi,sc,e,.rev a=>is e 12&&((vw e).kws.isEmpty&&(w0 G sc (vw e).a (.type "reversed")&&(Bc (vw e).es).any fun x=>d6 mi sc x a))
 |mi,sc,e,.range1 a=>is e 12&&((vw e).kws.isEmpty&&(w0 G sc (vw e).a (.type "range")&&(Bc (vw e).es).any fun x=>d6 mi sc x a))
 |mi,sc,e,.range a b=>is e 12&&((vw e).kws.isEmpty&&(w0 G sc (vw e).a (.type "range")&&(HK (vw e).es).any fun x=>d6 mi sc x.1 a&&d6 mi sc x.2 b))
end
end
section
variable{M:Model}{A:Around}{E:Value->Shared->Prop}{s:Shared}
theorem GC{f:Value}(h:Heap)(hk:O3 f h):∃k,(k=Keeper.frame∨k=Keeper.machine∨k=Keeper.boundFrame)∧PySem.W.Looks M h (keeperOf f) k:=by
 cases f with
 |ref a=>
  refine o1 (hk a rfl) fun o fd ho hd=> ?_
  refine⟨.frame,.inl rfl,(PySem.W.Looks.ld (part:=none) ho).andThen ?_⟩
  rw [hd];exact .now
 |none=>exact⟨.machine,.inr (.inl rfl),.now⟩
 |ellipsis=>exact⟨.machine,.inr (.inl rfl),.now⟩
 |notImplemented=>exact⟨.machine,.inr (.inl rfl),.now⟩
 |bool _=>exact⟨.machine,.inr (.inl rfl),.now⟩
 |int _ _=>exact⟨.machine,.inr (.inl rfl),.now⟩
 |float _ _=>exact⟨.machine,.inr (.inl rfl),.now⟩
 |str _ _=>exact⟨.machine,.inr (.inl rfl),.now⟩
 |bytes _ _=>exact⟨.machine,.inr (.inl rfl),.now⟩
 |type _=>exact⟨.machine,.inr (.inl rfl),.now⟩
 |builtin _=>exact⟨.machine,.inr (.inl rfl),.now⟩
end
theorem W7{α:Type}{o:Option α}{p:α->Bool}(h:o.any p=true):∃a,o=some a∧p a=true:=by
 cases o with
 |none=>exact ft h
 |some a=>exact⟨a,rfl,h⟩
theorem b9{a b:Bool}(h:(a&&b)=true):a=true∧b=true:=by
 cases a with
 |true=>exact⟨rfl,h⟩
 |false=>exact ft h
theorem AC{a:Bool}(h:(!a)=true):a=false:=by
 cases a with
 |true=>exact ft h
 |false=>rfl
theorem V2{α:Type}{e:List α}{a}(h:Bc e=some a):e=[a]:=by
 cases e with
 |nil=>exact on h
 |cons x r=>cases r with
  |nil=>(replace h:=Option.some.inj h;subst h);rfl
  |cons _ _=>exact on h
theorem V1{α:Type}{e:List α}{a}(h:HK e=some a):e=[a.1,a.2]:=by
 cases e with
 |nil=>exact on h
 |cons x r=>cases r with
  |nil=>exact on h
  |cons y r=>cases r with
   |nil=>(replace h:=Option.some.inj h;subst h);rfl
   |cons _ _=>exact on h
theorem Z3{α:Type}{e:List α}{a}(h:Gd e=some a):e=a.1::a.2:=by
 cases e<;>(first |exact on h | (replace h:=Option.some.inj h;subst h));rfl
theorem N5{α:Type}{l:List α}(h:l.isEmpty=true):l=[]:=List.isEmpty_iff.mp h
theorem Lj{α β:Type}{o:Option α}{f:α->Option β}{b:β}(h:o.bind f=some b):∃a,o=some a∧f a=some b:=by
 cases o with
 |none=>exact on h
 |some a=>exact⟨a,rfl,h⟩
set_option tactic.hygienic true in
theorem Nr{o:BoolOp}{p:Pos}{e:List Expr}{a}(h:Sp o p e=some a):e=[a.1,a.2]∨∃y z,e=[a.1,y,z]∧a.2= .BoolOp o [y,z] p:=by
 refine a9 (Lj h) fun u h1 h=> ?_
 refine a9 (Lj h) fun t h2 h=> ?_
 have h1:=Z3 h1
 have h2:=Z3 h2
 split at h
 ·next h3=>(replace h:=Option.some.inj h;subst h);exact .inl (by(rw [h1,h2,N5 h3];rfl))
 ·cases h4:Bc t.2 with
  |none=>rw [h4]at h;exact on h
  |some z=>rw [h4]at h;(replace h:=Option.some.inj h;subst h);exact .inr ⟨_,_,by(rw [h1,h2,V2 h4];rfl),rfl⟩
theorem Uo{e:List Keyword}{a}(h:bF e=some a):∃q,e=[⟨some a.1,a.2,q⟩]:=by
 refine a9 (Lj h) fun ee0 h1 h=> ?_
 obtain⟨k,v,q⟩:=ee0
 cases k with
 |none=>exact on h
 |some s=>(replace h:=Option.some.inj h;subst h);exact⟨q,V2 h1⟩
set_option tactic.hygienic true in
theorem Ri{e:List Comprehension}{a}(h:Vz e=some a):e=[⟨a.1,a.2,[],0⟩]:=by
 refine a9 (Lj h) fun ee0 h1 h=> ?_
 obtain⟨t,i,l,z⟩:=ee0
 split at h
 ·next h2=>
  refine b7 (b9 h2) fun h2 h3=> ?_
  (replace h:=Option.some.inj h;subst h)
  rw [V2 h1]
  have h2:l=[]:=N5 h2
  have h3:z=0:=eq_of_beq h3
  (rw [h2,h3];rfl)
 ·exact on h
theorem W3{e:Expr}{c:Const}(h:BJ c e=true):∃u p,e= .Constant c u p:=
 ⟨(vw e).k,(vw e).p,by rw [←eq_of_beq (b9 h).2];exact un (b9 h).1 rfl⟩
section
variable{G:List (Str×Value)}{Γ:List Str}{m:Bool}{sc:Scope}{e:Expr}
theorem Ad{v:Value}(h:w0 G sc e v=true):∃id p,e= .Name id p∧sc.names.lookup id=some .globalImplicit∧G.lookup id=some v∧(id==("__debug__":Str))=false:=
 ⟨(vw e).id,(vw e).p,un (b9 h).1 rfl,eq_of_beq (b9 (b9 (b9 h).2).1).1,eq_of_beq (b9 (b9 (b9 h).2).1).2,AC (b9 (b9 h).2).2⟩
theorem BG{i:Nat}(h:d6 G Γ m sc e (.var i)=true):∃id p,e= .Name id p∧Da Γ sc id i=true:=⟨_,_,un (b9 h).1 rfl,(b9 h).2⟩
theorem Z0{v:Value}(h:d6 G Γ m sc e (.glob v)=true):w0 G sc e v=true:=h
theorem SD{o:Option Value}{k:Int}(h:(match o with |some (.int k' _)=>k'==k |_=>false)=true):∃t,o=some (.int k t):=by
 cases o with
 |none=>exact ft h
 |some v=>cases v with
  |int k' t=>exact⟨t,by(rw [eq_of_beq (a:=k') (b:=k) h];rfl)⟩
  |_=>exact ft h
theorem LM{id:Str}{k:Int}{p:Pos}(h:Gz G sc id k=true):∃t,w0 G sc (.Name id p) (.int k t)=true:=by
 unfold Gz at h
 refine b7 (b9 h) fun h12 h3=> ?_
 refine f8 (SD h3) fun t hk=> ?_
 refine b7 (b9 h12) fun h1 h2=> ?_
 refine⟨t,?_⟩
 show(sc.names.lookup id==some .globalImplicit&&G.lookup id==some (.int k t)&& !(id==("__debug__":Str)))=true
 rw [h1,h2,hk,beq_self_eq_true];rfl
theorem Kx{k:Int}(h:d6 G Γ m sc e (.int k)=true):(∃u p,e= .Constant (.int k) u p)∨∃t,w0 G sc e (.int k t)=true:=by
 rcases Bool.or_eq_true_iff.mp h with h |h
 ·exact .inl (W3 h)
 ·have h1:=un (b9 h).1 rfl
  refine f8 (LM (p:=(vw e).p) (b9 h).2) fun t h2=> ?_
  exact .inr ⟨t,by rw [h1];exact h2⟩
theorem Qr{k:Str}(h:d6 G Γ m sc e (.str k)=true):∃u p,e= .Constant (.str k) u p:=W3 h
theorem Nz{k:Bool}(h:d6 G Γ m sc e (.bool k)=true):∃u p,e= .Constant (.bool k) u p:=W3 h
theorem MO(h:d6 G Γ m sc e .none=true):∃u p,e= .Constant .none u p:=W3 h
theorem Qm{o:HC}{a b:Ex}(h:d6 G Γ m sc e (.bin o a b)=true):∃l r p,e= .BinOp l o.to r p∧d6 G Γ m sc l a=true∧d6 G Γ m sc r b=true:=by
 refine b7 (b9 h) fun h1 h=> ?_
 refine b7 (b9 h) fun h2 h=> ?_
 exact⟨_,_,_,by rw [←eq_of_beq h2];exact un h1 rfl,b9 h⟩
theorem Jl{o:UnaryOp}{a:Ex}(h:(is e 4&&((vw e).uo==o&&d6 G Γ m sc (vw e).a a))=true):∃x p,e= .UnaryOp o x p∧d6 G Γ m sc x a=true:=by
 refine b7 (b9 h) fun h1 h=> ?_
 exact⟨_,_,by rw [←eq_of_beq (b9 h).1];exact un h1 rfl,(b9 h).2⟩
theorem QZ{a:Ex}(h:d6 G Γ m sc e (.neg a)=true):∃x p,e= .UnaryOp .USub x p∧d6 G Γ m sc x a=true:=Jl h
theorem PY{a:Ex}(h:d6 G Γ m sc e (.inv a)=true):∃x p,e= .UnaryOp .Invert x p∧d6 G Γ m sc x a=true:=Jl h
theorem Rl{a:Ex}(h:d6 G Γ m sc e (.not a)=true):∃x p,e= .UnaryOp .Not x p∧d6 G Γ m sc x a=true:=Jl h
theorem BC{o:HE}{a b:Ex}(h:d6 G Γ m sc e (.cmp a o b)=true):∃l r p,e= .Compare l [o.to] [r] p∧X9 r=false∧d6 G Γ m sc l a=true∧d6 G Γ m sc r b=true:=by
 refine b7 (b9 h) fun h1 h=> ?_
 refine b7 (b9 h) fun h2 h=> ?_
 refine b7 (b9 h) fun h3 h=> ?_
 refine a9 (W7 h) fun r h4 h=> ?_
 exact⟨_,r,_,by rw [←eq_of_beq h2,←V2 h4];exact un h1 rfl,AC (b9 h).1,h3,(b9 h).2⟩
theorem OU{o o':HE}{a b c:Ex}(h:d6 G Γ m sc e (.cmp2 a o b o' c)=true):∃l md r p,e= .Compare l [o.to,o'.to] [md,r] p∧X9 r=false∧d6 G Γ m sc l a=true∧d6 G Γ m sc md b=true∧d6 G Γ m sc r c=true:=by
 refine b7 (b9 h) fun h1 h=> ?_
 refine b7 (b9 h) fun h2 h=> ?_
 refine b7 (b9 h) fun h3 h=> ?_
 refine a9 (W7 h) fun r h4 h=> ?_
 exact⟨_,r.1,r.2,_,by rw [←eq_of_beq h2,←V1 h4];exact un h1 rfl,AC (b9 h).1,h3,b9 (b9 h).2⟩
theorem Hj{a b:Ex}(h:d6 G Γ m sc e (.and a b)=true):(∃x y p,e= .BoolOp .And [x,y] p∧d6 G Γ m sc x a=true∧d6 G Γ m sc y b=true)∨
  (∃x y z p,e= .BoolOp .And [x,y,z] p∧d6 G Γ m sc x a=true∧d6 G Γ m sc (.BoolOp .And [y,z] p) b=true):=by
 refine b7 (b9 h) fun h1 h=> ?_
 refine b7 (b9 h) fun h2 h=> ?_
 refine a9 (W7 h) fun u h3 h=> ?_
 rcases Nr h3 with h4 |⟨y,z,h4,h5⟩
 ·exact .inl ⟨_,_,_,by rw [←h4,←eq_of_beq h2];exact un h1 rfl,b9 h⟩
 ·exact .inr ⟨_,y,z,_,by rw [←h4,←eq_of_beq h2];exact un h1 rfl,(b9 h).1,h5▸(b9 h).2⟩
theorem NE{a b:Ex}(h:d6 G Γ m sc e (.or a b)=true):∃x y p,e= .BoolOp .Or [x,y] p∧d6 G Γ m sc x a=true∧d6 G Γ m sc y b=true:=by
 refine b7 (b9 h) fun h1 h=> ?_
 refine b7 (b9 h) fun h2 h=> ?_
 refine a9 (W7 h) fun u h3 h=> ?_
 exact⟨_,_,_,by rw [←V1 h3,←eq_of_beq h2];exact un h1 rfl,b9 h⟩
theorem Pr{c a b:Ex}(h:d6 G Γ m sc e (.ite c a b)=true):∃t x y p,e= .IfExp t x y p∧d6 G Γ m sc t c=true∧d6 G Γ m sc x a=true∧d6 G Γ m sc y b=true:=
 ⟨_,_,_,_,un (b9 h).1 rfl,(b9 (b9 h).2).1,b9 (b9 (b9 h).2).2⟩
theorem Pg{a b:Ex}(h:d6 G Γ m sc e (.item a b)=true):∃v i p,e= .Subscript v i p∧BS i=false∧d6 G Γ m sc v a=true∧d6 G Γ m sc i b=true:=
 ⟨_,_,_,un (b9 h).1 rfl,AC (b9 (b9 h).2).1,b9 (b9 (b9 h).2).2⟩
def NB(G:List (Str×Value))(Γ:List Str)(m:Bool)(sc:Scope)(o:Option Expr)(x:Ex):Prop:=(o=none∧x= .none)∨∃e,o=some e∧d6 G Γ m sc e x=true
theorem Ee{e:Ex}(h:K4 e=true):e= .none:=by
 cases e with
 |none=>rfl
 |_=>exact ft h
theorem Ts{i':Expr}(h:BS i'=false)(v:Value)(i:Int)(u:Tok):subscripted i' false v (.int i u)=operate [v,.int i u] (getItem v (.int i u)):=by
 cases i' with
 |Slice _ _ _ _=>exact tf h
 |_=>rfl
theorem GO{o:Option Expr}{x:Ex}(h:o.elim (K4 x) (fun e=>d6 G Γ m sc e x)=true):NB G Γ m sc o x:=by
 cases o with
 |none=>
  exact .inl ⟨rfl,Ee h⟩
 |some e=>exact .inr ⟨e,rfl,h⟩
@[reducible] def XL(G:List (Str×Value))(Γ:List Str)(m:Bool)(sc:Scope)(e:Expr)(a l u st:Ex):Prop:=∀(h:d6 G Γ m sc e (.slice a l u st)=true),∃v lo hi s p q,e= .Subscript v (.Slice lo hi s p) q∧d6 G Γ m sc v a=true∧NB G Γ m sc lo l∧NB G Γ m sc hi u∧NB G Γ m sc s st
noncomputable def LS:Ue:=ee fun u=>XL (u.g 0) (u.z 0) (u.o 0) (u.sc 0) (u.x 0) (u.ex 0) (u.ex 1) (u.ex 2) (u.ex 3)
theorem cL:XL (LS.g 0) (LS.z 0) (LS.o 0) (LS.sc 0) (LS.x 0) (LS.ex 0) (LS.ex 1) (LS.ex 2) (LS.ex 3):=by
 intro h
 refine b7 (b9 h) fun h1 h=> ?_
 refine b7 (b9 h) fun h2 h=> ?_
 refine b7 (b9 h) fun h3 h=> ?_
 refine b7 (b9 h) fun h4 h=> ?_
 exact⟨_,_,_,_,_,_,(un h1 rfl).trans (congrArg (fun b=>Expr.Subscript (vw (LS.x 0)).a b (vw (LS.x 0)).p) (un h2 rfl)),h3,GO h4,GO (b9 h).1,GO (b9 h).2⟩
theorem FV{G:List (Str×Value)}{Γ:List Str}{m:Bool}{sc:Scope}{e:Expr}{a l u st:Ex}:XL G Γ m sc e a l u st:=by with_unfolding_all exact hk (q:=fun u:Ue=>XL (u.g 0) (u.z 0) (u.o 0) (u.sc 0) (u.x 0) (u.ex 0) (u.ex 1) (u.ex 2) (u.ex 3)) cL (.mk LS.b [] [] [] [] [] [] [] [] [sc] [] [] [] [] [] [] [] [] [G] [Γ] [e] [m] [] [] [] [] [] [] [] [] [] [] [] [a,l,u,st] [] [] [] LS.pr [] [])
theorem PU{xs:Bp}(h:d6 G Γ m sc e (.tup xs)=true):∃es k p,e= .Tuple es k p∧G5 G Γ m sc es xs=true:=⟨_,_,_,un (b9 h).1 rfl,(b9 h).2⟩
theorem Mw{xs:Bp}(h:d6 G Γ m sc e (.list xs)=true):∃es p,e= .List es p∧G5 G Γ m sc es xs=true:=⟨_,_,un (b9 h).1 rfl,(b9 h).2⟩
theorem Aj(h1:is e 12=true)(h2:(vw e).kws.isEmpty=true):e= .Call (vw e).a (vw e).es [] (vw e).p:=by
 rw [←N5 h2];exact un h1 rfl
@[reducible] def Q9(G:List (Str×Value))(Γ:List Str)(m:Bool)(sc:Scope)(e:Expr)(a:Ex)(n:Str):Prop:=∀{xs:Bp}(h:d6 G Γ m sc e (.meth a n xs)=true),∃o ap args p,e= .Call (.Attribute o n ap) args [] p∧O1 o=false∧args.length<20∧(ap.endLine==p.line)=true∧d6 G Γ m sc o a=true∧G5 G Γ m sc args xs=true
noncomputable def W9:Ue:=ee fun u=>Q9 (u.g 0) (u.z 0) (u.o 0) (u.sc 0) (u.x 0) (u.ex 0) (u.t 0)
theorem C9:Q9 (W9.g 0) (W9.z 0) (W9.o 0) (W9.sc 0) (W9.x 0) (W9.ex 0) (W9.t 0):=by
 intro xs h
 refine b7 (b9 h) fun h1 h=> ?_
 refine b7 (b9 h) fun h2 h=> ?_
 refine b7 (b9 h) fun h3 h=> ?_
 refine b7 (b9 h) fun h4 h=> ?_
 refine b7 (b9 h) fun h5 h=> ?_
 refine b7 (b9 h) fun h6 h=> ?_
 refine b7 (b9 h) fun h7 h=> ?_
 exact⟨_,_,_,_,(Aj h1 h2).trans (congrArg (fun b=>Expr.Call b (vw (W9.x 0)).es [] (vw (W9.x 0)).p) (by rw [←eq_of_beq h5];exact un h3 rfl)),AC h4,Nat.le_of_ble_eq_true h6,h7,b9 h⟩
theorem NF{G:List (Str×Value)}{Γ:List Str}{m:Bool}{sc:Scope}{e:Expr}{a:Ex}{n:Str}:Q9 G Γ m sc e a n:=by with_unfolding_all exact hk (q:=fun u:Ue=>Q9 (u.g 0) (u.z 0) (u.o 0) (u.sc 0) (u.x 0) (u.ex 0) (u.t 0)) C9 (.mk W9.b [] [] [] [] [] [] [] [] [sc] [] [] [] [n] [] [] [] [] [G] [Γ] [e] [m] [] [] [] [] [] [] [] [] [] [] [] [a] [] [] [] W9.pr [] [])
theorem Eg{f:Ex}{xs:Bp}(h:d6 G Γ m sc e (.call f xs)=true):∃g args p,e= .Call g args [] p∧Ed g=false∧d6 G Γ m sc g f=true∧G5 G Γ m sc args xs=true:=by
 refine b7 (b9 h) fun h1 h=> ?_
 refine b7 (b9 h) fun h2 h=> ?_
 exact⟨_,_,_,Aj h1 h2,AC (b9 h).1,b9 (b9 h).2⟩
@[reducible] def Q4(G:List (Str×Value))(Γ:List Str)(m:Bool)(sc:Scope)(e:Expr)(a b c:Ex):Prop:=∀(h:d6 G Γ m sc e (.rlist a b c)=true),∃f f' x y z p q,e= .Call f [.Call f' [x,y,z] [] p] [] q∧w0 G sc f (.type "list")=true∧w0 G sc f' (.type "range")=true∧d6 G Γ m sc x a=true∧d6 G Γ m sc y b=true∧d6 G Γ m sc z c=true
noncomputable def W4:Ue:=ee fun u=>Q4 (u.g 0) (u.z 0) (u.o 0) (u.sc 0) (u.x 0) (u.ex 0) (u.ex 1) (u.ex 2)
theorem C4:Q4 (W4.g 0) (W4.z 0) (W4.o 0) (W4.sc 0) (W4.x 0) (W4.ex 0) (W4.ex 1) (W4.ex 2):=by
 intro h
 refine b7 (b9 h) fun h1 h=> ?_
 refine b7 (b9 h) fun h2 h=> ?_
 refine b7 (b9 h) fun h3 h=> ?_
 refine a9 (W7 h) fun u h4 h=> ?_
 refine b7 (b9 h) fun h5 h=> ?_
 refine b7 (b9 h) fun h6 h=> ?_
 refine b7 (b9 h) fun h7 h=> ?_
 refine a9 (W7 h) fun x h8 h=> ?_
 refine b7 (b9 h) fun h9 h=> ?_
 refine a9 (W7 h) fun y h10 h=> ?_
 exact⟨_,_,x.1,y.1,y.2,(vw u).p,_,by rw [←V1 h10,←Z3 h8,←Aj h5 h6,←V2 h4];exact Aj h1 h2,h3,h7,h9,b9 h⟩
theorem Lw{G:List (Str×Value)}{Γ:List Str}{m:Bool}{sc:Scope}{e:Expr}{a b c:Ex}:Q4 G Γ m sc e a b c:=by with_unfolding_all exact hk (q:=fun u:Ue=>Q4 (u.g 0) (u.z 0) (u.o 0) (u.sc 0) (u.x 0) (u.ex 0) (u.ex 1) (u.ex 2)) C4 (.mk W4.b [] [] [] [] [] [] [] [] [sc] [] [] [] [] [] [] [] [] [G] [Γ] [e] [m] [] [] [] [] [] [] [] [] [] [] [] [a,b,c] [] [] [] W4.pr [] [])
theorem LN{f x:Ex}{k:Str}{xs:Bp}(h:d6 G Γ m sc e (.callk f xs k x)=true):∃g args kv q p,e= .Call g args [⟨some k,kv,q⟩] p∧Ed g=false∧d6 G Γ m sc g f=true∧G5 G Γ m sc args xs=true∧d6 G Γ m sc kv x=true:=by
 refine b7 (b9 h) fun h1 h=> ?_
 refine b7 (b9 h) fun h2 h=> ?_
 refine b7 (b9 h) fun h3 h=> ?_
 refine b7 (b9 h) fun h4 h=> ?_
 refine a9 (W7 h) fun u h5 h=> ?_
 refine f8 (Uo h5) fun q h5=> ?_
 exact⟨_,_,u.2,q,_,by rw [←eq_of_beq (b9 h).1,←h5];exact un h1 rfl,AC h2,h3,h4,(b9 h).2⟩
@[reducible] def Q1(G:List (Str×Value))(Γ:List Str)(m:Bool)(sc:Scope)(e:Expr)(x:Ex)(tg:Tg)(keep:List Nat):Prop:=∀{src:Oy}(h:d6 G Γ m sc e (.comp x tg src keep)=true),∃elt t iter cs p,e= .ListComp elt [⟨t,iter,[],0⟩] cs p∧cs.kind= .function∧BI Γ (L7 sc cs) false t tg=true∧DA src tg=true∧U2 sc cs=true∧
  EK Γ (L7 sc cs) keep=true∧X9 iter=false∧EM G Γ m sc iter src=true∧m=true∧d6 G Γ false (L7 sc cs) elt x=true
noncomputable def W1:Ue:=ee fun u=>Q1 (u.g 0) (u.z 0) (u.o 0) (u.sc 0) (u.x 0) (u.ex 0) (u.tg 0) (u.kp 0)
theorem C1:Q1 (W1.g 0) (W1.z 0) (W1.o 0) (W1.sc 0) (W1.x 0) (W1.ex 0) (W1.tg 0) (W1.kp 0):=by
 intro src h
 refine b7 (b9 h) fun h1 h=> ?_
 refine b7 (b9 h) fun h2 h=> ?_
 refine b7 (b9 h) fun h3 h=> ?_
 refine b7 (b9 h) fun h4 h=> ?_
 refine b7 (b9 h) fun h5 h=> ?_
 refine b7 (b9 h) fun h6 h=> ?_
 refine b7 (b9 h) fun h7 h=> ?_
 refine a9 (W7 h) fun u h8 h=> ?_
 exact⟨_,u.1,u.2,(vw (W1.x 0)).sc,_,by rw [←Ri h8];exact un h1 rfl,eq_of_beq h2,(b9 h).1,h6,h3,h4,AC (b9 (b9 h).2).1,(b9 (b9 h).2).2,h5,h7⟩
theorem IC{G:List (Str×Value)}{Γ:List Str}{m:Bool}{sc:Scope}{e:Expr}{x:Ex}{tg:Tg}{keep:List Nat}:Q1 G Γ m sc e x tg keep:=by with_unfolding_all exact hk (q:=fun u:Ue=>Q1 (u.g 0) (u.z 0) (u.o 0) (u.sc 0) (u.x 0) (u.ex 0) (u.tg 0) (u.kp 0)) C1 (.mk W1.b [] [] [] [] [] [] [] [] [sc] [] [] [] [] [] [] [] [] [G] [Γ] [e] [m] [] [] [] [] [] [tg] [] [] [keep] [] [] [x] [] [] [] W1.pr [] [])
theorem OQ{x:Ex}{t:Bp}{es:List Expr}(h:G5 G Γ m sc es (.cons x t)=true):∃e r,es=e::r∧d6 G Γ m sc e x=true∧G5 G Γ m sc r t=true:=by
 refine a9 (W7 h) fun u h1 h2=> ?_
 exact⟨_,_,Z3 h1,b9 h2⟩
theorem Cj{f:Value}{a:Ex}(h:(is e 12&&((vw e).kws.isEmpty&&(w0 G sc (vw e).a f&&(Bc (vw e).es).any fun x=>d6 G Γ m sc x a)))=true):∃g x p,e= .Call g [x] [] p∧w0 G sc g f=true∧d6 G Γ m sc x a=true:=by
 refine b7 (b9 h) fun h1 h=> ?_
 refine b7 (b9 h) fun h2 h=> ?_
 refine b7 (b9 h) fun h3 h=> ?_
 refine a9 (W7 h) fun x h4 h=> ?_
 exact⟨_,x,_,by rw [←V2 h4];exact Aj h1 h2,h3,h⟩
theorem LO{f:Value}{a b:Ex}(h:(is e 12&&((vw e).kws.isEmpty&&(w0 G sc (vw e).a f&&(HK (vw e).es).any fun x=>d6 G Γ m sc x.1 a&&d6 G Γ m sc x.2 b)))=true):∃g x y p,e= .Call g [x,y] [] p∧w0 G sc g f=true∧d6 G Γ m sc x a=true∧d6 G Γ m sc y b=true:=by
 refine b7 (b9 h) fun h1 h=> ?_
 refine b7 (b9 h) fun h2 h=> ?_
 refine b7 (b9 h) fun h3 h=> ?_
 refine a9 (W7 h) fun x h4 h=> ?_
 exact⟨_,x.1,x.2,_,by rw [←V1 h4];exact Aj h1 h2,h3,b9 h⟩
end
def i7(B:Bs)(G:List (Str×Value)):Prop:=∀x v,G.lookup x=some v->
 (∃mg,B.eB.Ns mainGlobals mg∧mg x=some v)∨(∃mg mb,B.eB.Ns mainGlobals mg∧mg x=none∧B.eB.Ns builtinsNs mb∧mb x=some v)
section
variable{B:Bs}{n:Nat}{W:Wd}{C:FC}{σ:St}{s:Shared}{G:List (Str×Value)}{A:Around}{E:Value->Shared->Prop}
theorem RL.old{ls:Ls}(h:RL B W ls s):∀b o,B.eB.get? b=some o->s.heap.get? b=some o:=fun b o e=>h.keep b o (h.base b o e)
theorem R.toks(h:R B W C σ s)(tk:Nat):R B W C σ {s with toks:=tk}:=⟨h.rl.same rfl rfl rfl,h.fr⟩
theorem R.grow(h:R B W C σ s){s':Shared}(hk:∀b o,s.heap.get? b=some o->s'.heap.get? b=some o)(hg:s'.gens=s.gens)(ho:s'.os=s.os):R B W C σ s':=by
 refine⟨h.rl.keepAll hk hg ho,h.fr.stay W.le_refl h.fr.off (fun a ha=> ?_) h.rl.keep (fun a o e=>hk _ _ (h.rl.keep a o e))⟩
 refine a9 ((h.fr.own (B:=B)).obj a ha) fun o ho _=> ?_
 (rw [ho,hk _ _ ho];rfl)
theorem R.rlF(h:R B W C σ s):RL B (W.frz (d5 C) s.heap) σ.lists s:=(h.lift rfl).1
theorem R.up(h:R B W C σ s){a:AV}{v:Value}(hv:VR W a v):VR (W.frz (d5 C) s.heap) a v:=hv.mono (h.lift rfl).2.1
theorem R.ups(h:R B W C σ s){a:List AV}{v:List Value}(hv:l5 W a v):l5 (W.frz (d5 C) s.heap) a v:=hv.mono (h.lift rfl).2.1
theorem EL(h:R B W C σ s){id:Str}{i:Nat}{p:Pos}{a:AV}(hc:Da C.Γ C.env.scope id i=true)(hi:σ.vars[i]? =some (some a)){Z:Value->Shared->Prop}(hZ:∀v,VR W a v->Z v s):
  wpAny (model B.prog B.w) A (eval (.Name id p) C.env) Z E s:=by
 unfold Da at hc
 simp only [Bool.and_eq_true,beq_iff_eq,Bool.not_eq_true']at hc
 refine b7 hc fun ee0 h4=> ?_
 clear hc
 obtain⟨⟨h1,h2⟩,h3⟩:=ee0
 refine a9 (h.fr.ns) fun m hm hv=> ?_
 refine a9 (hv i id a h1 hi) fun v g b=> ?_
 have h3':(id==("__debug__":Str))=false:=h3
 have h4':(id==("__classdict__":Str))=false:=h4
 rcases b with⟨hk,hb⟩ |⟨hk,c,hb,hcell⟩
 ·exact wpAny_Name (wpAny_loadName_local h.fr.kind hk hm hb (hZ v g)) h3'
 ·rcases hk with hk |hk
  ·exact wpAny_Name (wpAny_loadName_cell h.fr.kind hk hb hcell (hZ v g)) h3'
  ·exact wpAny_Name (wpAny_loadName_free h.fr.kind hk hb hcell (hZ v g) h4') h3'
theorem G2(hG:i7 B G)(h:R B W C σ s){e:Expr}{v:Value}(hc:w0 G C.env.scope e v=true){Z:Value->Shared->Prop}(hZ:Z v s):wpAny (model B.prog B.w) A (eval e C.env) Z E s:=by
 refine RK (Ad hc) fun id p ee2 h1 h2 h3=> ?_
 subst ee2
 have hg:=h.fr.glob
 have hb:=h.fr.blt
 refine Name_function_global h.fr.kind h1 ?_ h3
 rcases hG id v h2 with⟨mg,a,b⟩ |⟨mg,mb,a,b,c,d⟩
 ·exact loadGlobal_global (by rw [hg];exact a.keeps h.rl.old) b hZ
 ·exact loadGlobal_builtin (by rw [hg];exact a.keeps h.rl.old) b (by rw [hb];exact c.keeps h.rl.old) d hZ
theorem Mc{Γ:List Str}{m:Bool}{sc:Scope}{e:Expr}{p:Pos}{x:Ex}:d6 G Γ m sc (.Starred e p) x=false:=by
 cases x<;>rfl
theorem t7{Γ:List Str}{m:Bool}{sc:Scope}{e:Expr}{x:Ex}(h:d6 G Γ m sc e x=true)(r:List Expr)(env:Env):starEach (e::r) env=(false,eval e env)::starEach r env:=by
 cases e<;>first |rfl | (rw [Mc]at h;exact ft h)
end
section
variable{M:Model}{A:Around}{E:Value->Shared->Prop}{s:Shared}
theorem AG{f:Value}{vs:List Value}{kws:List (Option Str×Sem Value)}{Q:Args->Shared->Prop}(hk:kws.all (·.1.isSome)=true)
  (h:wpAny M A (evalAll (kws.map (·.2))) (fun ks dY=>Q ⟨vs,(kws.filterMap (·.1)).zip ks⟩ dY) E s):
  wpAny M A (holding (vs++(none:Option Value).toList) (do
   let readLate (keep:List Value):Sem (List Value):=do
    let some s:=(none:Option Value) |return vs
    if←notIterableAtAll s then
     rule "call.star.not-iterable"
     raiseError "TypeError" s!"{← functionStr f} argument after * must be an iterable, not {← typeNameOf s}"
    holding keep (collect s)
   if kws.all (·.1.isSome)then
    let kw:=(kws.filterMap (·.1)).zip (←evalAll (kws.map (·.2)))
    return ⟨←readLate (kw.map (·.2)),kw⟩
   let d ←mergedKeywords f kws
   let pos ←readLate [.ref d]
   return ⟨pos,←holding (.ref d::pos) (keywordsIn f d)⟩)) Q E s:=by
 refine wpAny_holding ?_
 simp only [hk,if_true]
 exact wpAny_bind (wpAny_mono h (fun ks dY fC=>wpAny_bind (wpAny_pure (wpAny_pure fC))) fun _ _ x=>x)
@[reducible] def XI(A:Around)(E:Value->Shared->Prop)(s:Shared)(f:Value):Prop:=∀{M:Model}{args:List (Bool×Sem Value)}{kws:List (Option Str×Sem Value)}{Q:Args->Shared->Prop}(hp:∀a∈args,a.1=false)(hk:kws.all (·.1.isSome)=true)(h:wpAny M A (spliced args) (fun vs dR=>wpAny M A (evalAll (kws.map (·.2))) (fun ks dY=>Q ⟨vs,(kws.filterMap (·.1)).zip ks⟩ dY) E dR) E s),wpAny M A (evalArgs f true args kws) Q E s
noncomputable def UB:Ue:=ee fun u=>XI (u.A 0) (u.e 0) (u.s 0) (u.v 0)
theorem cN:XI (UB.A 0) (UB.e 0) (UB.s 0) (UB.v 0):=by
 intro M args kws Q hp hk h
 unfold evalArgs
 rcases args with _ |⟨⟨b,x⟩,r⟩
 ·exact wpAny_bind (wpAny_mono h (fun vs dR eX=>wpAny_bind (wpAny_pure (AG hk eX))) fun _ _ x=>x)
 ·have hb:b=false:=hp _ (.head _)
  subst hb
  cases r<;>exact wpAny_bind (wpAny_mono h (fun vs dR eX=>wpAny_bind (wpAny_pure (AG hk eX))) fun _ _ x=>x)
theorem IG{A:Around}{E:Value->Shared->Prop}{s:Shared}{f:Value}:XI A E s f:=by with_unfolding_all exact hk (q:=fun u:Ue=>XI (u.A 0) (u.e 0) (u.s 0) (u.v 0)) cN (.mk UB.b [] [] [] [s] [A] [E] [] [] [] [] [f] [] [] [] [] [] [] [] [] [] [] [] [] [] [] [] [] [] [] [] [] [] [] [] [] [] UB.pr [] [])
theorem y0{pos:Pos}{f:Value}{first:List Value}{args:List (Bool×Sem Value)}{kws:List (Option Str×Sem Value)}{Q:Value->Shared->Prop}(hp:∀a∈args,a.1=false)(hk:kws.all (·.1.isSome)=true)
  (h:wpAny M A (spliced args) (fun vs dR=>wpAny M A (evalAll (kws.map (·.2))) (fun ks dY=>O3 f dY.heap∧wpAny M A (call f (first++vs) ((kws.filterMap (·.1)).zip ks)) Q E dY) E dR) E s):
  wpAny M A (callWith pos f first args kws) Q E s:=by
 refine PySem.W.callWith_of (P:=O3 f) ?_ (fun h hk=>GC h hk) (IG hp hk h)
 rewrite [Bool.or_eq_false_iff]
 constructor
 ·rewrite [List.any_eq_false];intro a ha;rw [hp a ha];simp
 ·rewrite [List.any_eq_false];intro a ha
  have:=all_eq_true.mp hk a ha
  cases h:a.1 with
  |none=>rw [h]at this;exact ft this
  |some _=>simp
end
def IH(env:Env)(Γ:List Str)(mine:Bool)(t:Expr)(tg:Tg):Prop:=BI Γ env.scope mine t tg=true
def Cw(W:Wd)(h:Heap)(tg:Tg)(av:AV)(val:Value):Prop:=match tg with
 | .one _=>VR W av val
 | .two _ _=>∃a b t va vb,av= .tup [a,b]∧val= .ref t∧h.IsTuple t #[va,vb]∧VR W a va∧VR W b vb
def Fi(tg:Tg)(av:AV):Prop:=match tg with
 | .one _=>True
 | .two _ _=>∃a b,av= .tup [a,b]
theorem Fi.of{tg:Tg}{v:AV}{σ eG:St}(h:Ah tg v σ=some eG):Fi tg v:=by
 unfold Ah at h
 cases tg with
 |one i=>trivial
 |two i j=>
  cases v with
  |tup xs=>cases xs with
   |nil=>exact on h
   |cons a r=>cases r with
    |nil=>exact on h
    |cons b r=>cases r with
     |nil=>exact⟨_,_,rfl⟩
     |cons _ _=>exact on h
  |_=>exact on h
def AP(S:List Addr)(s s':Shared):Prop:=(∀b o,b∉S->s.heap.get? b=some o->s'.heap.get? b=some o)∧s'.gens=s.gens∧s'.os=s.os
structure QC(B:Bs)(tg:Tg)(I:Addr)(S:List Addr)(P:Wd->List AV->Heap->Prop)(ok:St->Prop):Prop where
 stable:∀{W W':Wd}{rest h h'},P W rest h->W.le W'->(∀a∈S,h'.get? a=h.get? a)->P W' rest h'
 obj:∀{W rest h},P W rest h->∀a∈S,∃o,h.get? a=some o∧Wb o
 next:∀{W:Wd}{σ:St}{s:Shared}{rest:List AV}{av:AV}{A:Around}{E:Value->Shared->Prop}{Z:Option Value->Shared->Prop},RL B W σ.lists s->(∀a∈S,W.K a=none∧a∉W.ρ)->ok σ->P W (av::rest) s.heap->A.handled=none->Fi tg av->
  (∀val s',AP S s s'->
   (∀{env:Env}{Γ:List Str}{mine:Bool}{t:Expr}{E':Value->Shared->Prop}{Z':Unit->Shared->Prop},IH env Γ mine t tg->(∀s'',AP S s s''->P W rest s''.heap->Cw W s''.heap tg av val->Z' () s'')->wpAny (model B.prog B.w) A (letOwnedTupleGo t (.ref I) val) Z' E' s')->Z (some val) s')->
  wpAny (model B.prog B.w) A (pyNext (.ref I)) Z E s
 last:∀{W:Wd}{σ:St}{s:Shared}{A:Around}{E:Value->Shared->Prop}{Z:Option Value->Shared->Prop},RL B W σ.lists s->ok σ->P W [] s.heap->A.handled=none->(∀s',AP S s s'->Z none s')->wpAny (model B.prog B.w) A (pyNext (.ref I)) Z E s
 self:∀{W:Wd}{σ:St}{s:Shared}{rest:List AV}{A:Around}{E:Value->Shared->Prop}{Z:Value->Shared->Prop},RL B W σ.lists s->ok σ->P W rest s.heap->Z (.ref I) s->wpAny (model B.prog B.w) A (pyIter (.ref I)) Z E s
section
variable{B:Bs}{tg:Tg}{I:Addr}
theorem Dj{env:Env}{Γ:List Str}{mine:Bool}{t:Expr}{i:Nat}(h:IH env Γ mine t (.one i)):∃id p,t= .Name id p∧A1 Γ env.scope mine id i=true:=⟨_,_,un (b9 h).1 rfl,(b9 h).2⟩
theorem Dh{env:Env}{Γ:List Str}{mine:Bool}{t:Expr}{i j:Nat}(h:IH env Γ mine t (.two i j)):∃a p b q k r,t= .Tuple [.Name a p,.Name b q] k r∧A1 Γ env.scope mine a i=true∧A1 Γ env.scope mine b j=true∧(a==b)=false:=by
 refine b7 (b9 h) fun h1 h=> ?_
 refine a9 (W7 h) fun x h2 h=> ?_
 refine b7 (b9 h) fun h3 h=> ?_
 refine b7 (b9 h) fun h4 h=> ?_
 have e1:(vw t).es=[.Name (vw x.1).id (vw x.1).p,.Name (vw x.2).id (vw x.2).p]:=(V1 h2).trans (congr (congrArg List.cons (un h3 rfl)) (congrArg (fun b=>[b]) (un h4 rfl)))
 exact⟨_,_,_,_,_,_,by rw [←e1];exact un h1 rfl,(b9 h).1,(b9 (b9 h).2).1,AC (b9 (b9 h).2).2⟩
theorem Ln{W:Wd}{ls:Ls}{s:Shared}(h:RL B W ls s){av:AV}{v:Value}(hv:VR W av v)(hf:Fi tg av){h':Heap}(hk:∀a o,W.K a=some o->h'.get? a=some o):Cw W h' tg av v:=by
 cases tg with
 |one i=>exact hv
 |two i j=>
  refine I9 hf fun a b ee2=> ?_
  clear hf
  subst ee2
  refine r5 hv fun t o arr ee3 hK ee5 rr6=> ?_
  clear hv
  subst ee3
  obtain⟨hc,n,hd⟩:=ee5
  obtain⟨va,r,e1,g1,vb,r',e2,g2,e3⟩:=rr6
  rw [e1,e2,show r'=[]from e3]at hd
  exact⟨a,b,t,va,vb,rfl,rfl,⟨o,hk _ _ hK,hc,n,hd⟩,g1,g2⟩
theorem Pa{k:Nat}{a:Addr}{xs:List AV}(ha:a≠I):QC B tg I [I] (fun W rest h=>W.ρ[k]? =some a∧∃i:Nat,h.IsListIter I a i∧rest=xs.drop i∧i<=xs.length) (fun σ=>σ.lists[k]? =some xs) where
 stable:=fun⟨hr,i,hi,e⟩ hl hs=>⟨Wd.le_get hl hr,i,hi.at fun o e'=>(hs I (.head _)).trans e',e⟩
 obj:=fun⟨_,i,⟨o,ho,hc,hd⟩,_⟩ b hb=>by
  rw [mem_singleton.mp hb]
  exact⟨o,ho,(fun x n e=>by rw [hd]at e;exact T6 (·.ctorIdx) e rfl),.inr ⟨by rw [hc];decide,by rw [hc];decide⟩⟩
 next:=fun{W σ s rest av A E Z} h hS hok ⟨hr,i,hi,e,hle⟩ hh hf hZ=>by
  refine a9 (h.lists k a xs hr hok) fun vals ee1 hvs=> ?_
  obtain⟨n,hl⟩:=ee1
  have hx:xs[i]? =some av:=by
   have:=congrArg List.head? e
   simpa [List.head?_drop]using this.symm
  have hrest:rest=xs.drop (i+1):=by
   have:=congrArg List.tail e
   simpa using this
  refine a9 (hvs.get i hx) fun v hv1 hv2=> ?_
  refine wpAny_pyNext_list_item hi ⟨_,hl,rfl,_,rfl⟩ (x:=v) (by simpa using hv1) fun h' hi' hs'=> ?_
  have hsame:AP [I] s {s with heap:=h'}:=⟨fun b o hb e=>hs'.extBut b o (fun q=>hb (by rw [q];exact .head _)) e,rfl,rfl⟩
  have hitem:Cw W h' tg av v:=Ln h hv2 hf fun b o e=>hs'.extBut b o (fun q=>by have:=(hS I (.head _)).1;rw [q,this]at e;exact on e) (h.keep b o e)
  have hP:W.ρ[k]? =some a∧∃i:Nat,h'.IsListIter I a i∧rest=xs.drop i∧i<=xs.length:=⟨hr,i+1,hi',hrest,by have:=(List.getElem?_eq_some_iff.mp hx).1;lia⟩
  refine hZ v _ hsame fun{env Γ mine t E' Z'} ht hZ'=> ?_
  cases tg with
  |one j=>
   refine o1 (Dj ht) fun id p ee2 _=> ?_
   subst ee2
   exact wpAny_pure (hZ' _ hsame hP hitem)
  |two j1 j2=>
   refine Nj (Dh ht) fun a' p b' q kk r ee6 _=> ?_
   subst ee6
   refine UJ (id hitem) fun _ _ t _ _ _ e2 _=> ?_
   subst e2
   exact wpAny_letOwnedTupleGo_listiter hi' (hZ' _ hsame hP hitem)
 last:=fun{W σ s A E Z} h hok ⟨hr,i,hi,e,hle⟩ hh hZ=>by
  refine a9 (h.lists k a xs hr hok) fun vals ee1 hvs=> ?_
  obtain⟨n,hl⟩:=ee1
  have hlen:=hvs.length
  have:xs.length<=i:=List.drop_eq_nil_iff.mp e.symm
  refine wpAny_pyNext_list_end hh hi ⟨_,hl,rfl,_,rfl⟩ (by simp;exact e2 ‹_› ‹_›) fun h' hs'=>hZ _ ⟨fun b o hb e=>hs' b o (fun q=>hb (by rw [q];exact .head _)) e,rfl,rfl⟩
 self:=fun h hok ⟨hr,i,hi,e⟩ hZ=>wpAny_pyIter_listiter hi hZ
theorem QP{k:Nat}{a:Addr}{xs:List AV}{eS:Nat}:QC B (.one eS) I [I] (fun W rest h=>W.ρ[k]? =some a∧∃i:Nat,h.IsRevIter I a ((i:Int)-1)∧rest=(xs.take i).reverse∧i<=xs.length) (fun σ=>σ.lists[k]? =some xs) where
 stable:=fun⟨hr,i,hi,e⟩ hl hs=>⟨Wd.le_get hl hr,i,hi.at fun o e'=>(hs I (.head _)).trans e',e⟩
 obj:=fun⟨_,i,⟨o,ho,hc,hd⟩,_⟩ b hb=>by
  rw [mem_singleton.mp hb]
  exact⟨o,ho,(fun x n e=>by rw [hd]at e;exact T6 (·.ctorIdx) e rfl),.inr ⟨by rw [hc];decide,by rw [hc];decide⟩⟩
 next:=fun{W σ s rest av A E Z} h hS hok ⟨hr,i,hi,e,hle⟩ hh hf hZ=>by
  refine a9 (h.lists k a xs hr hok) fun vals ee1 hvs=> ?_
  obtain⟨n,hl⟩:=ee1
  obtain⟨j,rfl⟩:∃j,i=j+1:=by
   cases i with
   |zero=>simp at e
   |succ j=>exact⟨j,rfl⟩
  have hj:j<xs.length:=by exact YI ‹_›
  have hx:xs[j]? =some av∧rest=(xs.take j).reverse:=by
   rw [List.take_succ_eq_append_getElem hj,List.reverse_append]at e
   simp only [List.reverse_cons,List.reverse_nil,nil_append,cons_append,List.cons.injEq]at e
   exact⟨by rw [e.1];simp [hj],e.2⟩
  refine a9 (hvs.get j hx.1) fun v hv1 hv2=> ?_
  have hi2:s.heap.IsRevIter I a (j:Int):=by
   have:(((j+1:Nat):Int)-1)=(j:Int):=by lia
   rw [this]at hi;exact hi
  refine wpAny_pyNext_rev_item hi2 ⟨_,hl,rfl,_,rfl⟩ (x:=v) (by simpa using hv1) fun h' hi' hs'=> ?_
  have hsame:AP [I] s {s with heap:=h'}:=⟨fun b o hb e=>hs'.extBut b o (fun q=>hb (by rw [q];exact .head _)) e,rfl,rfl⟩
  have hP:W.ρ[k]? =some a∧∃i:Nat,h'.IsRevIter I a ((i:Int)-1)∧rest=(xs.take i).reverse∧i<=xs.length:=⟨hr,j,hi',hx.2,by exact u6 ‹_›⟩
  refine hZ v _ hsame fun{env Γ mine t E' Z'} ht hZ'=> ?_
  refine o1 (Dj ht) fun id p ee2 _=> ?_
  subst ee2
  exact wpAny_pure (hZ' _ hsame hP hv2)
 last:=fun{W σ s A E Z} h hok ⟨hr,i,hi,e,hle⟩ hh hZ=>by
  refine a9 (h.lists k a xs hr hok) fun vals ee1 hvs=> ?_
  obtain⟨n,hl⟩:=ee1
  have:i=0:=by
   cases i with
   |zero=>rfl
   |succ j=>
    have:=congrArg List.length e
    simp at this
    lia
  subst this
  refine wpAny_pyNext_rev_end hh hi fun h' hs'=>hZ _ ⟨fun b o hb e=>hs' b o (fun q=>hb (by rw [q];exact .head _)) e,rfl,rfl⟩
 self:=fun h hok ⟨hr,i,hi,e⟩ hZ=>wpAny_pyIter_revIter hi hZ
@[reducible] def PM(a b:Int):Prop:=∀(h:a<b),o2 a b=AV.int a::o2 (a+1) b
noncomputable def Ji:Uc:=ec fun u=>PM (u.i 0) (u.i 1)
@[irreducible] noncomputable def K125.a:Int:=(Ji.i 0)
@[irreducible] noncomputable def K125.b:Int:=(Ji.i 1)
open K125 in
theorem YY:PM a b:=fun h=>by
 unfold o2
 obtain⟨k,hk⟩:∃k:Nat,(b-a).toNat=k+1:=⟨(b-a).toNat-1,by exact Wp ‹_›⟩
 rw [hk,show(b-(a+1)).toNat=k from by exact Vi ‹_› ‹_›,List.range_succ_eq_map,map_cons,map_map]
 congr 1
 ·simp
 ·refine map_congr_left fun x _=> ?_
  simp only [Function.comp]
  congr 1
  lia
theorem CE{a b:Int}:PM a b:=by with_unfolding_all exact Mine.hk (q:=fun u:Uc=>PM (u.i 0) (u.i 1)) YY (.mk Ji.b Ji.p Ji.f Ji.q Ji.v [] [] [a,b] [] [] [] [] [] [] [] [] [] [] [] [])
theorem y8{a b:Int}(h:b<=a):o2 a b=[]:=by
 unfold o2
 rw [show(b-a).toNat=0 from by lia];rfl
theorem Lu{c:Int}{eS:Nat}:QC B (.one eS) I [I] (fun _ rest h=>∃x left:Int,IsRangeIter h I x left 1∧x+left=c∧0<=left∧rest=o2 x c) (fun _=>True) where
 stable:=fun⟨x,left,hi,e⟩ hl hs=>⟨x,left,(hs I (.head _)).trans hi,e⟩
 obj:=fun⟨x,left,hi,_⟩ b hb=>by
  rw [mem_singleton.mp hb]
  exact⟨_,hi,(fun x n e=>by exact T6 (·.ctorIdx) e rfl),.inr ⟨show Value.type "range_iterator"≠_ from by decide,show Value.type "range_iterator"≠_ from by decide⟩⟩
 next:=fun{W σ s rest av A E Z} h hS hok ⟨x,left,hi,e1,e2,e3⟩ hh hf hZ=>by
  have hlt:x<c:=by
   rcases Int.lt_or_le x c with q |q
   ·exact q
   ·rw [y8 q]at e3;exact HF e3
  rw [CE hlt]at e3
  simp only [List.cons.injEq]at e3
  refine wpAny_pyNext_range_item hi (by lia) fun h' hi' hs'=> ?_
  have hsame:∀tk,AP [I] s {s with heap:=h',toks:=tk}:=fun tk=>⟨fun b o hb e=>hs'.extBut b o (fun q=>hb (by rw [q];exact .head _)) e,rfl,rfl⟩
  refine hZ _ _ (hsame _) fun{env Γ mine t E' Z'} ht hZ'=> ?_
  refine o1 (Dj ht) fun id p ee2 _=> ?_
  subst ee2
  refine wpAny_pure (hZ' _ (hsame _) ⟨x+1,left-1,hi',by lia,by lia,e3.2⟩ ?_)
  show VR W av _
  rw [e3.1];exact⟨_,rfl⟩
 last:=fun{W σ s A E Z} h hok ⟨x,left,hi,e1,e2,e3⟩ hh hZ=>by
  have hle:left<=0:=by
   rcases Int.lt_or_le x c with q |q
   ·rw [CE q]at e3;exact Hw e3
   ·lia
  exact wpAny_pyNext_range_end hh hi hle fun h' hs'=>hZ _ ⟨fun b o hb e=>hs' b o (fun q=>hb (by rw [q];exact .head _)) e,rfl,rfl⟩
 self:=fun h hok ⟨x,left,hi,e⟩ hZ=>wpAny_pyIter_rangeiter hi hZ
@[reducible] def PR(B:Bs)(I:Addr)(k:Nat)(a J:Addr)(xs:List AV)(eS fI:Nat):Prop:=∀(hJ:I≠J)(ha:a≠J)(ha':a≠I),QC B (.two eS fI) I [I,J] (fun W rest h=>W.ρ[k]? =some a∧∃(i:Nat)(old:Value),IsEnum h I J i old∧h.IsListIter J a i∧rest=S6 i (xs.drop i)∧i<=xs.length) (fun σ=>σ.lists[k]? =some xs)
noncomputable def Q0:Uc:=ec fun u=>PR u.b (u.n 0) (u.n 1) (u.n 2) (u.n 3) (u.a 0) (u.n 4) (u.n 5)
@[irreducible] noncomputable def K109.xs:List AV:=(Q0.a 0)
open K109 in
theorem Zr:PR Q0.b (Q0.n 0) (Q0.n 1) (Q0.n 2) (Q0.n 3) xs (Q0.n 4) (Q0.n 5):=fun hJ ha ha'=>{
 stable:=fun⟨hr,i,old,hi,hj,e⟩ hl hs=>⟨Wd.le_get hl hr,i,old,(hs (Q0.n 0) (.head _)).trans hi,hj.at fun o e'=>(hs (Q0.n 3) (.tail _ (.head _))).trans e',e⟩
 obj:=fun⟨_,i,old,hi,⟨o,ho,hc,hd⟩,_⟩ b hb=>by
  rcases mem_cons.mp hb with rfl |hb
  ·exact⟨_,hi,(fun x n e=>by exact T6 (·.ctorIdx) e rfl),.inr ⟨show Value.type "enumerate"≠_ from by decide,show Value.type "enumerate"≠_ from by decide⟩⟩
  ·rw [mem_singleton.mp hb]
   exact⟨o,ho,(fun x n e=>by rw [hd]at e;exact T6 (·.ctorIdx) e rfl),.inr ⟨by rw [hc];decide,by rw [hc];decide⟩⟩
 next:=fun{W σ s rest av A E Z} h hS hok ⟨hr,i,old,hi,hj,e,hle⟩ hh hf hZ=>by
  refine a9 (h.lists (Q0.n 1) (Q0.n 2) xs hr hok) fun vals ee1 hvs=> ?_
  obtain⟨n,hl⟩:=ee1
  obtain⟨x,hx⟩:∃x,xs[i]? =some x:=by
   cases hq:xs[i]? with
   |some x=>exact⟨x,rfl⟩
   |none=>rw [List.drop_eq_nil_iff.mpr (List.getElem?_eq_none_iff.mp hq)]at e;exact HF e
  have hlt:=(List.getElem?_eq_some_iff.mp hx).1
  rw [drop_eq_getElem_cons hlt,S6,List.cons.injEq]at e
  have hx':xs[i]=x:=(List.getElem?_eq_some_iff.mp hx).2
  rw [hx']at e
  refine a9 (hvs.get i hx) fun v hv1 hv2=> ?_
  have hIh:=Heap.lt_size hi
  have hJh:(Q0.n 3)<s.heap.objs.size:=let⟨o,ho,_⟩:=hj;Heap.lt_size ho
  refine wpAny_pyNext_enum_item hi hj ⟨_,hl,rfl,_,rfl⟩ (x:=v) (by simpa using hv1) hJ fun h' heo hj' ht' hz' hk'=> ?_
  have hsame:∀tk,AP [(Q0.n 0),(Q0.n 3)] s {s with heap:=h',toks:=tk}:=fun tk=>⟨fun b o hb e=>hk' b o (fun q=>hb (by simp [q])) (fun q=>hb (by simp [q])) e,rfl,rfl⟩
  refine hZ _ _ (hsame _) fun{env Γ mine t E' Z'} ht hZ'=> ?_
  refine Nj (Dh ht) fun a' p b' q kk r ee6 _=> ?_
  subst ee6
  refine wpAny_letOwnedTupleGo_enum heo fun fC gA eY=> ?_
  refine hZ' _ ⟨fun b o hb e=>(eY.2 b (fun q=>hb (by simp [q]))).trans ((hsame (s.toks+1)).1 b o hb e),rfl,rfl⟩ ⟨hr,i+1,_,gA,hj'.at fun o e'=>(eY.2 _ (Ne.symm hJ)).trans e',?_,by lia⟩ ?_
  ·rw [e.2];congr 1
  ·rw [e.1]
   exact⟨_,_,_,_,_,rfl,rfl,⟨_,(eY.2 _ (Nat.ne_of_gt hIh)).trans ht',rfl,_,rfl⟩,⟨_,rfl⟩,hv2⟩
 last:=fun{W σ s A E Z} h hok ⟨hr,i,old,hi,hj,e,hle⟩ hh hZ=>by
  refine a9 (h.lists (Q0.n 1) (Q0.n 2) xs hr hok) fun vals ee1 hvs=> ?_
  obtain⟨n,hl⟩:=ee1
  have hlen:=hvs.length
  have:xs.length<=i:=by
   rcases Nat.lt_or_ge i xs.length with q |q
   ·rw [drop_eq_getElem_cons q]at e;exact Hw e
   ·exact q
  refine wpAny_pyNext_enum_end hh hi hj ⟨_,hl,rfl,_,rfl⟩ (by simp;exact e2 ‹_› ‹_›) fun h' hs'=>hZ _ ⟨fun b o hb e=>hs' b o (fun q=>hb (by simp [q])) e,rfl,rfl⟩
 self:=fun h hok ⟨hr,i,old,hi,e⟩ hZ=>wpAny_pyIter_enum hi hZ}
theorem NL{B:Bs}{I:Addr}{k:Nat}{a J:Addr}{xs:List AV}{eS fI:Nat}:PR B I k a J xs eS fI:=by with_unfolding_all exact Mine.hk (q:=fun u:Uc=>PR u.b (u.n 0) (u.n 1) (u.n 2) (u.n 3) (u.a 0) (u.n 4) (u.n 5)) Zr (.mk B Q0.p Q0.f Q0.q Q0.v [] [I,k,a,J,eS,fI] [] [] [] [] [xs] [] [] [] [] [] [] [] [])
end
section
variable{B:Bs}{n:Nat}{W W':Wd}{C:FC}{σ:St}{s s':Shared}{ls:Ls}{S:List Addr}{A:Around}{E:Value->Shared->Prop}
theorem RL.ext(h:RL B W ls s)(hS:N6 B W S s)(hs:AP S s s'):RL B W ls s':=by
 have kk:∀a o,W.K a=some o->s'.heap.get? a=some o:=fun a o e=>hs.1 a o (fun hm=>by rw [(hS.off a hm).1]at e;exact on e) (h.keep a o e)
 refine⟨h.base,kk,h.len,h.off,h.nd,fun k a vs e1 e2=> ?_,hs.2.1.trans h.gens,hs.2.2.trans h.os,fun c P q hm=> ?_,h.pins⟩
 ·refine a9 (h.lists k a vs e1 e2) fun vals h3 h4=> ?_
  exact⟨vals,h3.at fun o e=>hs.1 a o (fun hm=>(hS.off a hm).2 (mem_of_getElem? e1)) e,h4⟩
 ·refine B2 (h.tabs c P q hm) fun a1 a2 rr2=> ?_
  obtain⟨ps,a3,a4,a5⟩:=rr2
  refine b7 (id a4) fun ee0 ht=> ?_
  obtain⟨o,vs',hc1,hcl,hcd,h11⟩:=ee0
  have hP:P∉S:=fun hm=>by
   refine E6 (hS.obj P hm) fun o' ho' _ h2=> ?_
   rw [ht]at ho';(replace ho':=Option.some.inj ho';subst ho')
   exact h2.elim (fun h=>h _ rfl) (fun h=>h.2 rfl)
  have hc:c∉S:=fun hm=>by
   refine E6 (hS.obj c hm) fun o' ho' _ h2=> ?_
   rw [hc1]at ho';(replace ho':=Option.some.inj ho';subst ho')
   exact h2.elim (fun h=>h _ hcd) (fun h=>h.1 hcl)
  refine⟨a1,a2,ps,?_,⟨⟨o,vs',hs.1 _ _ hc hc1,hcl,hcd,h11⟩,hs.1 _ _ hP ht⟩,a5⟩
  exact a3.at2 (fun o e=>hs.1 _ o hc e) (fun o e=>hs.1 _ o hP e)
theorem R.ext(h:R B W C σ s)(hS:N6 B W S s)(ho:∀a∈S,a∉d5 C)(hs:AP S s s'):R B W C σ s':=by
 refine⟨h.rl.ext hS hs,h.fr.stay W.le_refl h.fr.off (fun a ha=> ?_) h.rl.keep (fun a o e=>hs.1 a o (fun hm=>by rw [(hS.off a hm).1]at e;exact on e) (h.rl.keep a o e))⟩
 refine a9 ((h.fr.own (B:=B)).obj a ha) fun o e _=> ?_
 (rw [e,hs.1 a o (fun hm=>ho a hm ha) e];rfl)
@[reducible] def XR(B:Bs)(W:Wd)(C:FC)(σ:St)(s:Shared)(A:Around)(E:Value->Shared->Prop)(id:Str)(i:Nat)(av:AV)(v:Value):Prop:=∀(h:R B W C σ s)(hc:A1 C.Γ C.env.scope C.mine id i=true)(hv:VR W av v){Z:Unit->Shared->Prop}(hZ:∀s',R B W C (σ.setv i av) s'->Z () s'),wpAny (model B.prog B.w) A (storeName C.env id v) Z E s
noncomputable def U0:Ue:=ee fun u=>XR u.b (u.w 0) (u.c 0) (u.st 0) (u.s 0) (u.A 0) (u.e 0) (u.t 0) (u.n 0) (u.y 0) (u.v 0)
theorem bV:XR U0.b (U0.w 0) (U0.c 0) (U0.st 0) (U0.s 0) (U0.A 0) (U0.e 0) (U0.t 0) (U0.n 0) (U0.y 0) (U0.v 0):=by
 intro h hc hv Z hZ
 unfold A1 at hc
 simp only [Bool.and_eq_true,beq_iff_eq,Bool.or_eq_true]at hc
 refine b7 hc fun hi hk=> ?_
 clear hc
 refine a9 (h.fr.ns) fun m hm hvars=> ?_
 have F:=h.fr
 have hset:∀(j:Nat)(x:Str)(b:AV),(U0.c 0).Γ[j]? =some x->(R5 (U0.st 0).vars (U0.n 0) (U0.y 0))[j]? =some (some b)->(j=(U0.n 0)∧x=(U0.t 0)∧b=(U0.y 0))∨(x≠(U0.t 0)∧(U0.st 0).vars[j]? =some (some b)):=by
  intro j x b h1 h2
  by_cases hj:(U0.n 0)=j
  ·subst hj
   rw [hi]at h1;(replace h1:=Option.some.inj h1;subst h1)
   unfold R5 at h2
   rw [List.getElem?_set]at h2
   simp only [if_true]at h2
   split at h2
   ·cases h2;exact .inl ⟨rfl,rfl,rfl⟩
   ·exact on h2
  ·refine .inr ⟨fun hx=>hj ?_,?_⟩
   ·subst hx
    refine f8 (List.getElem?_eq_some_iff.mp hi) fun p1 p2=> ?_
    refine f8 (List.getElem?_eq_some_iff.mp h1) fun q1 q2=> ?_
    exact(getElem_inj F.gnd).mp (p2.trans q2.symm)
   ·unfold R5 at h2
    rwa [getElem?_set_ne hj]at h2
 rcases hk with hk |hk
 ·have hk':(U0.c 0).env.kindOf (U0.t 0)=some .local:=hk
  refine wpAny_storeName_local hk' hm (fun h' hn hs=>hZ _ ⟨?_,?_⟩) (by have:=F.kind;rw [this];rfl)
  ·refine h.rl.ext (S:=[(U0.c 0).env.locals]) ⟨fun a ha=> ?_,fun a ha=> ?_⟩ ⟨fun b o hb e=>hs.extBut b o (fun q=>hb (by simp [q])) e,rfl,rfl⟩
   ·rw [mem_singleton.mp ha];exact F.off _ (.head _)
   ·rw [mem_singleton.mp ha];exact(F.own (B:=U0.b)).obj _ (.head _)
  ·refine⟨F.kind,F.glob,F.blt,F.off,F.nd,F.gnd,F.inj,fun x c hm' hmine hx=> ?_,F.frozen,F.hasCell,_,hn,fun j x b e1 e2=> ?_⟩
   ·refine o1 (F.isCell x c hm' hmine hx) fun w o ho hd=> ?_
    exact⟨w,o,hs.extBut c o (fun q=>F.nd (q▸o8 hmine hm' hx)) ho,hd⟩
   ·rcases hset j x b e1 e2 with⟨rfl,rfl,rfl⟩ |⟨hne,e3⟩
    ·exact⟨(U0.v 0),hv,.inl ⟨hk',by simp⟩⟩
    ·refine a9 (hvars j x b e1 e3) fun u g bd=> ?_
     refine⟨u,g,bd.imp (fun⟨a,b⟩=>⟨a,by simp [hne,b]⟩) fun⟨kd,c,e,hcell⟩=>⟨kd,c,e,hcell.sameBut hs fun q=> ?_⟩⟩
     subst q
     by_cases hx:(U0.c 0).mine=true∧(U0.c 0).env.kindOf x=some .cell
     ·exact F.nd (o8 hx.1 (j3 e) hx.2)
     ·refine o1 (F.frozen x _ (j3 e) hx) fun gU eH h1 h2=> ?_
      rw [(F.off _ (.head _)).1]at h1;exact on h1
 ·have hmine:=hk.1
  have hk':(U0.c 0).env.kindOf (U0.t 0)=some .cell:=hk.2
  refine f8 (Option.isSome_iff_exists.mp (F.hasCell (U0.t 0) hmine hk')) fun c hcl=> ?_
  have hmem:=j3 hcl
  refine f8 (F.isCell (U0.t 0) c hmem hmine hk') fun iH hcell=> ?_
  have hown:c∈d5 (U0.c 0):= .tail _ (o8 hmine hmem hk')
  refine wpAny_storeName_cell F.kind hk' hcl hcell fun h' hc' hs=>hZ _ ⟨?_,?_⟩
  ·refine h.rl.ext (S:=[c]) ⟨fun a ha=> ?_,fun a ha=> ?_⟩ ⟨fun b o hb e=>hs.extBut b o (fun q=>hb (by simp [q])) e,rfl,rfl⟩
   ·rw [mem_singleton.mp ha];exact F.off _ hown
   ·rw [mem_singleton.mp ha];exact(F.own (B:=U0.b)).obj _ hown
  ·have hLc:(U0.c 0).env.locals≠c:=fun q=>F.nd (q▸o8 hmine hmem hk')
   refine⟨F.kind,F.glob,F.blt,F.off,F.nd,F.gnd,F.inj,fun x c' hm' hmine' hx=> ?_,F.frozen,F.hasCell,m,hm.sameBut hs hLc,fun j x b e1 e2=> ?_⟩
   ·by_cases hcc:c'=c
    ·subst hcc;exact⟨_,hc'⟩
    ·refine o1 (F.isCell x c' hm' hmine' hx) fun w o ho hd=> ?_
     exact⟨w,o,hs.extBut c' o hcc ho,hd⟩
   ·rcases hset j x b e1 e2 with⟨rfl,rfl,rfl⟩ |⟨hne,e3⟩
    ·exact⟨(U0.v 0),hv,.inr ⟨.inl hk',c,hcl,hc'⟩⟩
    ·refine a9 (hvars j x b e1 e3) fun u g bd=> ?_
     refine⟨u,g,bd.imp (fun q=>q) fun⟨kd,c',e,hcell'⟩=>⟨kd,c',e,hcell'.sameBut hs fun q=> ?_⟩⟩
     subst q
     by_cases hx:(U0.c 0).mine=true∧(U0.c 0).env.kindOf x=some .cell
     ·exact hne (F.inj x (U0.t 0) _ (j3 e) hmem hx.2 hk')
     ·refine o1 (F.frozen x _ (j3 e) hx) fun gU eH h1 h2=> ?_
      rw [(F.off _ hown).1]at h1;exact on h1
theorem T4{B:Bs}{W:Wd}{C:FC}{σ:St}{s:Shared}{A:Around}{E:Value->Shared->Prop}{id:Str}{i:Nat}{av:AV}{v:Value}:XR B W C σ s A E id i av v:=by with_unfolding_all exact hk (q:=fun u:Ue=>XR u.b (u.w 0) (u.c 0) (u.st 0) (u.s 0) (u.A 0) (u.e 0) (u.t 0) (u.n 0) (u.y 0) (u.v 0)) bV (.mk B [W] [C] [σ] [s] [A] [E] [] [i] [] [] [v] [av] [id] [] [] [] [] [] [] [] [] [] [] [] [] [] [] [] [] [] [] [] [] [] [] [] U0.pr [] [])
theorem L0(h:R B W C σ s){id:Str}{i:Nat}{p:Pos}{av:AV}{v:Value}(hc:A1 C.Γ C.env.scope C.mine id i=true)(hv:VR W av v){Z:Unit->Shared->Prop}(hZ:∀s',R B W C (σ.setv i av) s'->Z () s'):
  wpAny (model B.prog B.w) A (assign (.Name id p) C.env v) Z E s:=by
 exact wpAny_assign_Name (T4 h hc hv hZ)
theorem GH(h:R B W C σ s){t:Expr}{tg:Tg}{av:AV}{v:Value}{eG:St}(ht:IH C.env C.Γ C.mine t tg)(hi:Cw W s.heap tg av v)(hb:Ah tg av σ=some eG)(hh:A.handled=none)
  {Z:Unit->Shared->Prop} (hZ:∀s',R B W C eG s'->Z () s'):wpAny (model B.prog B.w) A (assign t C.env v) Z E s:=by
 cases tg with
 |one i=>
  refine o1 (Dj ht) fun id p ee2 ho=> ?_
  subst ee2
  (replace hb:=Option.some.inj hb;subst hb)
  exact L0 h ho hi hZ
 |two i j=>
  refine KA (Dh ht) fun a p b q k r ee6 h1 h2 h3=> ?_
  subst ee6
  refine IQ hi fun x y T vx vy ee5 ee6 hT gx gy=> ?_
  clear hi
  subst ee5
  subst ee6
  (replace hb:=Option.some.inj hb;subst hb)
  show wpAny _ _ (do standAt r;unpack (.ref T) (assignEach [.Name a p,.Name b q] C.env)) _ _ _
  refine wpAny_bind (wpAny_standAt (wpAny_unpack_tuple hh hT rfl rfl fun h' hx=> ?_))
  have hg:R B W C σ {s with heap:=h'}:=h.grow (fun b o e=>hx b o (Nat.ne_of_lt (Heap.lt_size e)) e) rfl rfl
  show wpAny _ _ (assignInOrder [assign (.Name a p) C.env,assign (.Name b q) C.env] [vx,vy]) _ _ _
  refine wpAny_bind (wpAny_holding (L0 hg h1 gx fun s' h'=> ?_))
  refine wpAny_bind (wpAny_holding (L0 h' h2 gy fun s'' h''=> ?_))
  exact wpAny_pure (hZ _ h'')
noncomputable def SV(W:Wd):Fl->Flow->Prop
 | .next,f=>f= .next
 | .brk,f=>f= .brk
 | .cont,f=>f= .cont
 | .ret a,f=>∃v,f= .ret v∧VR W a v
theorem R.frz(h:R B W C σ s)(hS:N6 B W S s)(ho:∀a∈S,a∉d5 C):
  R B (W.frz S s.heap) C σ s∧∀W' s' eG,(W.frz S s.heap).le W'->R B W' C eG s'->R B (W'.unf S) C eG s'∧W.le (W'.unf S)∧∀a∈S,s'.heap.get? a=s.heap.get? a:=by
 refine⟨⟨Gq hS h.rl,h.fr.stay (E0 hS) (fun a ha=>⟨?_,(h.fr.off a ha).2⟩) (fun _ _=>rfl) h.rl.keep h.rl.keep⟩,fun W' s' eG hl h'=>⟨⟨Oj (BT hS h.rl hl) h'.rl,?_⟩,GW hS hl,Kh hS hl h'.rl⟩⟩
 ·show(if a∈S then _ else _)=_
  rw [if_neg (fun hm=>ho a hm ha)];exact(h.fr.off a ha).1
 ·have F:=h'.fr
  refine⟨F.kind,F.glob,F.blt,fun a ha=>⟨?_,(F.off a ha).2⟩,F.nd,F.gnd,F.inj,F.isCell,fun x c hm hx=> ?_,F.hasCell,?_⟩
  ·show(if a∈S then _ else _)=_
   rw [if_neg (fun hm=>ho a hm ha)];exact(F.off a ha).1
  ·refine o1 (h.fr.frozen x c hm hx) fun o v h1 h2=> ?_
   exact⟨o,v,(GW hS hl).1 _ _ h1,h2⟩
  ·refine a9 (F.ns) fun m hm hv=> ?_
   exact⟨m,hm,fun i x av e1 e2=>let⟨v,g,b⟩:=hv i x av e1 e2;⟨v,Fb (BT hS h.rl hl) g,b⟩⟩
@[reducible] def Xk(B:Bs)(n:Nat)(W:Wd)(C:FC)(σ:St)(s:Shared)(S:List Addr)(A:Around)(I:Addr)(P:Wd->List AV->Heap->Prop)(ok:St->Prop)(t:Expr)(body:List Stmt)(items:List AV)(Q:Fl->St->Prop):Prop:=∀{tg:Tg}{b:St->(Fl->St->Prop)->Prop}(hit:QC B tg I S P ok)(ht:IH C.env C.Γ C.mine t tg)(hA:Br n A)(hbody:∀σ Q,b σ Q->T B n C SV (execs body C.env) σ Q)(hf:A2 ok tg b items σ Q)(h:R B W C σ s)(hP:P W items s.heap)(hS:∀a∈S,(W.K a=none∧a∉W.ρ)∧a∉d5 C){Z:Result->Shared->Prop}(hZ:∀fl f s' W' eG,W.le W'->R B W' C eG s'->SV W' fl f->Q fl eG->Z (.ok f) s'),codeAny (model B.prog B.w) A (.forLoop t (.ref I) body [] C.env) Z s
noncomputable def H8:Ue:=ee fun u=>Xk u.b (u.n 0) (u.w 0) (u.c 0) (u.st 0) (u.s 0) (u.la 0) (u.A 0) (u.n 1) (u.P 0) (u.ok 0) (u.x 0) (u.bd 0) (u.m 0) (u.f 0)
@[irreducible] noncomputable def K28.items:List AV:=(H8.m 0)
open K28 in
set_option tactic.hygienic true in
theorem dI:Xk H8.b (H8.n 0) (H8.w 0) (H8.c 0) (H8.st 0) (H8.s 0) (H8.la 0) (H8.A 0) (H8.n 1) (H8.P 0) (H8.ok 0) (H8.x 0) (H8.bd 0) items (H8.f 0):=fun{tg}{b} hit ht hA hbody hf h hP hS{Z} hZ=>by
 refine codeAny_forLoop_any (fun k s'=>∃items eG W',k=items.length+1∧(H8.w 0).le W'∧A2 (H8.ok 0) tg b items eG (H8.f 0)∧R H8.b W' (H8.c 0) eG s'∧(H8.P 0) W' items s'.heap∧(∀a∈(H8.la 0),(W'.K a=none∧a∉W'.ρ)∧a∉d5 (H8.c 0))) ?_ (items.length+1)
  ⟨items,(H8.st 0),(H8.w 0),rfl,(H8.w 0).le_refl,hf,h,hP,hS⟩
 intro k s' hh_ex
 refine KS hh_ex fun its eG W' ee3 hle hf' h' hP' hS'=> ?_
 clear hh_ex
 subst ee3
 have fr:N6 H8.b W' (H8.la 0) s':=⟨fun a ha=>(hS' a ha).1,hit.obj hP'⟩
 have ho:∀a∈(H8.la 0),a∉d5 (H8.c 0):=fun a ha=>(hS' a ha).2
 cases its with
 |nil=>
  refine hit.last h'.rl hf'.1 hP' hA.2.2 fun s'' hs=>wpAny_execs_nil ?_
  exact hZ .next .next s'' W' eG hle (h'.ext fr ho hs) rfl hf'.2
 |cons av rest=>
  obtain⟨hok,hf'⟩:=hf'
  split at hf'
  ·exact hf'.elim
  ·next dU hb=>
   refine hit.next h'.rl (fun a ha=>(hS' a ha).1) hok hP' hA.2.2 (Fi.of hb) fun val dR hB hgo=>hgo ht fun dY eY fM fN=> ?_
   have fC:=h'.ext fr ho eY
   have eV:N6 H8.b W' (H8.la 0) dY:=⟨fun a ha=>(hS' a ha).1,hit.obj fM⟩
   obtain⟨hz,hback⟩:=fC.frz eV ho
   have gB:Cw (W'.frz (H8.la 0) dY.heap) dY.heap tg av val:=by
    cases tg with
    |one i=>exact VR.mono (E0 eV) fN
    |two i j=>
     obtain⟨x,y,T,vx,vy,e1,e2,e3,g1,g2⟩:=fN
     exact⟨x,y,T,vx,vy,e1,e2,e3,g1.mono (E0 eV),g2.mono (E0 eV)⟩
   refine GH hz ht gB hb hA.2.2 fun eJ fE=> ?_
   refine hbody _ _ hf' _ _ (H8.A 0) _ _ hA fE fun f eO fT fl fB fG fY hfl hq=> ?_
   obtain⟨gC,fW,hget⟩:=hback fT eO fB fG fY
   have hU:(H8.P 0) (fT.unf (H8.la 0)) rest eO.heap:=hit.stable fM fW hget
   have hW:∀a∈(H8.la 0),((fT.unf (H8.la 0)).K a=none∧a∉(fT.unf (H8.la 0)).ρ)∧a∉d5 (H8.c 0):=fun a ha=>by
    refine⟨⟨by show(if a∈(H8.la 0)then _ else _)=_;(rw [if_pos ha];rfl),fun hm=> ?_⟩,ho a ha⟩
    have:=fY.rl.off a hm
    obtain⟨o,e,_⟩:=eV.obj a ha
    have e':(W'.frz (H8.la 0) dY.heap).K a=some o:=by show(if a∈(H8.la 0)then _ else _)=_;rw [if_pos ha];exact e
    rw [fG.1 _ _ e']at this;exact ZM this
   have go:A2 (H8.ok 0) tg b rest fB (H8.f 0)->∃m,m<(av::rest).length+1∧∃its eG W',m=its.length+1∧(H8.w 0).le W'∧A2 (H8.ok 0) tg b its eG (H8.f 0)∧R H8.b W' (H8.c 0) eG eO∧(H8.P 0) W' its eO.heap∧(∀a∈(H8.la 0),(W'.K a=none∧a∉W'.ρ)∧a∉d5 (H8.c 0)):=
    fun hq=>⟨rest.length+1,by simp,rest,fB,_,rfl,Wd.le_trans hle fW,hq,gC,hU,hW⟩
   cases fl with
   |next=>rw [show f=_ from hfl];exact go hq
   |cont=>rw [show f=_ from hfl];exact go hq
   |brk=>rw [show f=_ from hfl];exact hZ .next .next eO _ fB (Wd.le_trans hle fW) gC rfl hq
   |ret a=>
    obtain⟨v,rfl,hv⟩:=hfl
    exact hZ (.ret a) (.ret v) eO _ fB (Wd.le_trans hle fW) gC ⟨v,rfl,Fb (BT eV fC.rl fG) hv⟩ hq
theorem Uh{B:Bs}{n:Nat}{W:Wd}{C:FC}{σ:St}{s:Shared}{S:List Addr}{A:Around}{I:Addr}{P:Wd->List AV->Heap->Prop}{ok:St->Prop}{t:Expr}{body:List Stmt}{items:List AV}{Q:Fl->St->Prop}:Xk B n W C σ s S A I P ok t body items Q:=by with_unfolding_all exact hk (q:=fun u:Ue=>Xk u.b (u.n 0) (u.w 0) (u.c 0) (u.st 0) (u.s 0) (u.la 0) (u.A 0) (u.n 1) (u.P 0) (u.ok 0) (u.x 0) (u.bd 0) (u.m 0) (u.f 0)) dI (.mk B [W] [C] [σ] [s] [A] [] [S] [n,I] [] [] [] [] [] [] [] [items] [] [] [] [t] [] [] [Q] [] [body] [] [] [] [] [] [P] [ok] [] [] [] [] H8.pr [] [])
end
section
variable{prog:Program}{w:World}{A:Around}{R:Result->Shared->Prop}{s:Shared}
theorem Hk{elt target iter:Expr}{scope:Scope}{pos:Pos}{it acc:Value}{env:Env}(I:Nat->Shared->Prop)
  (turn:∀n s,I n s->wpAny (model prog w) A (pyNext it) (fun r dR=>match r with
   |none=>R (.ok .next) dR
   |some v=>wpAny (model prog w) A (letOwnedTupleGo target it v) (fun _ gL=>wpAny (model prog w) A (assign target env v) (fun _ dY=>wpAny (model prog w) A (eval elt env) (fun x eJ=>
     wpAny (model prog w) A (call (.builtin "list.append") [acc,x]) (fun _ eO=>∃m,m<n∧I m eO) (notedBy (model prog w) A env fun e s'=>R (.error e) s') eJ)
     (notedBy (model prog w) A env fun e s'=>R (.error e) s') dY) (notedBy (model prog w) A env fun e s'=>R (.error e) s') gL) (notedBy (model prog w) A env fun e s'=>R (.error e) s') dR) (notedBy (model prog w) A env fun e s'=>R (.error e) s') s)
  (n:Nat) (h:I n s):codeAny (model prog w) A (.compLoop (.ListComp elt [⟨target,iter,[],0⟩] scope pos) 0 it acc env) R s:=by
 refine codeAny_loop rfl I (fun n s hI=> ?_) n h
 show wpAny _ A ((compTurn (.ListComp elt [⟨target,iter,[],0⟩] scope pos) 0 it acc env).onRaise (fun x=>do noteFrame x env;theTreesLotGoes x)) _ _ s
 refine wpAny_noted ?_
 rw [compTurn_list1]
 refine wpAny_bind (wpAny_standAt (wpAny_bind (wpAny_mono (turn n s hI) (fun r dR eX=> ?_) fun _ _ h'=>h')))
 cases r with
 |none=>exact wpAny_pure eX
 |some v=>
  refine wpAny_bind (wpAny_mono eX (fun _ gL iA=>wpAny_bind (wpAny_mono iA (fun _ dY fC=> ?_) fun _ _ h'=>h')) fun _ _ h'=>h')
  refine wpAny_bind (wpAny_bind (wpAny_mono fC (fun x eJ fE=>wpAny_bind (wpAny_mono fE (fun _ eO fY=>wpAny_pure ?_) fun _ _ h'=>h')) fun _ _ h'=>h'))
  exact wpAny_pure ⟨rfl,fY⟩
end
section
variable{B:Bs}{n:Nat}{W W':Wd}{C:FC}{σ:St}{s s':Shared}{ls:Ls}{S:List Addr}{A:Around}{E:Value->Shared->Prop}
theorem R.unf(h:R B W C σ s)(U:CM B W S)(hc:∀a∈S,∀o v,W.K a=some o->o.data≠ .cell v):R B (W.unf S) C σ s:=by
 have F:=h.fr
 refine⟨Oj U h.rl,F.kind,F.glob,F.blt,fun a ha=>⟨?_,(F.off a ha).2⟩,F.nd,F.gnd,F.inj,F.isCell,fun x c hm hx=> ?_,F.hasCell,?_⟩
 ·show(if a∈S then _ else _)=_
  split
  ·rfl
  ·exact(F.off a ha).1
 ·refine o1 (F.frozen x c hm hx) fun o v h1 h2=> ?_
  refine⟨o,v,?_,h2⟩
  show(if c∈S then _ else _)=_
  rw [if_neg (fun hm=>hc c hm o v h1 h2)];exact h1
 ·refine a9 (F.ns) fun m hm hv=> ?_
  exact⟨m,hm,fun i x av e1 e2=>let⟨v,g,b⟩:=hv i x av e1 e2;⟨v,Fb U g,b⟩⟩
theorem LC(h:RL B W ls s){k:Nat}{acc:Value}{cur:List AV}{av:AV}{v:Value}(ha:VR W (.lst k) acc)(hk:ls[k]? =some cur)(hlen:cur.length<=1000000)(hv:VR W av v){A:Around}
  {Z:Value->Shared->Prop} (hZ:∀s',RL B W (ls.set k (cur++[av])) s'->(∀b o,some b≠W.ρ[k]? ->s.heap.get? b=some o->s'.heap.get? b=some o)->Z .none s'):
  wpAny (model B.prog B.w) A (call (.builtin "list.append") [acc,v]) Z E s:=by
 refine r5 (h.list ha hk) fun a vals n' ee3 hr hl hvs=> ?_
 subst ee3
 have hln:=hvs.length
 refine wpAny_list_append_plain ⟨n',hl⟩ (fun h' hp hs=>hZ _ (h.setL hr hs.extBut (vals:=vals++[v]) (by simpa using hp) (hvs.append (l5.one hv)) rfl rfl) fun b o hb e=>hs.extBut b o (fun q=>hb (by(rw [q,hr];rfl))) e) (by unfold sizeLine;simp only [size_toArray];exact e8 ‹_› ‹_› rfl)
noncomputable def Bz(cs:Scope)(env:Env):List (Str×Addr):=cs.names.foldl (fun acc x=>if x.2== .free then match env.cells.lookup x.1 with |some c=>(x.1,c)::acc |none=>acc else acc) []
@[reducible] def XN(cs:Scope)(env:Env):Prop:=∀(h:∀x∈cs.names,x.2= .free->(env.cells.lookup x.1).isSome=true),closureFor cs env=pure (Bz cs env)
noncomputable def Qn:Ue:=ee fun u=>XN (u.sc 0) (u.env 0)
theorem dC:XN (Qn.sc 0) (Qn.env 0):=by
 intro h
 unfold closureFor Bz
 generalize hn:(Qn.sc 0).names=names at h
 have:∀(l:List (Str×NameKind))(acc:List (Str×Addr)),(∀x∈l,x.2= .free->((Qn.env 0).cells.lookup x.1).isSome=true)->
   (forIn l acc (fun x r=>match x with
    | (name,kind)=>if(kind==NameKind.free)=true then do
      let c ←cellOf (Qn.env 0) name
      pure (ForInStep.yield ((name,c)::r))
     else pure (ForInStep.yield r)):Sem (List (Str×Addr)))=pure (l.foldl (fun acc x=>if x.2== .free then match(Qn.env 0).cells.lookup x.1 with |some c=>(x.1,c)::acc |none=>acc else acc) acc):=by
  intro l
  induction l with
  |nil=>intro acc _;rfl
  |cons x r ih=>
   intro acc hx
   obtain⟨nm,kd⟩:=x
   rw [forIn_cons,foldl_cons]
   by_cases hk:kd= .free
   ·subst hk
    refine f8 (Option.isSome_iff_exists.mp (hx _ (.head _) rfl)) fun c hc=> ?_
    have e:(cellOf (Qn.env 0) nm:Sem Addr)=pure c:=by unfold cellOf;(rw [hc];rfl)
    simp only [beq_self_eq_true,if_true,e,pure_bind,hc]
    exact ih _ fun y hy=>hx y (.tail _ hy)
   ·have:(kd==NameKind.free)=false:=by simpa using hk
    simp only [this,Bool.false_eq_true,if_false,pure_bind]
    exact ih _ fun y hy=>hx y (.tail _ hy)
 exact congrArg (fun t:Sem (List (Str×Addr))=>t>>=fun s=>pure s) (this names [] h)
theorem Km{cs:Scope}{env:Env}:XN cs env:=by with_unfolding_all exact hk (q:=fun u:Ue=>XN (u.sc 0) (u.env 0)) dC (.mk Qn.b [] [] [] [] [] [] [] [] [cs] [] [] [] [] [] [] [] [] [] [] [] [] [env] [] [] [] [] [] [] [] [] [] [] [] [] [] [] Qn.pr [] [])
set_option tactic.hygienic true in
theorem Ay{cs:Scope}{env:Env}{x:Str}{c:Addr}:(x,c)∈Bz cs env->(x,NameKind.free)∈cs.names∧env.cells.lookup x=some c:=by
 unfold Bz
 have:∀(l:List (Str×NameKind))(acc:List (Str×Addr)),(∀p∈acc,(p.1,NameKind.free)∈cs.names∧env.cells.lookup p.1=some p.2)->(∀p∈l,p∈cs.names)->
   ∀p∈l.foldl (fun acc x=>if x.2== .free then match env.cells.lookup x.1 with |some c=>(x.1,c)::acc |none=>acc else acc) acc,(p.1,NameKind.free)∈cs.names∧env.cells.lookup p.1=some p.2:=by
  intro l
  induction l with
  |nil=>intro acc ha _;exact ha
  |cons x r ih=>
   intro acc ha hl
   rw [foldl_cons]
   refine ih _ ?_ fun p hp=>hl p (.tail _ hp)
   split
   ·next hf=>
    split
    ·next c hc=>
     intro p hp
     rcases mem_cons.mp hp with rfl |hp
     ·refine⟨?_,hc⟩
      have:=hl x (.head _)
      obtain⟨a,b⟩:=x
      have hb:b= .free:=by exact of_decide_eq_true hf
      subst hb;exact this
     ·exact ha p hp
    ·exact ha
   ·exact ha
 intro h
 exact this cs.names [] (fun p hp=>by cases hp) (fun p hp=>hp) (x,c) h
theorem Hc{cs:Scope}{env:Env}{x:Str}(hx:(x,NameKind.free)∈cs.names){c:Addr}(hc:env.cells.lookup x=some c):(Bz cs env).lookup x=some c:=by
 have hex:(x,c)∈Bz cs env:=by
  unfold Bz
  have:∀(l:List (Str×NameKind))(acc:List (Str×Addr)),((x,c)∈acc∨(x,NameKind.free)∈l)->
    (x,c)∈l.foldl (fun acc x=>if x.2== .free then match env.cells.lookup x.1 with |some c=>(x.1,c)::acc |none=>acc else acc) acc:=by
   intro l
   induction l with
   |nil=>intro acc h;exact h.elim id fun h=>by cases h
   |cons y r ih=>
    intro acc h
    rw [foldl_cons]
    refine ih _ ?_
    rcases h with h |h
    ·left
     split
     ·split
      ·exact .tail _ h
      ·exact h
     ·exact h
    ·rcases mem_cons.mp h with h |h
     ·left
      subst h
      simp only [beq_self_eq_true,if_true,hc]
      exact .head _
     ·exact .inr h
  exact this cs.names [] (.inr hx)
 have:∀(l:List (Str×Addr)),(∀p∈l,env.cells.lookup p.1=some p.2)->(x,c)∈l->l.lookup x=some c:=by
  intro l
  induction l with
  |nil=>intro _ h;cases h
  |cons y r ih=>
   intro hl h
   obtain⟨a,b⟩:=y
   rw [lookup_cons]
   cases hq:x==a with
   |true=>
    have:env.cells.lookup a=some b:=hl (a,b) (.head _)
    rw [←eq_of_beq hq,hc]at this
    exact this.symm
   |false=>
    rcases mem_cons.mp h with h |h
    ·cases h;simp at hq
    ·exact ih (fun p hp=>hl p (.tail _ hp)) h
 exact this _ (fun p hp=>(Ay hp).2) hex
def TG(B:Bs)(n:Nat)(C:FC)(tg:Tg)(iter:Expr)(σ:St)(K:List AV->(St->Prop)->St->Prop):Prop:=
 ∀(W:Wd)(s:Shared)(A:Around)(E:Value->Shared->Prop)(Z:Value->Shared->Prop),Br n A->R B W C σ s->
  (∀I S P ok items W' eG s',W.le W'->R B W' C eG s'->QC B tg I S P ok->P W' items s'.heap->(∀a∈S,(W'.K a=none∧a∉W'.ρ)∧a∉d5 C)->K items ok eG->Z (.ref I) s')->
  wpAny (model B.prog B.w) A (eval iter C.env) (fun x dR=>wpAny (model B.prog B.w) A (pyIter x) Z E dR) E s
set_option tactic.hygienic true in
theorem Fm{keep:List Nat}:∀(i:Nat)(vars:List (Option AV))(j:Nat){a:AV},(X6 keep i vars)[j]? =some (some a)->(i+j)∈keep∧vars[j]? =some (some a)
 |i,[],j,a,h=>by simp [X6]at h
 |i,v::r,0,a,h=>by
  simp only [X6,List.getElem?_cons_zero,Option.some.injEq]at h
  split at h
  ·next hk=>exact⟨by simpa using hk,by simpa using h⟩
  ·exact on h
 |i,v::r,j+1,a,h=>by
  simp only [X6,List.getElem?_cons_succ]at h
  refine b7 (Fm (i+1) r j h) fun h1 h2=> ?_
  exact⟨by rw [show i+(j+1)=i+1+j by lia];exact h1,by exact h2⟩
end
section
variable{B:Bs}{n:Nat}{W W':Wd}{C:FC}{σ:St}{s s':Shared}{ls:Ls}{S:List Addr}{A:Around}{E:Value->Shared->Prop}
noncomputable def B6(cs:Scope)(C:FC)(L:Addr):FC:=⟨compEnvC cs (Bz cs C.env) L C.env,C.Γ,false⟩
set_option tactic.hygienic true in
theorem Ht{cs:Scope}{env:Env}(hco:U2 env.scope cs=true){x:Str}(hx:(relabel cs env).names.lookup x=some .cell):(x,NameKind.free)∈cs.names∧env.scope.names.lookup x=some .cell:=by
 have hm:=j3 hx
 unfold relabel at hm
 refine a9 (mem_map.mp hm) fun ee0 h1 h2=> ?_
 obtain⟨a,b⟩:=ee0
 have ha:=all_eq_true.mp hco _ h1
 simp only [Bool.and_eq_true,Bool.or_eq_true,bne_iff_ne,beq_iff_eq,ne_eq]at ha
 dsimp only at h2
 split at h2
 ·next hc=>
  cases h2
  simp only [Bool.and_eq_true,beq_iff_eq]at hc
  refine b7 hc fun ee0 hk=> ?_
  clear hc
  obtain⟨rfl,_⟩:=ee0
  exact⟨h1,hk⟩
 ·cases h2
  exact absurd rfl ha.1.1
set_option tactic.hygienic true in
theorem DZ{cs:Scope}{env:Env}(hk:env.scope.kind= .function)(hco:U2 env.scope cs=true){x:Str}(hx:(relabel cs env).names.lookup x=some .free):False:=by
 have hm:=j3 hx
 unfold relabel at hm
 refine a9 (mem_map.mp hm) fun ee0 h1 h2=> ?_
 obtain⟨a,b⟩:=ee0
 have ha:=all_eq_true.mp hco _ h1
 simp only [Bool.and_eq_true,Bool.or_eq_true,bne_iff_ne,beq_iff_eq,ne_eq]at ha
 dsimp only at h2
 split at h2
 ·cases h2
 ·next hc=>
  cases h2
  apply hc
  have:=ha.2.resolve_left (by simp)
  simp only [Bool.and_eq_true,beq_iff_eq]
  exact⟨⟨trivial,hk⟩,this.1⟩
@[reducible] def WR(B:Bs)(n:Nat)(W:Wd)(C:FC)(σ:St)(s:Shared)(S:List Addr)(A:Around)(E:Value->Shared->Prop)(elt t iter:Expr)(cs:Scope)(p:Pos)(ok:St->Prop)(keep:List Nat)(I:Addr)(P:Wd->List AV->Heap->Prop)(Q:AV->St->Prop):Prop:=∀{tg:Tg}{e':St->(AV->St->Prop)->Prop}{items:List AV}(h:R B W C σ s)(hA:Br n A)(hmine:C.mine=true)(kind:cs.kind= .function)(ht:BI C.Γ (relabel cs C.env) false t tg=true)(hco:U2 C.env.scope cs=true)(hkeep:EK C.Γ (relabel cs C.env) keep=true)(hit:QC B tg I S P ok)(hP:P W items s.heap)(hS:∀a∈S,(W.K a=none∧a∉W.ρ)∧a∉d5 C)(helt:∀L σ Q,e' σ Q->T B n (B6 cs C L) VR (eval elt (B6 cs C L).env) σ Q)(hf:W0 ok tg σ.lists.length e' items {vars:=X6 keep 0 σ.vars,lists:=σ.lists++[[]]} fun eG=>Q (.lst σ.lists.length) {σ with lists:=eG.lists}){PP:Value->Addr->Result->Shared->Prop}(hPP:∀acc L s' W' eG,W.le W'->R B W' C eG s'->VR W' (.lst σ.lists.length) acc->Q (.lst σ.lists.length) eG->(∃m,s'.heap.Ns L m)->(∃o,W'.K L=some o∧∃es ep,o.data= .dict es ep)->L∉d5 C->B.eB.get? L=none->L∉W'.ρ->W.K L=none->PP acc L (.ok .next) s'),wpAny (model B.prog B.w) A (newList []) (fun acc eJ=>wpAny (model B.prog B.w) A (newFunctionEnv cs C.env.globals (Bz cs C.env) [] C.env.qual none .none (some C.env)) (fun cenv eO=>
   codeAny (model B.prog B.w) A (.compStart (.ListComp elt [⟨t,iter,[],0⟩] cs p) 0 (.ref I) acc {cenv with scope:=relabel cs C.env}) (PP acc cenv.locals) eO) E eJ) E s
noncomputable def i8:Ue:=ee fun u=>WR u.b (u.n 0) (u.w 0) (u.c 0) (u.st 0) (u.s 0) (u.la 0) (u.A 0) (u.e 0) (u.x 0) (u.x 1) (u.x 2) (u.sc 0) (u.p 0) (u.ok 0) (u.kp 0) (u.n 1) (u.P 0) (u.k 0)
set_option tactic.hygienic true in
theorem dO:WR i8.b (i8.n 0) (i8.w 0) (i8.c 0) (i8.st 0) (i8.s 0) (i8.la 0) (i8.A 0) (i8.e 0) (i8.x 0) (i8.x 1) (i8.x 2) (i8.sc 0) (i8.p 0) (i8.ok 0) (i8.kp 0) (i8.n 1) (i8.P 0) (i8.k 0):=fun{tg}{e'}{items} h hA hmine kind ht hco hkeep hit hP hS helt hf{PP} hPP=>by
 have hcell:∀x∈(i8.sc 0).names,x.2≠ .cell:=fun x hx=>by
  have:=all_eq_true.mp hco x hx
  simp only [Bool.and_eq_true,bne_iff_ne,ne_eq]at this
  exact this.1.1
 refine wpAny_newList (wpAny_newFunctionEnv hcell (by intro y hy;simp at hy) (fun eX hns hsb=> ?_) kind) (by simp [sizeLine])
 dsimp only at hns hsb ⊢
 have hz:((i8.s 0).heap.push {cls:= .type "list",data:= .seq ([]:List Value).toArray}).objs.size=(i8.s 0).heap.objs.size+1:=Heap.size_push _ _
 generalize hL:((i8.s 0).heap.push {cls:= .type "list",data:= .seq ([]:List Value).toArray}).objs.size=L at hns hsb ⊢
 have hLs:L=(i8.s 0).heap.objs.size+1:=by(rw [←hL,hz];rfl)
 have old:∀b o,((i8.s 0).heap.push {cls:= .type "list",data:= .seq ([]:List Value).toArray}).get? b=some o->eX.get? b=some o:=fun b o e=>
  hsb.extBut b o (by have:=Heap.lt_size e;rw [hz]at this;exact Nat.ne_of_lt (hLs▸this)) (Heap.get?_push_of_some _ e)
 have old0:∀b o,(i8.s 0).heap.get? b=some o->eX.get? b=some o:=fun b o e=>old b o (Heap.get?_push_of_some _ e)
 refine b7 (h.rl.newList (arr:= #[]) (vs:=[]) (s':={(i8.s 0)with heap:=(i8.s 0).heap.push {cls:= .type "list",data:= .seq ([]:List Value).toArray}}) rfl rfl rfl rfl) fun r3 hacc=> ?_
 let eO:Shared:={(i8.s 0)with heap:=eX,toks:=(i8.s 0).toks+([]:List (Str×Value)).length}
 have hfr:=h.rl.fresh (Nat.le_refl (i8.s 0).heap.objs.size)
 have own_lt:∀a∈d5 (i8.c 0),a<(i8.s 0).heap.objs.size:=fun a ha=>let⟨o,ho,_⟩:=(h.fr.own (B:=i8.b)).obj a ha;Heap.lt_size ho
 have R3:R i8.b ((i8.w 0).addL (i8.s 0).heap.objs.size) (i8.c 0) {(i8.st 0)with lists:=(i8.st 0).lists++[[]]} eO:=by
  refine⟨r3.keepAll old rfl rfl,h.fr.stay (B0 _ _) (fun a ha=>⟨(h.fr.off a ha).1,fun hm=> ?_⟩) (fun a ha=> ?_) h.rl.keep (fun a o e=>old0 a o (h.rl.keep a o e))⟩
  ·rcases mem_append.mp hm with hm |hm
   ·exact(h.fr.off a ha).2 hm
   ·have:=own_lt a ha;rw [mem_singleton.mp hm]at this;exact absurd this (Nat.lt_irrefl _)
  ·refine a9 ((h.fr.own (B:=i8.b)).obj a ha) fun o ho _=> ?_
   rw [ho];exact old0 a o ho
 refine B2 (R3.lift rfl) fun l1 l2 l3=> ?_
 have S_lt:∀a∈(i8.la 0),a<(i8.s 0).heap.objs.size:=fun a ha=>let⟨o,ho,_⟩:=hit.obj hP a ha;Heap.lt_size ho
 have hLown:L∉d5 (i8.c 0):=fun hm=>by have:=own_lt L hm;rw [hLs]at this;exact absurd this (Nat.not_lt.mpr (Nat.le_succ _))
 have hWL:(i8.w 0).K L=none∧L∉(i8.w 0).ρ:=h.rl.fresh (by rw [hLs];exact Nat.le_succ _)
 have R4:R i8.b (((i8.w 0).addL (i8.s 0).heap.objs.size).frz (d5 (i8.c 0)) eO.heap) (B6 (i8.sc 0) (i8.c 0) L) {vars:=X6 (i8.kp 0) 0 (i8.st 0).vars,lists:=(i8.st 0).lists++[[]]} eO:=by
  have F:=R3.fr
  have hown':d5 (B6 (i8.sc 0) (i8.c 0) L)=[L]:=rfl
  have cellK:∀x c,(i8.c 0).env.kindOf x=some .cell->(i8.c 0).env.cells.lookup x=some c->∃o v,(((i8.w 0).addL (i8.s 0).heap.objs.size).frz (d5 (i8.c 0)) eO.heap).K c=some o∧eO.heap.get? c=some o∧o.data= .cell v:=by
   intro x c hk hc
   refine o1 (F.isCell x c (j3 hc) hmine hk) fun v o ho hd=> ?_
   refine⟨o,v,?_,ho,hd⟩
   show(if c∈d5 (i8.c 0)then _ else _)=_
   rw [if_pos (.tail _ (o8 hmine (j3 hc) hk))];exact ho
  refine⟨l1,kind,h.fr.glob,h.fr.blt,fun a ha=> ?_,not_mem_nil,h.fr.gnd,fun x y c hx hy _ _=> ?_,(fun x c _ hm=>by exact ft hm),fun x c hm _=> ?_,(fun x hm=>by exact ft hm),_,hns,fun i x av e1 e2=> ?_⟩
  ·rw [hown']at ha
   rw [mem_singleton.mp ha]
   refine⟨?_,fun hm=> ?_⟩
   ·show(if L∈d5 (i8.c 0)then _ else(i8.w 0).K L)=_
    rw [if_neg hLown];exact hWL.1
   ·rcases mem_append.mp hm with hm |hm
    ·exact hWL.2 hm
    ·have:=mem_singleton.mp hm;rw [hLs]at this;exact absurd this (Nat.succ_ne_self _)
  ·refine b7 (Ay hx) fun p1 p2=> ?_
   refine b7 (Ay hy) fun q1 q2=> ?_
   have ax:=all_eq_true.mp hco _ p1
   have ay:=all_eq_true.mp hco _ q1
   simp only [Bool.and_eq_true,Bool.or_eq_true,bne_iff_ne,beq_iff_eq,ne_eq]at ax ay
   exact h.fr.inj x y c (j3 p2) (j3 q2) (ax.2.resolve_left (by simp)).1 (ay.2.resolve_left (by simp)).1
  ·refine b7 (Ay hm) fun p1 p2=> ?_
   have ax:=all_eq_true.mp hco _ p1
   simp only [Bool.and_eq_true,Bool.or_eq_true,bne_iff_ne,beq_iff_eq,ne_eq]at ax
   refine o4 (cellK x c (ax.2.resolve_left (by simp)).1 p2) fun o v a _ b=> ?_
   exact⟨o,v,a,b⟩
  ·refine b7 (Fm 0 (i8.st 0).vars i e2) fun hk hv=> ?_
   rw [Nat.zero_add]at hk
   have hid:=all_eq_true.mp hkeep i hk
   have e1':(i8.c 0).Γ[i]? =some x:=e1
   rw [e1']at hid
   simp only [Bool.or_eq_true,beq_iff_eq]at hid
   have hlk:=hid.resolve_right (fun q=>DZ h.fr.kind hco q)
   refine b7 (Ht hco hlk) fun hfree hcellk=> ?_
   refine a9 (F.ns) fun m hm hvars=> ?_
   refine a9 (hvars i x av e1' hv) fun v g b=> ?_
   refine⟨v,g.mono l2,.inr ⟨.inl hlk,?_⟩⟩
   rcases b with⟨kd,_⟩ |⟨_,c,hc,hcl⟩
   ·rw [show(i8.c 0).env.kindOf x=_ from hcellk]at kd;cases kd
   ·exact⟨c,Hc hfree hc,hcl⟩
 have hP4:(i8.P 0) (((i8.w 0).addL (i8.s 0).heap.objs.size).frz (d5 (i8.c 0)) eO.heap) items eO.heap:=hit.stable hP (Wd.le_trans (B0 _ _) l2) fun a ha=>by
  refine a9 (hit.obj hP a ha) fun o ho _=> ?_
  rw [ho];exact old0 a o ho
 have hS4:∀a∈(i8.la 0),((((i8.w 0).addL (i8.s 0).heap.objs.size).frz (d5 (i8.c 0)) eO.heap).K a=none∧a∉(((i8.w 0).addL (i8.s 0).heap.objs.size).frz (d5 (i8.c 0)) eO.heap).ρ)∧a∉d5 (B6 (i8.sc 0) (i8.c 0) L):=fun a ha=>by
  refine b7 (hS a ha) fun ee0 x3=> ?_
  obtain⟨x1,x2⟩:=ee0
  have:=S_lt a ha
  refine⟨⟨?_,fun hm=> ?_⟩,fun hm=> ?_⟩
  ·show(if a∈d5 (i8.c 0)then _ else(i8.w 0).K a)=_
   rw [if_neg x3];exact x1
  ·rcases mem_append.mp hm with hm |hm
   ·exact x2 hm
   ·have:=mem_singleton.mp hm;rename_i q _;rw [this]at q;exact absurd q (Nat.lt_irrefl _)
  ·have e:=mem_singleton.mp (show a∈[L]from hm);rw [e,hLs]at this;exact absurd this (Nat.not_lt.mpr (Nat.le_succ _))
 have hacc4:VR (((i8.w 0).addL (i8.s 0).heap.objs.size).frz (d5 (i8.c 0)) eO.heap) (.lst (i8.st 0).lists.length) (.ref (i8.s 0).heap.objs.size):=hacc.mono l2
 have loop:codeAny (model i8.b.prog i8.b.w) (i8.A 0) (.compLoop (.ListComp (i8.x 0) [⟨(i8.x 1),(i8.x 2),[],0⟩] (i8.sc 0) (i8.p 0)) 0 (.ref (i8.n 1)) (.ref (i8.s 0).heap.objs.size) (B6 (i8.sc 0) (i8.c 0) L).env) (PP (.ref (i8.s 0).heap.objs.size) L) eO:=by
  refine Hk (fun k s'=>∃its eG W',k=its.length+1∧(((i8.w 0).addL (i8.s 0).heap.objs.size).frz (d5 (i8.c 0)) eO.heap).le W'∧W0 (i8.ok 0) tg (i8.st 0).lists.length e' its eG (fun eG=>(i8.k 0) (.lst (i8.st 0).lists.length) {(i8.st 0)with lists:=eG.lists})∧R i8.b W' (B6 (i8.sc 0) (i8.c 0) L) eG s'∧(i8.P 0) W' its s'.heap∧
   (∀a∈(i8.la 0),(W'.K a=none∧a∉W'.ρ)∧a∉d5 (B6 (i8.sc 0) (i8.c 0) L))) ?_ (items.length+1) ⟨items,_,_,rfl,Wd.le_refl _,hf,R4,hP4,hS4⟩
  intro k s' hh_ex
  refine KS hh_ex fun its eG W' ee3 hle hf' h' hP' hS'=> ?_
  clear hh_ex
  subst ee3
  have fr:N6 i8.b W' (i8.la 0) s':=⟨fun a ha=>(hS' a ha).1,hit.obj hP'⟩
  have ho:∀a∈(i8.la 0),a∉d5 (B6 (i8.sc 0) (i8.c 0) L):=fun a ha=>(hS' a ha).2
  cases its with
  |nil=>
   refine hit.last h'.rl hf'.1 hP' hA.2.2 fun s'' hs=> ?_
   have h'':=h'.ext fr ho hs
   have fL:=h''.fr.own (B:=i8.b)
   have rL:=Gq fL h''.rl
   refine b7 (l3 _ s'' eG.lists (Wd.le_trans hle (E0 fL)) rL) fun g1 g2=> ?_
   refine a9 (h''.fr.ns) fun m hm _=> ?_
   refine Fo (id hm) fun o es ep ho' hd _=> ?_
   refine hPP _ L s'' _ _ (Wd.le_trans (B0 _ _) g2) g1 (hacc.mono g2) hf'.2 ⟨m,hm⟩ ⟨o,?_,es,ep,hd⟩ hLown ?_ (fun hm=>(h''.fr.off L (.head _)).2 hm) hWL.1
   ·show(if L∈d5 (i8.c 0)then _ else if L∈d5 (B6 (i8.sc 0) (i8.c 0) L)then _ else _)=_
    rw [if_neg hLown,if_pos (show L∈d5 (B6 (i8.sc 0) (i8.c 0) L)from .head _)];exact ho'
   ·cases q:i8.b.eB.get? L with
    |none=>rfl
    |some o=>have:=h.rl.base L o q;rw [hWL.1]at this;exact on this
  |cons av rest=>
   obtain⟨hok,hf'⟩:=hf'
   split at hf'
   ·exact hf'.elim
   ·next dU hb=>
    refine hit.next h'.rl (fun a ha=>(hS' a ha).1) hok hP' hA.2.2 (Fi.of hb) fun val dR hB hgo=>hgo (env:=(B6 (i8.sc 0) (i8.c 0) L).env) (Γ:=(i8.c 0).Γ) (mine:=false) ht fun dY eY fM fN=> ?_
    have fC:=h'.ext fr ho eY
    have eV:N6 i8.b W' (i8.la 0) dY:=⟨fun a ha=>(hS' a ha).1,hit.obj fM⟩
    obtain⟨hz,hback⟩:=fC.frz eV ho
    have gB:Cw (W'.frz (i8.la 0) dY.heap) dY.heap tg av val:=by
     cases tg with
     |one i=>exact VR.mono (E0 eV) fN
     |two i j=>
      obtain⟨x,y,T,vx,vy,e1,e2,e3,g1,g2⟩:=fN
      exact⟨x,y,T,vx,vy,e1,e2,e3,g1.mono (E0 eV),g2.mono (E0 eV)⟩
    refine GH hz ht gB hb hA.2.2 fun eJ fE=> ?_
    refine helt L _ _ hf' _ _ (i8.A 0) _ _ hA fE fun x iM fT ex fB fG fY hx hq=> ?_
    split at hq
    ·next cur hcur=>
     have hD:VR fT (.lst (i8.st 0).lists.length) (.ref (i8.s 0).heap.objs.size):=hacc4.mono (Wd.le_trans (Wd.le_trans hle (E0 eV)) fG)
     obtain⟨m1,m2,m3⟩:=fY.lift rfl
     refine LC m1 (hD.mono m2) hcur hq.1 (hx.mono m2) fun fO gC iN=> ?_
     obtain⟨fP,gN⟩:=m3 _ fO _ (Wd.le_refl _) gC
     obtain⟨iI,gO,hget⟩:=hback _ fO _ (Wd.le_trans fG gN) fP
     have iB:=hit.stable fM gO hget
     refine⟨rest.length+1,by simp,rest,_,_,rfl,Wd.le_trans hle gO,hq.2,iI,iB,fun a ha=>⟨⟨by show(if a∈(i8.la 0)then _ else _)=_;(rw [if_pos ha];rfl),fun hm=> ?_⟩,ho a ha⟩⟩
     have:=fP.rl.off a hm
     obtain⟨o,e,_⟩:=eV.obj a ha
     have e':(W'.frz (i8.la 0) dY.heap).K a=some o:=by show(if a∈(i8.la 0)then _ else _)=_;rw [if_pos ha];exact e
     rw [(Wd.le_trans fG gN).1 _ _ e']at this;exact ZM this
    ·exact hq.elim
 refine codeAny_compStart_list loop (hit.self (σ:={vars:=X6 (i8.kp 0) 0 (i8.st 0).vars,lists:=(i8.st 0).lists++[[]]}) R4.rl ?_ hP4 loop)
 cases items with
 |nil=>exact hf.1
 |cons _ _=>exact hf.1
theorem En{B:Bs}{n:Nat}{W:Wd}{C:FC}{σ:St}{s:Shared}{S:List Addr}{A:Around}{E:Value->Shared->Prop}{elt t iter:Expr}{cs:Scope}{p:Pos}{ok:St->Prop}{keep:List Nat}{I:Addr}{P:Wd->List AV->Heap->Prop}{Q:AV->St->Prop}:WR B n W C σ s S A E elt t iter cs p ok keep I P Q:=by with_unfolding_all exact hk (q:=fun u:Ue=>WR u.b (u.n 0) (u.w 0) (u.c 0) (u.st 0) (u.s 0) (u.la 0) (u.A 0) (u.e 0) (u.x 0) (u.x 1) (u.x 2) (u.sc 0) (u.p 0) (u.ok 0) (u.kp 0) (u.n 1) (u.P 0) (u.k 0)) dO (.mk B [W] [C] [σ] [s] [A] [E] [S] [n,I] [cs] [p] [] [] [] [] [Q] [] [] [] [] [elt,t,iter] [] [] [] [] [] [] [] [] [] [keep] [P] [ok] [] [] [] [] i8.pr [] [])
end
section
variable{B:Bs}{n:Nat}{W W':Wd}{C:FC}{σ:St}{s s':Shared}{G:List (Str×Value)}{A:Around}{E:Value->Shared->Prop}
theorem M9{e:Expr}{env:Env}(h:X9 e=false)(x:Value):foldedSetIterable e env x=pure x:=by
 unfold foldedSetIterable
 cases e<;>first |rfl | (exact tf h)
theorem D3{op:CmpOp}{e:Expr}(h:X9 e=false):behindInMarks op e=false:=by
 cases e<;>first |rfl | (exact tf h)
theorem Js{id:Str}{p:Pos}{env:Env}{whole:Sem Value}{Q:Bool->Shared->Prop}{M:Model}(h:wpAny M A whole (fun v dR=>wpAny M A (truthy v) Q E dR) E s):wpAny M A (isTrue (.Name id p) env whole) Q E s:=wpAny_isTrue_value h
theorem Jz{v i:Expr}{p:Pos}{env:Env}{whole:Sem Value}{Q:Bool->Shared->Prop}{M:Model}(h:wpAny M A whole (fun v dR=>wpAny M A (truthy v) Q E dR) E s):wpAny M A (isTrue (.Subscript v i p) env whole) Q E s:=wpAny_isTrue_value h
@[reducible] def WX(B:Bs)(n:Nat)(C:FC)(σ:St)(v:Expr)(p q:Pos)(Qv Q:AV->St->Prop):Prop:=∀{lo hi st:Option Expr}(hv:T B n C VR (eval v C.env) σ Qv)(hl:∀a σ,Qv a σ->∃Ql:AV->St->Prop,T B n C VR (evalPart lo C.env) σ Ql∧∀l σ,Ql l σ->∃Qh:AV->St->Prop,T B n C VR (evalPart hi C.env) σ Qh∧∀h σ,Qh h σ->∃Qs:AV->St->Prop,T B n C VR (evalPart st C.env) σ Qs∧∀s σ,Qs s σ->
   Ba B.eB a l h s σ Q),T B n C VR (eval (.Subscript v (.Slice lo hi st p) q) C.env) σ Q
noncomputable def Ml:Ue:=ee fun u=>WX u.b (u.n 0) (u.c 0) (u.st 0) (u.x 0) (u.p 0) (u.p 1) (u.k 0) (u.k 1)
@[irreducible] noncomputable def K64.v:Expr:=(Ml.x 0)
open K64 in
theorem cZ:WX Ml.b (Ml.n 0) (Ml.c 0) (Ml.st 0) v (Ml.p 0) (Ml.p 1) (Ml.k 0) (Ml.k 1):=fun{lo}{hi}{st} hv hl=>by
 intro W s A E Z hA hR hZ
 refine Subscript_ (hv W s A _ _ hA hR fun va dR dX a dU dW dT dZ dS=> ?_)
 refine a9 (hl a dU dS) fun Ql tl hl=> ?_
 refine wpAny_Slice (tl dX dR A _ _ hA dT fun vl dY eE l eD eF eA eH eC=> ?_)
 refine a9 (hl l eD eC) fun Qh th hh=> ?_
 refine th eE dY A _ _ hA eA fun vh eJ eZ h eP eQ eK fJ eM=> ?_
 refine a9 (hh h eP eM) fun Qs ts hs=> ?_
 refine ts eZ eJ A _ _ hA eK fun vs eO fT st' fB gK fQ gV fF=> ?_
 have hq:=hs st' fB fF
 have g1:=(dZ.mono eF).mono (Wd.le_trans eQ gK)
 have g2:=eH.mono (Wd.le_trans eQ gK)
 have g3:=fJ.mono gK
 have hle:=Wd.le_trans dW (Wd.le_trans eF (Wd.le_trans eQ gK))
 refine B2 (fQ.lift rfl) fun m1 m2 m3=> ?_
 refine a9 (j5 hq) fun lo' e1 hq=> ?_
 refine a9 (j5 hq) fun hi' e2 hq=> ?_
 refine a9 (j5 hq) fun st'' e3 hq=> ?_
 cases a with
 |raw v=>
  obtain⟨hst,a',xs,rfl,⟨vals,nn,hget,hvs⟩,hlen,hq⟩:=hq
  rw [show va= .ref a' from g1]
  refine X8 m1 (m1.keep _ _ (m1.base _ _ hget)) (hvs.mono ⟨(fun _ _ e=>by exact on e),_,rfl⟩) (by rw [length_map];exact hlen) (K9 g2 e1).1 (K9 g3 e2).1 (K9 gV e3).1 hst fun fO gW gE gF gX=> ?_
  refine b7 (m3 gW fO _ gE gF) fun fP gG=> ?_
  exact hZ _ _ _ _ _ (Wd.le_trans hle gG) fP (Fb (BT (fQ.fr.own (B:=Ml.b)) fQ.rl gE) gX) hq
 |lst k=>
  obtain⟨hst,hq⟩:=hq
  obtain⟨xs,hk,hq⟩:=j5 hq
  refine Fe m1 (g1.mono m2) hk hq.1 (K9 g2 e1).1 (K9 g3 e2).1 (K9 gV e3).1 hst fun fO gW gE gF gX=> ?_
  refine b7 (m3 gW fO _ gE gF) fun fP gG=> ?_
  exact hZ _ _ _ _ _ (Wd.le_trans hle gG) fP (Fb (BT (fQ.fr.own (B:=Ml.b)) fQ.rl gE) gX) hq.2
 |str x=>
  obtain⟨hs0,hx,hq⟩:=hq
  subst hs0
  obtain⟨_,pl,el,fl⟩:=K9 g2 e1
  obtain⟨_,ph,eh,fh⟩:=K9 g3 e2
  obtain⟨hst,ps,es,fs⟩:=K9 gV e3
  have:vs= .none:=by cases hst;rfl
  subst this
  refine Hp m1 (g1.mono m2) el eh fl fh hx fun t fO gF=> ?_
  obtain⟨fP,gG⟩:=m3 _ fO _ (Wd.le_refl _) gF
  exact hZ _ _ _ _ _ (Wd.le_trans hle gG) fP (DG _ _) hq
 |_=>exact hq.elim
theorem Kt{B:Bs}{n:Nat}{C:FC}{σ:St}{v:Expr}{p q:Pos}{Qv Q:AV->St->Prop}:WX B n C σ v p q Qv Q:=by with_unfolding_all exact hk (q:=fun u:Ue=>WX u.b (u.n 0) (u.c 0) (u.st 0) (u.x 0) (u.p 0) (u.p 1) (u.k 0) (u.k 1)) cZ (.mk B [] [C] [σ] [] [] [] [] [n] [] [p,q] [] [] [] [] [Qv,Q] [] [] [] [] [v] [] [] [] [] [] [] [] [] [] [] [] [] [] [] [] [] Ml.pr [] [])
theorem H5{id:String}{b:Bool}{u:String}{c:Bool}(h:some (u,c)=some (id,b)):id=u:=by
 have:=congrArg (fun o=>o.map (·.1)) h
 simp only [Option.map_some,Option.some.injEq]at this
 exact this.symm
theorem Hl{ls:Ls}(h:RL B W ls s){l:Addr}{k:Nat}(hr:W.ρ[k]? =some l){name:Str}{id:String}(slot:Slot "list" name id)(hty:typeOf (.builtin id)=pure (.type "method_descriptor")){pl:Sem Bool}{M:Model}{Z:Value×List Value->Shared->Prop}(hZ:Z (.builtin id,[.ref l]) s):
  wpAny M A (getMethod (.ref l) name pl) Z E s:=by
 obtain⟨vals,⟨n',hl⟩,_⟩:=h.lists k l (ls[k]'(by rw [←h.len];exact(List.getElem?_eq_some_iff.mp hr).1)) hr (by simp)
 exact getMethod_builtin ⟨_,hl,rfl⟩ PySem.F.plainAttrs_list slot hty (fun a e=>by cases e;exact⟨_,hl,rfl⟩) hZ
theorem Jo{a:AV}{n:Str}{r:String×Bool}(h:DH a n=some r):
  (∃x,a= .str x∧(if n="join" then some ("str.join",true)else if n="split" then some ("str.split",true)else if n="lower" then some ("str.lower",true)else Option.none)=some r)∨
  (∃x,a= .int x∧(if n="bit_length" then some ("int.bit_length",true)else Option.none)=some r)∨
  ∃x,a= .lst x∧(if n="append" then some ("list.append",true)else if n="insert" then some ("list.insert",true)else if n="reverse" then some ("list.reverse",true)else Option.none)=some r:=by
 cases a with
 |str x=>exact .inl ⟨x,rfl,h⟩
 |int x=>exact .inr (.inl ⟨x,rfl,h⟩)
 |lst x=>exact .inr (.inr ⟨x,rfl,h⟩)
 |_=>exact on h
set_option tactic.hygienic true in
theorem Rg{ls:Ls}(h:RL B W ls s){a:AV}{v:Value}{nm:Str}{id:String}{b:Bool}(hv:VR W a v)(hm:DH a nm=some (id,b)){pl:Sem Bool}{M:Model}{Z:Value×List Value->Shared->Prop}(hZ:Z (.builtin id,[v]) s):wpAny M A (getMethod v nm pl) Z E s:=by
 replace hm:=Jo hm
 rcases hm with⟨x,ee,hm⟩ |⟨x,ee,hm⟩ |⟨x,ee,hm⟩
 ·subst ee
  refine f8 hv fun t ee1=> ?_
  clear hv
  subst ee1
  split at hm
  ·next e=>rw [e];have:=H5 hm;subst this;with_reducible exact GM.join hZ
  ·split at hm
   ·next e=>rw [e];have:=H5 hm;subst this;with_reducible exact GM.split hZ
   ·split at hm
    ·next e=>rw [e];have:=H5 hm;subst this;with_reducible exact GM.lower hZ
    ·exact on hm
 ·subst ee
  refine f8 hv fun t ee1=> ?_
  clear hv
  subst ee1
  split at hm
  ·next e=>rw [e];have:=H5 hm;subst this;with_reducible exact getMethod_int_bit_length hZ
  ·exact on hm
 ·subst ee
  refine a9 hv fun l ee1 hr=> ?_
  clear hv
  subst ee1
  split at hm
  ·next e=>rw [e];have:=H5 hm;subst this;with_reducible exact Hl h hr PySem.F.slot_list_append PySem.F.type_list_append hZ
  ·split at hm
   ·next e=>rw [e];have:=H5 hm;subst this;with_reducible exact Hl h hr PySem.F.slot_list_insert PySem.F.type_list_insert hZ
   ·split at hm
    ·next e=>rw [e];have:=H5 hm;subst this;with_reducible exact Hl h hr PySem.F.slot_list_reverse PySem.F.type_list_reverse hZ
    ·exact on hm
end
section
variable{prog:Program}{w:World}{A:Around}{E:Value->Shared->Prop}{s:Shared}
theorem BH{it t:Addr}{i:Nat}{items:Array Value}{x:Value}{Q:Value->Shared->Prop}(hit:s.heap.IsTupleIter it t i)
  (ht:s.heap.IsTuple t items) (hx:items[i]? =some x)
  (hQ:∀h',h'.IsTupleIter it t (i+1)->Heap.SameBut it s.heap h'->Q x {s with heap:=h'}):
  wpAny (model prog w) A (Builtin.SmallTypes.nextOf (.ref it)) Q E s:=by
 refine E6 (id hit) fun o ho hc hd=> ?_
 refine E6 ht fun ol hol _ rr22=> ?_
 clear ht
 obtain⟨nl,hdl⟩:=rr22
 unfold Builtin.SmallTypes.nextOf
 refine wpAny_bind (wpAny_callSpecial?_slot (name:=Str.ofString "__next__") hit.typeIs F.slot_tuple_iterator_next
  (wpAny_call_entry F.slot_tuple_iterator_next hit.typeIs F.entry_tuple_iterator_next ?_ (F.args_tuple_iterator_next_1 _)))
 show wpAny _ _ (field (.ref it) 0>>=_) _ _ s
 refine wpAny_bind (wpAny_field ho hd (x:= .ref t) rfl ?_)
 show wpAny _ _ (if(Value.ref t==Value.none)=true then _ else _) _ _ s
 rw [if_neg (show¬((Value.ref t==Value.none)=true)from Bool.false_ne_true)]
 show wpAny _ _ (field (.ref it) 1>>=_) _ _ s
 refine wpAny_bind (wpAny_field ho hd (x:= .int i 0) rfl ?_)
 show wpAny _ _ (seqItems? (.ref t)>>=_) _ _ s
 refine wpAny_bind (wpAny_seqItems hol hdl ?_)
 simp only [Int.toNat_natCast,hx]
 refine wpAny_bind (wpAny_setField ho hd (by simp) (wpAny_pure ⟨x,rfl,wpAny_pure (hQ _ ?_ (Heap.SameBut.update ..))⟩))
 exact⟨_,Heap.get?_update_self _ ho (Obj.isFreed_of_fields (Obj.data_mapFields hd _)),(Obj.cls_mapFields ..).trans hc,by
  rewrite [Obj.data_mapFields hd];simp [rawInt]⟩
theorem Cp{it t:Addr}{i:Nat}{items:Array Value}{Q:Value->Shared->Prop}(hh:A.handled=none)
  (hit:s.heap.IsTupleIter it t i) (ht:s.heap.IsTuple t items) (hx:items[i]? =none)
  (hE:∀h' e,Heap.ExtBut it s.heap h'->(∃o,h'.get? e=some o∧o.cls= .type "StopIteration")->E (.ref e) {s with heap:=h'}):
  wpAny (model prog w) A (Builtin.SmallTypes.nextOf (.ref it)) Q E s:=by
 refine E6 (id hit) fun o ho hc hd=> ?_
 refine E6 ht fun ol hol _ rr24=> ?_
 clear ht
 obtain⟨nl,hdl⟩:=rr24
 unfold Builtin.SmallTypes.nextOf
 refine wpAny_bind (wpAny_callSpecial?_slot (name:=Str.ofString "__next__") hit.typeIs F.slot_tuple_iterator_next
  (wpAny_call_entry F.slot_tuple_iterator_next hit.typeIs F.entry_tuple_iterator_next ?_ (F.args_tuple_iterator_next_1 _)))
 show wpAny _ _ (field (.ref it) 0>>=_) _ _ s
 refine wpAny_bind (wpAny_field ho hd (x:= .ref t) rfl ?_)
 show wpAny _ _ (if(Value.ref t==Value.none)=true then _ else _) _ _ s
 rw [if_neg (show¬((Value.ref t==Value.none)=true)from Bool.false_ne_true)]
 show wpAny _ _ (field (.ref it) 1>>=_) _ _ s
 refine wpAny_bind (wpAny_field ho hd (x:= .int i 0) rfl ?_)
 show wpAny _ _ (seqItems? (.ref t)>>=_) _ _ s
 refine wpAny_bind (wpAny_seqItems hol hdl ?_)
 simp only [Int.toNat_natCast,hx]
 refine wpAny_bind (wpAny_rule (wpAny_bind (wpAny_setField ho hd (by exact Nat.succ_pos _) ?_)))
 show wpAny _ _ (newExc (.type "StopIteration") []>>=_) _ _ _
 refine wpAny_bind ?_
 simp only [newExc,newTuple]
 refine wpAny_bind (wpAny_newObj_type ?_ (by size_fits))
 refine wpAny_bind (m:=firstArgMember _ _) (wpAny_of_eq (a:=Value.none) (by first |rfl | (simp only [firstArgMember];rfl)) ?_)
 refine wpAny_newObj_type ?_ (by size_fits)
 simp only [raiseNew]
 refine wpAny_bind (wpAny_handled ?_)
 first |rw [show A.in1.handled=none from hh] |rw [hh]
 refine wpAny_bind (wpAny_pure (wpAny_throw ?_))
 exact hE _ _ (((Heap.SameBut.update ..).extBut.push _).push _) ⟨_,Heap.get?_push_size _ rfl,rfl⟩
theorem NI{h h':Heap}{t:Addr}{items:Array Value}(x:h.IsTuple t items)(e:∀o,h.get? t=some o->h'.get? t=some o):h'.IsTuple t items:=let⟨o,ho,r⟩:=x;⟨o,e o ho,r⟩
theorem DM{h h':Heap}{it t:Addr}{i:Nat}(x:h.IsTupleIter it t i)(e:∀o,h.get? it=some o->h'.get? it=some o):h'.IsTupleIter it t i:=let⟨o,ho,r⟩:=x;⟨o,e o ho,r⟩
theorem Draws.tuple(hh:A.handled=none)(it t:Addr)(hne:t≠it)(items:Array Value):
  Draws prog w A it [it,t] items.size (fun i v=>items[i]? =some v) (fun i h=>h.IsTupleIter it t i∧h.IsTuple t items) where
 live:=fun _ _ st=>let⟨o,ho,_⟩:=st.1;⟨o,ho⟩
 frame:=fun _ _ _ st hk=>⟨DM st.1 fun o e=>hk it (by simp) o e,NI st.2 fun o e=>hk t (by simp) o e⟩
 item:=fun i s Q E hi st hQ=>by
  refine BH st.1 st.2 (x:=items[i]) (by simp [hi]) fun h' hit' hs'=> ?_
  exact hQ _ h' s.toks (by simp [hi]) ⟨hit',st.2.extBut hs'.extBut hne⟩ hs'
 done:=fun s Q E st hE=>Cp hh st.1 st.2 (by simp) hE
end
open AutoSeq1 (wpAny_loadPart')in
theorem Oc{M:Model}{A:Around}{α:Type}{E:Value->Shared->Prop}{s:Shared}{x:α}{Q:α->Shared->Prop}(h:∀b,Q b s):wpAny M A (pure x) Q E s:=wpAny_pure (h x)
@[reducible] def WP(l:Addr):Prop:=∀(items:Array Value)(n:Nat)(dct:Option Addr)(sl:Array (Option Value)),Meets (Builtin.«enumerate.__new__» ⟨[.type "enumerate",.ref l],[]⟩) (fun _ R s=>s.heap.get? l=some {cls:= .type "tuple",dict:=dct,data:= .seq items n,slots:=sl}∧
   R (.ok (.ret (.ref (s.heap.push {cls:= .type "tuple_iterator",data:= .fields #[.ref l,.int 0 0]}).objs.size)))
    {s with heap:=(s.heap.push {cls:= .type "tuple_iterator",data:= .fields #[.ref l,.int 0 0]}).push {cls:= .type "enumerate",data:= .fields #[.none,.bool false,.ref s.heap.objs.size,rawInt 0,.none,.none]}})
noncomputable def Tf:Uc:=ec fun u=>WP (u.n 0)
set_option maxRecDepth 100000 in
set_option maxHeartbeats 1000000 in
set_option tactic.hygienic true in
theorem bY:WP (Tf.n 0):=fun items n dct sl=>
 .of_wp fun prog w A R s h=>by
  obtain⟨hp,g,d,tk,os⟩:=s;obtain⟨hl,h⟩:=h
  have hsub:=sub_enumerate
  have hL:Heap.IsTuple (Shared.heap ⟨hp,g,d,tk,os⟩) (Tf.n 0) items:=⟨_,hl,rfl,n,rfl⟩
  wp_walk using wpAny_loadPart' hl
  refine wpAny_stack_any fun st=>Oc fun c=> ?_
  cases c
  ·wp_walk using wpAny_loadPart' hl,wpAny_pyIter_tuple hL
   exact⟨_,rfl,h⟩
  ·wp_walk using wpAny_loadPart' hl,wpAny_pyIter_tuple hL
   exact⟨_,rfl,h⟩
theorem Ag(l:Addr):WP l:=by with_unfolding_all exact hk (q:=fun u:Uc=>WP (u.n 0)) bY (.mk Tf.b Tf.p Tf.f Tf.q Tf.v [] [l] [] [] [] [] [] [] [] [] [] [] [] [] [])
theorem Y8{prog:Program}{w:World}{A:Around}{E:Value->Shared->Prop}{s:Shared}{l:Addr}{items:Array Value}{Q:Value->Shared->Prop}(hL:s.heap.IsTuple l items)
  (h:∀h',IsEnum h' (s.heap.objs.size+1) s.heap.objs.size 0 .none->h'.IsTupleIter s.heap.objs.size l 0->h'.objs.size=s.heap.objs.size+2->
   (∀b o,s.heap.get? b=some o->h'.get? b=some o)->Q (.ref (s.heap.objs.size+1)) {s with heap:=h'}):
  wpAny (model prog w) A (call (.type "enumerate") [.ref l]) Q E s:=by
 refine E6 hL fun ee0 hl hc rr25=> ?_
 clear hL
 obtain⟨c,dct,dt,sl⟩:=ee0
 obtain⟨n,hd⟩:=rr25
 replace hc:c= .type "tuple":=hc
 replace hd:dt= .seq items n:=hd
 subst hc hd
 refine callType_new F.called_enumerate (by decide) (F.typeCall_enumerate_1 _) (F.newCall_enumerate_1 _) (fun obj=>F.args_object_init_2 obj _) F.entry_enumerate_new
  (Ag l items n dct sl) ⟨hl,?_⟩
 have hz:(s.heap.push {cls:= .type "tuple_iterator",data:= .fields #[.ref l,.int 0 0]}).objs.size=s.heap.objs.size+1:=Heap.size_push ..
 show _∧_
 rw [hz]
 have he:IsEnum ((s.heap.push {cls:= .type "tuple_iterator",data:= .fields #[.ref l,.int 0 0]}).push
   {cls:= .type "enumerate",data:= .fields #[.none,.bool false,.ref s.heap.objs.size,rawInt 0,.none,.none]}) (s.heap.objs.size+1) s.heap.objs.size 0 .none:=by
  have:=Heap.get?_push_size (s.heap.push {cls:= .type "tuple_iterator",data:= .fields #[.ref l,.int 0 0]})
   (o:={cls:= .type "enumerate",data:= .fields #[.none,.bool false,.ref s.heap.objs.size,rawInt 0,.none,.none]}) rfl
  rw [hz]at this;exact this
 refine⟨⟨_,he,rfl⟩,h _ he ⟨_,Heap.get?_push_of_some _ (Heap.get?_push_size _ rfl),rfl,rfl⟩ (by(rw [Heap.size_push,hz];rfl)) fun b o x=>Heap.get?_push_of_some _ (Heap.get?_push_of_some _ x)⟩
@[reducible] def Xf(B:Bs)(I t J:Addr)(arr:List Value)(xs:List AV)(eS fI:Nat):Prop:=∀{fZ:Obj}(hJ:I≠J)(ht:t≠J)(ht':t≠I),QC B (.two eS fI) I [I,J] (fun W rest h=>W.K t=some fZ∧Pn fZ arr∧l5 W xs arr∧∃(i:Nat)(old:Value),IsEnum h I J i old∧h.IsTupleIter J t i∧rest=S6 i (xs.drop i)∧i<=xs.length) (fun _=>True)
noncomputable def Ds:Ue:=ee fun u=>Xf u.b (u.n 0) (u.n 1) (u.n 2) (u.h 0) (u.m 0) (u.n 3) (u.n 4)
@[irreducible] noncomputable def K78.xs:List AV:=(Ds.m 0)
open K78 in
theorem cE:Xf Ds.b (Ds.n 0) (Ds.n 1) (Ds.n 2) (Ds.h 0) xs (Ds.n 3) (Ds.n 4):=fun{fZ} hJ ht ht'=>{
 stable:=fun⟨hr,h2,h3,i,old,hi,hj,e⟩ hl hs=>⟨hl.1 _ _ hr,h2,h3.mono hl,i,old,(hs (Ds.n 0) (.head _)).trans hi,DM hj fun o e'=>(hs (Ds.n 2) (.tail _ (.head _))).trans e',e⟩
 obj:=fun⟨_,_,_,i,old,hi,⟨o,ho,hc,hd⟩,_⟩ b hb=>by
  rcases mem_cons.mp hb with rfl |hb
  ·exact⟨_,hi,(fun x n e=>by exact T6 (·.ctorIdx) e rfl),.inr ⟨show Value.type "enumerate"≠_ from by decide,show Value.type "enumerate"≠_ from by decide⟩⟩
  ·rw [mem_singleton.mp hb]
   exact⟨o,ho,(fun x n e=>by rw [hd]at e;exact T6 (·.ctorIdx) e rfl),.inr ⟨by rw [hc];decide,by rw [hc];decide⟩⟩
 next:=fun{W σ s rest av A E Z} h hS hok ⟨hr,hT,hvs,i,old,hi,hj,e,hle⟩ hh hf hZ=>by
  obtain⟨x,hx⟩:∃x,xs[i]? =some x:=by
   cases hq:xs[i]? with
   |some x=>exact⟨x,rfl⟩
   |none=>rw [List.drop_eq_nil_iff.mpr (List.getElem?_eq_none_iff.mp hq)]at e;exact HF e
  have hlt:=(List.getElem?_eq_some_iff.mp hx).1
  rw [drop_eq_getElem_cons hlt,S6,List.cons.injEq]at e
  have hx':xs[i]=x:=(List.getElem?_eq_some_iff.mp hx).2
  rw [hx']at e
  refine a9 (hvs.get i hx) fun v hv1 hv2=> ?_
  have hIh:=Heap.lt_size hi
  have hJh:(Ds.n 2)<s.heap.objs.size:=let⟨o,ho,_⟩:=hj;Heap.lt_size ho
  have htup:s.heap.IsTuple (Ds.n 1) (Ds.h 0).toArray:=⟨fZ,h.keep _ _ hr,hT.1,hT.2⟩
  have hln:=hvs.length
  refine wpAny_pyNext_enum_itemD (Draws.tuple (A:=A.in1) hh (Ds.n 2) (Ds.n 1) ht (Ds.h 0).toArray) hi ⟨hj,htup⟩ (by simp;lia) hJ (fun hm=>by
   rcases mem_cons.mp hm with q |hm
   ·exact hJ q
   ·exact ht' (mem_singleton.mp hm).symm) fun v' h' tk hP heo hj' htt hz' hk'=> ?_
  have hvv:v'=v:=by
   have:(Ds.h 0)[i]? =some v':=by simpa using hP
   rw [hv1]at this;exact(Option.some.inj this).symm
  subst hvv
  have hsame:∀tk,AP [(Ds.n 0),(Ds.n 2)] s {s with heap:=h',toks:=tk}:=fun tk=>⟨fun b o hb e=>hk' b o (fun q=>hb (by simp [q])) (fun q=>hb (by simp [q])) e,rfl,rfl⟩
  refine hZ _ _ (hsame _) fun{env Γ mine t' E' Z'} ht hZ'=> ?_
  refine Nj (Dh ht) fun a' p b' q kk r ee6 _=> ?_
  subst ee6
  refine wpAny_letOwnedTupleGo_enum heo fun fC gA eY=> ?_
  refine hZ' _ ⟨fun b o hb e=>(eY.2 b (fun q=>hb (by simp [q]))).trans ((hsame (tk+1)).1 b o hb e),rfl,rfl⟩ ⟨hr,hT,hvs,i+1,_,gA,DM hj'.1 fun o e'=>(eY.2 _ (Ne.symm hJ)).trans e',?_,by lia⟩ ?_
  ·rw [e.2];congr 1
  ·rw [e.1]
   exact⟨_,_,_,_,_,rfl,rfl,⟨_,(eY.2 _ (Nat.ne_of_gt hIh)).trans htt,rfl,_,rfl⟩,⟨_,rfl⟩,hv2⟩
 last:=fun{W σ s A E Z} h hok ⟨hr,hT,hvs,i,old,hi,hj,e,hle⟩ hh hZ=>by
  have hlen:=hvs.length
  have:xs.length<=i:=by
   rcases Nat.lt_or_ge i xs.length with q |q
   ·rw [drop_eq_getElem_cons q]at e;exact Hw e
   ·exact q
  have hi':i=(Ds.h 0).toArray.size:=by simp;lia
  subst hi'
  exact wpAny_pyNext_enum_endD (Draws.tuple (A:=A.in1) hh (Ds.n 2) (Ds.n 1) ht (Ds.h 0).toArray) hi ⟨hj,⟨fZ,h.keep _ _ hr,hT.1,hT.2⟩⟩ fun h' hs'=>hZ _ ⟨fun b o hb e=>hs' b o (fun q=>hb (by simp [q])) e,rfl,rfl⟩
 self:=fun h hok ⟨hr,_,_,i,old,hi,e⟩ hZ=>wpAny_pyIter_enum hi hZ}
theorem LR{B:Bs}{I t J:Addr}{arr:List Value}{xs:List AV}{eS fI:Nat}:Xf B I t J arr xs eS fI:=by with_unfolding_all exact Mine.hk (q:=fun u:Ue=>Xf u.b (u.n 0) (u.n 1) (u.n 2) (u.h 0) (u.m 0) (u.n 3) (u.n 4)) cE (.mk B [] [] [] [] [] [] [] [I,t,J,eS,fI] [] [] [] [] [] [] [] [xs] [arr] [] [] [] [] [] [] [] [] [] [] [] [] [] [] [] [] [] [] [] Ds.pr [] [])
end
section
open PySem PySem.Calls PyProof.Rows
set_option linter.unusedVariables false
set_option maxRecDepth 4000
set_option maxHeartbeats 4000000
def IE(Q:Int->St->Prop)(a:AV)(σ:St):Prop:=match a with
 | .int i=>Q i σ
 |_=>False
theorem T3{Q:Int->St->Prop}{a:AV}{σ:St}(h:IE Q a σ):∃i,a= .int i∧Q i σ:=by
 cases a with
 |int i=>exact⟨i,rfl,h⟩
 |_=>exact h.elim
section
variable{B:Bs}{n:Nat}{G:List (Str×Value)}
theorem u8{Γ:List Str}{m:Bool}{sc:Scope}{env:Env}{p:Pos}:∀{es:List Expr}{xs:Bp},G5 G Γ m sc es xs=true->∀a∈backTo p (starEach es env),a.1=false
 | [],_,_,a,ha=>by cases ha
 |e::r,.nil,h,a,ha=>by exact ft h
 |e::r,.cons x t,h,a,ha=>by
  refine b7 (b9 h) fun h1 h2=> ?_
  rw [t7 h1]at ha
  rcases mem_cons.mp ha with rfl |ha
  ·rfl
  ·exact u8 h2 a ha
theorem Pd{o:Expr}{nm:Str}{env:Env}{w:Sem Value}(hz:O1 o=false):attributeBase o nm env w=w:=by
 cases o with
 |Call f args kws p=>cases f with
  |Name id q=>cases args with
   |nil=>cases kws with
    |nil=>exact tf hz
    |cons=>rfl
   |cons=>rfl
  |_=>rfl
 |_=>rfl
theorem AJ{o:Expr}{nm:Str}{ap p:Pos}{args:List Expr}{env:Env}{M:Model}{A:Around}{E:Value->Shared->Prop}{s:Shared}{Q:Value->Shared->Prop}(hz:O1 o=false)(hlen:args.length<20)(hp:(ap.endLine==p.line)=true)(hplain:∀a∈backTo p (starEach args env),a.1=false)
  (h:wpAny M A (eval o env) (fun ov dR=>∀pl,wpAny M A (getMethod ov nm pl) (fun fx dY=>wpAny M A (callWith p fx.1 fx.2 (backTo p (starEach args env)) []) Q E dY) E dR) E s):
  wpAny M A (eval (.Call (.Attribute o nm ap) args [] p) env) Q E s:=by
 have hb:attributeBase o nm env (eval o env)=eval o env:=Pd hz
 have hform:methodCallForm (args.length+0) (backTo p (starEach args env)) []=true:=by
  unfold methodCallForm
  simp only [List.all_nil,Bool.and_true,List.isEmpty_nil,if_true,Nat.add_zero,Bool.and_eq_true,decide_eq_true_eq,all_eq_true,Bool.not_eq_true']
  exact⟨fun a ha=>hplain a ha,by lia⟩
 show wpAny M A (do
  let ov ←attributeBase o nm env (eval o env)
  standAt ap.atName
  methodCall o nm ap p env ov (args.length+0) (backTo p (starEach args env)) []) Q E s
 rw [hb]
 refine wpAny_bind (wpAny_mono h (fun ov dR eX=>wpAny_bind (wpAny_standAt ?_)) fun _ _ x=>x)
 unfold methodCall calleeOf methodCallPos
 rw [hform]
 simp only [if_true,Bool.not_true,Bool.false_or,hp]
 exact wpAny_bind (wpAny_holding (wpAny_mono (eX _) (fun fx dY fC=>wpAny_bind (wpAny_pure fC)) fun _ _ x=>x))
theorem l5.cons{W:Wd}{a:AV}{v:Value}{as:List AV}{vs:List Value}(h:VR W a v)(t:l5 W as vs):l5 W (a::as) (v::vs):=⟨v,vs,rfl,h,t⟩
theorem DC{sc cs:Scope}(h:U2 sc cs=true):∀x∈cs.names,x.2= .local->cs.names.lookup x.1=some .local:=fun x hx hl=>by
 have:=all_eq_true.mp h x hx
 simp only [Bool.and_eq_true,Bool.or_eq_true,bne_iff_ne,beq_iff_eq,ne_eq]at this
 exact this.1.2.resolve_left (fun q=>q hl)
theorem Fu{W:Wd}{C:FC}{vars:List (Option AV)}{hp:Heap}(F:FR W C vars hp){cs:Scope}(hm:C.mine=true)(h:U2 C.env.scope cs=true):∀x∈cs.names,x.2= .free->(C.env.cells.lookup x.1).isSome=true:=fun x hx hl=>by
 have:=all_eq_true.mp h x hx
 simp only [Bool.and_eq_true,Bool.or_eq_true,bne_iff_ne,beq_iff_eq,ne_eq]at this
 exact F.hasCell x.1 hm (this.2.resolve_left (fun q=>q hl)).1
theorem SR{C:FC}{σ:St}{elt t iter:Expr}{cs:Scope}{p:Pos}{tg:Tg}{e':St->(AV->St->Prop)->Prop}{keep:List Nat}{Q:AV->St->Prop}
  (hmine:C.mine=true) (kind:cs.kind= .function) (ht:BI C.Γ (relabel cs C.env) false t tg=true) (hco:U2 C.env.scope cs=true) (hkeep:EK C.Γ (relabel cs C.env) keep=true) (hset:X9 iter=false)
  (helt:∀L σ Q,e' σ Q->T B n (B6 cs C L) VR (eval elt (B6 cs C L).env) σ Q)
  (hsrc:TG B n C tg iter σ fun items ok σ=>W0 ok tg σ.lists.length e' items {vars:=X6 keep 0 σ.vars,lists:=σ.lists++[[]]} fun eG=>Q (.lst σ.lists.length) {σ with lists:=eG.lists}):
  T B n C VR (eval (.ListComp elt [⟨t,iter,[],0⟩] cs p) C.env) σ Q:=by
 intro W s A E Z hA hR hZ
 show wpAny _ _ (comprehension (.ListComp elt [⟨t,iter,[],0⟩] cs p) cs C.env iter.pos (newList []) false (eval iter C.env)) _ _ _
 refine wpAny_comprehension_free rfl (fun x=>M9 hset x) (Km (Fu hR.fr hmine hco)) kind (DC hco) ?_
 refine hsrc W s A E _ hA hR fun I S P ok items dX dU dR dW dT hit hP hS hf=> ?_
 refine En dT hA hmine kind ht hco hkeep hit hP hS helt hf fun acc L s' W' eG hl hr hv hq hns hK hLo hLb hLr hLW=> ?_
 refine f8 hns fun m hm=> ?_
 clear hns
 refine⟨m,hm,fun h' hs=> ?_⟩
 refine a9 hK fun o hKo rr3=> ?_
 clear hK
 obtain⟨es,ep,hd⟩:=rr3
 have hO:Wb o:=⟨(fun x n e=>by rw [hd]at e;exact T6 (·.ctorIdx) e rfl),.inl fun vs e=>by rw [hd]at e;exact T6 (·.ctorIdx) e rfl⟩
 have U:CM B W' [L]:=fun a ha=>by
  rw [mem_singleton.mp ha]
  exact⟨hLb,fun o' e=>by rw [hKo]at e;(replace e:=Option.some.inj e;subst e);exact hO⟩
 have r':=hr.unf U fun a ha o' v e hc=>by
  rw [mem_singleton.mp ha,hKo]at e;(replace e:=Option.some.inj e;subst e)
  rw [hd]at hc;exact T6 (·.ctorIdx) hc rfl
 have hle:dX.le (W'.unf [L]):=by
  refine⟨fun a o' e=> ?_,hl.2⟩
  show(if a∈[L]then _ else W'.K a)=_
  have:=hl.1 a o' e
  rewrite [if_neg (fun ha=> ?_)]
  ·exact this
  ·rw [mem_singleton.mp ha,hLW]at e;exact on e
 refine hZ acc _ (W'.unf [L]) _ eG (Wd.le_trans dW hle) (r'.ext (S:=[L]) ⟨fun a ha=> ?_,fun a ha=> ?_⟩ (fun a ha=>by rw [mem_singleton.mp ha];exact hLo) ⟨fun b o e hb=>hs.extBut b o (fun q=>e (by simp [q])) hb,rfl,rfl⟩) (Fb U hv) hq
 ·rw [mem_singleton.mp ha]
  exact⟨by show(if L∈[L]then _ else _)=_;(rw [if_pos (.head _)];rfl),hLr⟩
 ·rw [mem_singleton.mp ha]
  exact⟨o,hr.rl.keep _ _ hKo,hO⟩
theorem Il(x:Str)(l h:Option Int):(F1 x l h).length<=x.length:=by
 unfold F1
 split
 ·exact Nat.le_refl _
 ·show(((Builtin.Str.strSliceIndices l h 1 x.length).filterMap _).toArray).size<=_
  rw [size_toArray]
  exact Nat.le_trans (List.length_filterMap_le _ _) (indices_len_le l h x.length)
theorem QB{a l h s:AV}{σ:St}{Q:Bool->St->Prop}(hq:GN a l h s σ Q):Ba B.eB a l h s σ (fun av σ=>∃x,av= .str x∧x.length<=1000000∧Q (x.length !=0) σ):=by
 refine a9 (j5 hq) fun lo e1 hq=> ?_
 refine a9 (j5 hq) fun hi e2 hq=> ?_
 refine a9 (j5 hq) fun st e3 hq=> ?_
 obtain⟨x,rfl,hs0,hx,hq⟩:=hq
 exact b8 e1 (b8 e2 (b8 e3 ⟨hs0,hx,_,rfl,Nat.le_trans (Il _ _ _) hx,hq⟩))
theorem Fn{eB:Heap}{x:Str}{l h:AV}{lo hi:Option Int}{σ:St}{Q:AV->St->Prop}(e1:AT l=some lo)(e2:AT h=some hi)(hx:x.length<=1000000)(q:Q (.str (F1 x lo hi)) σ):Ba eB (.str x) l h .none σ Q:=b8 e1 (b8 e2 (b8 rfl ⟨rfl,hx,q⟩))
theorem V4{x:Str}{l h:AV}{lo hi:Option Int}{σ:St}{Q:Bool->St->Prop}(e1:AT l=some lo)(e2:AT h=some hi)(hx:x.length<=1000000)(q:Q ((F1 x lo hi).length !=0) σ):GN (.str x) l h .none σ Q:=b8 e1 (b8 e2 (b8 rfl ⟨x,rfl,rfl,hx,q⟩))
@[reducible] def Q8(B:Bs)(C:FC)(W eE:Wd)(eD:St)(dY:Shared)(a b:Int)(eS:Nat)(A:Around)(E Z:Value->Shared->Prop)(tk:Nat):Prop:=∀(r:R B eE C eD dY)(hle:W.le eE)(h1: -(2^60)<=a)(h2:a<=2^60)(h3: -(2^60)<=b)(h4:b<=2^60){K:List AV->(St->Prop)->St->Prop}(hK:K (o2 a b) (fun _=>True) eD){t u v:Tok}(hZ:∀I S P ok items W' eG s',W.le W'->R B W' C eG s'->QC B (.one eS) I S P ok->P W' items s'.heap->(∀a∈S,(W'.K a=none∧a∉W'.ρ)∧a∉d5 C)->K items ok eG->Z (.ref I) s'),wpAny (model B.prog B.w) A (pyIter (.ref dY.heap.objs.size)) Z E {dY with heap:=dY.heap.push {cls:= .type "range",data:= .fields #[.int a t,.int b u,.int 1 v]},toks:=tk}
noncomputable def W8:Ue:=ee fun u=>Q8 u.b (u.c 0) (u.w 0) (u.w 1) (u.st 0) (u.s 0) (u.i 0) (u.i 1) (u.n 0) (u.A 0) (u.e 0) (u.e 1) (u.n 1)
@[irreducible] noncomputable def K8.b:Int:=(W8.i 1)
open K8 in
theorem C8:Q8 W8.b (W8.c 0) (W8.w 0) (W8.w 1) (W8.st 0) (W8.s 0) (W8.i 0) b (W8.n 0) (W8.A 0) (W8.e 0) (W8.e 1) (W8.n 1):=fun r hle h1 h2 h3 h4{K} hK{t}{u}{v} hZ=>by
 have hsz:Builtin.Range.rangeSize (W8.i 0) b 1=if(W8.i 0)<b then b-(W8.i 0)else 0:=by
  unfold Builtin.Range.rangeSize
  simp only [show(1:Int)>0 from by decide,if_true,Int.ediv_one]
  split<;>(first |lia | (refine ZU ?_;simp))
 have hsm:Builtin.Range.small (W8.i 0) b 1=true:=by
  unfold Builtin.Range.small Builtin.Range.rangeFitsLong
  rw [hsz]
  simp
  split<;>lia
 refine wpAny_pyIter_range (IsRange.new _ (W8.i 0) b 1 t u v) hsm ?_
 have hz:((W8.s 0).heap.push {cls:= .type "range",data:= .fields #[.int (W8.i 0) t,.int b u,.int 1 v]}).objs.size=(W8.s 0).heap.objs.size+1:=Heap.size_push _ _
 dsimp only
 have hfresh:=r.rl.fresh (Nat.le_succ (W8.s 0).heap.objs.size)
 rw [hz]
 have hget:=Heap.get?_push_size ((W8.s 0).heap.push {cls:= .type "range",data:= .fields #[.int (W8.i 0) t,.int b u,.int 1 v]}) (o:={cls:= .type "range_iterator",data:= .fields #[rawInt (W8.i 0),rawInt (Builtin.Range.rangeSize (W8.i 0) b 1),rawInt 1]}) rfl
 rw [hz]at hget
 refine hZ ((W8.s 0).heap.objs.size+1) [(W8.s 0).heap.objs.size+1] _ _ (o2 (W8.i 0) b) (W8.w 1) (W8.st 0) _ hle (r.grow (fun b o e=>Heap.get?_push_of_some _ (Heap.get?_push_of_some _ e)) rfl rfl) (Lu (c:=(W8.i 0)+Builtin.Range.rangeSize (W8.i 0) b 1))
  ⟨(W8.i 0),Builtin.Range.rangeSize (W8.i 0) b 1,hget,rfl,?_,?_⟩ (fun b hb=> ?_) hK
 ·rw [hsz];split<;>(first |lia |exact c1)
 ·rw [hsz]
  split
  ·(rw [show(W8.i 0)+(b-(W8.i 0))=b by lia];rfl)
  ·(rw [Int.add_zero,y8 (Int.le_refl (W8.i 0)),y8 (by exact z1 ‹_›)];rfl)
 ·rw [mem_singleton.mp hb]
  exact⟨hfresh,fun hm=>let⟨o,ho,_⟩:=(r.fr.own (B:=W8.b)).obj _ hm;absurd (Heap.lt_size ho) (Nat.not_lt.mpr (Nat.le_succ _))⟩
theorem HV{B:Bs}{C:FC}{W eE:Wd}{eD:St}{dY:Shared}{a b:Int}{eS:Nat}{A:Around}{E Z:Value->Shared->Prop}{tk:Nat}:Q8 B C W eE eD dY a b eS A E Z tk:=by with_unfolding_all exact hk (q:=fun u:Ue=>Q8 u.b (u.c 0) (u.w 0) (u.w 1) (u.st 0) (u.s 0) (u.i 0) (u.i 1) (u.n 0) (u.A 0) (u.e 0) (u.e 1) (u.n 1)) C8 (.mk B [W,eE] [C] [eD] [dY] [A] [E,Z] [] [eS,tk] [] [] [] [] [] [] [] [] [] [] [] [] [] [] [] [] [] [] [] [] [] [] [] [] [] [a,b] [] [] W8.pr [] [])
theorem DO(hG:i7 B G){C:FC}{f x:Expr}{p:Pos}{u:Value}{σ:St}{Q:AV->St->Prop}(hf:w0 G C.env.scope f u=true)(hx:T B n C VR (eval x C.env) σ Q){W:Wd}{s:Shared}(hR:R B W C σ s){A:Around}(hA:Br n A)
  {E:Value->Shared->Prop} {Z:Value->Shared->Prop} (hs:starEach [x] C.env=[(false,eval x C.env)]) (hu:∀b,u≠ .ref b)
  (h:∀va dR dX av dU,W.le dX->R B dX C dU dR->VR dX av va->Q av dU->wpAny (model B.prog B.w) A (call u [va]) Z E dR):wpAny (model B.prog B.w) A (eval (.Call f [x] [] p) C.env) Z E s:=by
 have he:eval (.Call f [x] [] p) C.env=(do callWith p (←eval f C.env) [] (backTo p [(false,eval x C.env)]) []):=by
  refine o1 (Ad hf) fun id p ee2 _=> ?_
  subst ee2
  rw [←hs];rfl
 rw [he]
 refine wpAny_bind (G2 hG hR hf ?_)
 refine y0 (fun a ha=>by(rw [mem_singleton.mp ha];rfl)) rfl (spliced_cons (hx W s A _ _ hA hR fun va dR dX av dU dW dT dZ dS=>spliced_nil (wpAny_pure ⟨fun b e=>absurd e (hu b),?_⟩)))
 exact h va dR dX av dU dW dT dZ dS
theorem Cg{C:FC}{f:Expr}{args:List Expr}{p:Pos}{u:Value}(hf:w0 G C.env.scope f u=true):eval (.Call f args [] p) C.env=(do callWith p (←eval f C.env) [] (backTo p (starEach args C.env)) []):=by
 refine o1 (Ad hf) fun id p ee2 _=> ?_
 subst ee2
 rfl
theorem OJ{W:Wd}{ls:Ls}{s:Shared}(h:RL B W ls s){r:Addr}{a b c:Int}{t u v:Tok}(hr:IsRange s.heap r a b c t u v)(hsm:Builtin.Range.small a b c=true)(h0:0<=Builtin.Range.rangeSize a b c)(h1:Builtin.Range.rangeSize a b c<=1000000)
  {Q:AV->Ls->Prop} (hq:Q (.lst ls.length) (ls++[AY a b c])):TL B n VR (call (.type "list") [.ref r]) W s Q:=by
 intro A E Z hA hZ
 refine call_list_range hA.2.2 hr hsm (n:=(Builtin.Range.rangeSize a b c).toNat) (by exact Mj ‹_›) (by lia) fun h' tk acc' c' hk hS hacc=> ?_
 refine b7 (h.fresh (Nat.le_refl s.heap.objs.size)) fun f1 f2=> ?_
 have eX:RL B W ls {s with heap:=h',toks:=tk}:=h.keepAll hk rfl rfl
 have hv:l5 W (AY a b c) acc'.toList:=l5.of_get (by rw [Array.length_toList,hacc.1];unfold AY;(rw [length_map,length_range];rfl)) fun i x y e1 e2=>by
  unfold AY at e1
  rw [getElem?_map]at e1
  refine a9 (Option.map_eq_some_iff.mp e1) fun k e3 e4=> ?_
  rw [List.getElem?_eq_some_iff]at e3
  obtain⟨_,e3⟩:=e3
  rw [getElem_range]at e3
  subst e3 e4
  obtain⟨t',e5⟩:=hacc.2 i y (by rw [←Array.getElem?_toList];exact e2)
  exact⟨t',e5⟩
 refine hZ _ _ _ (.lst ls.length) _ (B0 W _) (eX.addL (a:=s.heap.objs.size) (vals:=acc'.toList) ⟨c',by rw [Array.toArray_toList];exact hS⟩ f1 f2 hv) ⟨_,rfl,?_⟩ hq
 show(W.ρ++[_])[ls.length]? =_
 rw [←h.len,getElem?_append_right (Nat.le_refl _)];simp
theorem YV{a b c:AV}{P:Int->Int->Int->Prop}(h:match a,b,c with
   | .int a,.int b,.int c=>P a b c
   |_,_,_=>False):∃x y z,a= .int x∧b= .int y∧c= .int z∧P x y z:=by
 cases a with
 |int x=>cases b with
  |int y=>cases c with
   |int z=>exact⟨x,y,z,rfl,rfl,rfl,h⟩
   |_=>exact h.elim
  |_=>exact h.elim
 |_=>exact h.elim
theorem Vf{a:AV}{P:Nat->Prop}(h:match a with
  | .lst k=>P k
  |_=>False):∃k,a= .lst k∧P k:=by
 cases a with
 |lst k=>exact⟨k,rfl,h⟩
 |_=>exact h.elim
theorem YS{a:AV}{P:Nat->Prop}{R:List AV->Prop}(h:match a with
  | .lst k=>P k
  | .tup xs=>R xs
  |_=>False):(∃k,a= .lst k∧P k)∨∃xs,a= .tup xs∧R xs:=by
 cases a with
 |lst k=>exact .inl ⟨k,rfl,h⟩
 |tup k=>exact .inr ⟨k,rfl,h⟩
 |_=>exact h.elim
@[reducible] def Q5(B:Bs)(n:Nat)(G:List (Str×Value))(C:FC)(f f' x y z:Expr)(p q:Pos)(σ:St)(Qa Q:AV->St->Prop):Prop:=∀(hG:i7 B G)(g1:w0 G C.env.scope f (.type "list")=true)(g2:w0 G C.env.scope f' (.type "range")=true)(hst:starEach [x,y,z] C.env=[(false,eval x C.env),(false,eval y C.env),(false,eval z C.env)]){Qb:AV->AV->St->Prop}{Qc:AV->AV->AV->St->Prop}(tx:T B n C VR (eval x C.env) σ Qa)(ty:∀a σ,Qa a σ->T B n C VR (eval y C.env) σ (Qb a))(tz:∀a b σ,Qb a b σ->T B n C VR (eval z C.env) σ (Qc a b))(fin:∀a b c σ,Qc a b c σ->match a,b,c with
   | .int a,.int b,.int c=>(c≠0∧c.natAbs<1073741824)∧Builtin.Range.small a b c=true∧0<=Builtin.Range.rangeSize a b c∧Builtin.Range.rangeSize a b c<=1000000∧Q (.lst σ.lists.length) {σ with lists:=σ.lists++[AY a b c]}
   |_,_,_=>False),T B n C VR (eval (.Call f [.Call f' [x,y,z] [] p] [] q) C.env) σ Q
noncomputable def W5:Ue:=ee fun u=>Q5 u.b (u.n 0) (u.g 0) (u.c 0) (u.x 0) (u.x 1) (u.x 2) (u.x 3) (u.x 4) (u.p 0) (u.p 1) (u.st 0) (u.k 0) (u.k 1)
@[irreducible] noncomputable def K5.x:Expr:=(W5.x 2)
open K5 in
theorem C5:Q5 W5.b (W5.n 0) (W5.g 0) (W5.c 0) (W5.x 0) (W5.x 1) x (W5.x 3) (W5.x 4) (W5.p 0) (W5.p 1) (W5.st 0) (W5.k 0) (W5.k 1):=fun hG g1 g2 hst{Qb}{Qc} tx ty tz fin=>by
 intro W s A E Z hA hR hZ
 rw [Cg g1]
 refine wpAny_bind (G2 hG hR g1 ?_)
 refine y0 (fun a ha=>by(rw [mem_singleton.mp ha];rfl)) rfl ?_
 refine spliced_cons (?_:wpAny _ _ (eval (.Call (W5.x 1) [x,(W5.x 3),(W5.x 4)] [] (W5.p 0)) (W5.c 0).env) _ _ _)
 rw [Cg g2,hst]
 refine wpAny_bind (G2 hG hR g2 ?_)
 refine y0 (fun a ha=>by
  rcases mem_cons.mp ha with rfl |ha
  ·rfl
  rcases mem_cons.mp ha with rfl |ha
  ·rfl
  (rw [mem_singleton.mp ha];rfl)) rfl (spliced_cons (tx W s A _ _ hA hR fun va dR dX av dU dW dT dZ dS=>spliced_cons (ty av dU dS dX dR A _ _ hA dT fun vb dY eE bv eD eF eA eH eC=>
   spliced_cons (tz av bv eD eC eE dY A _ _ hA eA fun vc eJ eZ cv eP eQ eK fJ eM=>spliced_nil (wpAny_pure ⟨(fun _ e=>by exact T6 (·.ctorIdx) e rfl),?_⟩)))))
 refine r5 (YV (fin av bv cv eP eM)) fun a b c ee1 ee2 ee3 fF=> ?_
 ·subst ee1
  subst ee2
  subst ee3
  refine f8 dZ fun t ee1=> ?_
  clear dZ
  subst ee1
  refine f8 eH fun u ee1=> ?_
  clear eH
  subst ee1
  refine f8 fJ fun v ee1=> ?_
  clear fJ
  subst ee1
  refine call_range_3 fF.1.1 ?_ (.inl (PyProof.noPylong_small fF.1.2))
  refine spliced_nil (wpAny_pure ⟨(fun _ e=>by exact T6 (·.ctorIdx) e rfl),?_⟩)
  have fQ:R W5.b eZ (W5.c 0) eP {eJ with heap:=eJ.heap.push {cls:= .type "range",data:= .fields #[.int a t,.int b u,.int c v]},toks:=eJ.toks}:=eK.grow (fun b o e=>Heap.get?_push_of_some _ e) rfl rfl
  exact fQ.run hA (OJ fQ.rlF (IsRange.new _ a b c t u v) fF.2.1 fF.2.2.1 fF.2.2.2.1 fF.2.2.2.2) fun v s' W' x ls' hl hr hv hq'=>hZ v s' W' x _ (Wd.le_trans dW (Wd.le_trans eF (Wd.le_trans eQ hl))) hr hv hq'
theorem PB{B:Bs}{n:Nat}{G:List (Str×Value)}{C:FC}{f f' x y z:Expr}{p q:Pos}{σ:St}{Qa Q:AV->St->Prop}:Q5 B n G C f f' x y z p q σ Qa Q:=by with_unfolding_all exact hk (q:=fun u:Ue=>Q5 u.b (u.n 0) (u.g 0) (u.c 0) (u.x 0) (u.x 1) (u.x 2) (u.x 3) (u.x 4) (u.p 0) (u.p 1) (u.st 0) (u.k 0) (u.k 1)) C5 (.mk B [] [C] [σ] [] [] [] [] [n] [] [p,q] [] [] [] [] [Qa,Q] [] [] [G] [] [f,f',x,y,z] [] [] [] [] [] [] [] [] [] [] [] [] [] [] [] [] W5.pr [] [])
def t9(B:Bs)(n:Nat)(x:Ex)(σ:St)(Q:AV->St->Prop):Prop:=∀G,i7 B G->∀(C:FC)(o:Option Expr),NB G C.Γ C.mine C.env.scope o x->T B n C VR (evalPart o C.env) σ Q
def DR(B:Bs)(n:Nat)(x:Ex)(σ:St)(Q:Bool->St->Prop):Prop:=∀G,i7 B G->∀(C:FC)(e:Expr),d6 G C.Γ C.mine C.env.scope e x=true->T B n C (fun _ b a=>a=b) (isTrue e C.env (eval e C.env)) σ Q
def AU(B:Bs)(n:Nat)(xs:Bp)(σ:St)(Q:List AV->St->Prop):Prop:=∀G,i7 B G->∀(C:FC)(es:List Expr)(p:Pos),G5 G C.Γ C.mine C.env.scope es xs=true->T B n C l5 (spliced (backTo p (starEach es C.env))) σ Q
def CK(B:Bs)(n:Nat)(x:Oy)(σ:St)(K:List AV->(St->Prop)->St->Prop):Prop:=∀G,i7 B G->∀(C:FC)(tg:Tg)(e:Expr),DA x tg=true->EM G C.Γ C.mine C.env.scope e x=true->TG B n C tg e σ K
theorem T.mono{α β:Type}{C:FC}{rel:Wd->β->α->Prop}{t:Sem α}{σ:St}{Q Q':β->St->Prop}(h:T B n C rel t σ Q)(hk:∀v σ,Q v σ->Q' v σ):T B n C rel t σ Q':=
 fun W s A E Z hA hR hZ=>h W s A E Z hA hR fun a s' W' b eG hl hr hv hq=>hZ a s' W' b eG hl hr hv (hk _ _ hq)
section
variable{σ:St}{x:Ex}{xs:Bp}
theorem Nd(x:Ex){σ:St}{Q Q':AV->St->Prop}(h:t9 B n x σ Q)(hk:∀v σ,Q v σ->Q' v σ):t9 B n x σ Q':=fun G hG C o hc=>(h G hG C o hc).mono hk
theorem g9(hG:i7 B G)(x:Ex){C:FC}{e:Expr}{σ:St}{Q:AV->St->Prop}(h:d6 G C.Γ C.mine C.env.scope e x=true)(hq:t9 B n x σ Q):T B n C VR (eval e C.env) σ Q:=hq G hG C (some e) (.inr ⟨e,rfl,h⟩)
theorem AI(hG:i7 B G)(x:Ex){C:FC}{e:Expr}{σ:St}{Q:Bool->St->Prop}(h:d6 G C.Γ C.mine C.env.scope e x=true)(hq:DR B n x σ Q):T B n C (fun _ b a=>a=b) (isTrue e C.env (eval e C.env)) σ Q:=hq G hG C e h
theorem Aa(hG:i7 B G)(xs:Bp){C:FC}{es:List Expr}{p:Pos}{σ:St}{Q:List AV->St->Prop}(h:G5 G C.Γ C.mine C.env.scope es xs=true)(hq:AU B n xs σ Q):T B n C l5 (spliced (backTo p (starEach es C.env))) σ Q:=hq G hG C es p h
theorem w7{σ:St}{Q:AV->St->Prop}(hx:K4 x=false)(h:∀G,i7 B G->∀(C:FC)(e:Expr),d6 G C.Γ C.mine C.env.scope e x=true->T B n C VR (eval e C.env) σ Q):t9 B n x σ Q:=fun G hG C o hc=>by
 rcases hc with⟨_,rfl⟩ |⟨e,rfl,hc⟩
 ·exact tf hx
 ·exact h G hG C e hc
end
section
variable{σ:St}{Q:AV->St->Prop}{R':Bool->St->Prop}
theorem P1{i:Nat}{v:AV}(h:σ.vars[i]? =some (some v))(q:Q v σ):t9 B n (.var i) σ Q:=w7 rfl fun G hG C e hc W s A E Z hA hR hZ=>by
 refine o1 (BG hc) fun id p ee2 hv=> ?_
 subst ee2
 exact EL hR hv h fun val g=>hZ val s W v σ W.le_refl hR g q
theorem JH{v:Value}(q:Q (.raw v) σ):t9 B n (.glob v) σ Q:=w7 rfl fun G hG C e hc W s A E Z hA hR hZ=>G2 hG hR (Z0 hc) (hZ v s W (.raw v) σ W.le_refl hR rfl q)
theorem F4(q:Q .none σ):t9 B n .none σ Q:=fun G hG C o hc W s A E Z hA hR hZ=>by
 rcases hc with⟨rfl,_⟩ |⟨e,rfl,hc⟩
 ·exact wpAny_pure (hZ _ _ W .none σ W.le_refl hR rfl q)
 ·refine I9 (MO hc) fun u p ee2=> ?_
  subst ee2
  show wpAny _ _ (eval (.Constant .none u p) C.env) _ _ _
  exact wpAny_Constant_none (hZ _ s W .none σ W.le_refl hR rfl q)
theorem TB{b:Bool}(q:Q (.bool b) σ):t9 B n (.bool b) σ Q:=w7 rfl fun G hG C e hc W s A E Z hA hR hZ=>by
 refine I9 (Nz hc) fun u p ee2=> ?_
 subst ee2
 exact wpAny_Constant_bool (hZ _ s W (.bool b) σ W.le_refl hR rfl q)
theorem P7{k:Int}(q:Q (.int k) σ):t9 B n (.int k) σ Q:=w7 rfl fun G hG C e hc W s A E Z hA hR hZ=>by
 rcases Kx hc with⟨u,p,rfl⟩ |⟨t,hg⟩
 ·exact wpAny_Constant_int (hZ _ _ W (.int k) σ W.le_refl (hR.toks _) (E1 _ _) q)
 ·exact G2 hG hR hg (hZ _ s W (.int k) σ W.le_refl hR (E1 _ _) q)
theorem Sj{k:Str}(q:Q (.str k) σ):t9 B n (.str k) σ Q:=w7 rfl fun G hG C e hc W s A E Z hA hR hZ=>by
 refine I9 (Qr hc) fun u p ee2=> ?_
 subst ee2
 exact wpAny_Constant_str (hZ _ _ W (.str k) σ W.le_refl (hR.toks _) (DG _ _) q)
theorem Id{o:HC}{l r:Ex}(h:t9 B n l σ fun a σ=>t9 B n r σ fun b σ=>O8 o a b σ.lists fun v ls=>Q v ⟨σ.vars,ls⟩):t9 B n (.bin o l r) σ Q:=w7 rfl fun G hG C e hc W s A E Z hA hR hZ=>by
 refine Fo (Qm hc) fun l' r' p ee3 h1 h2=> ?_
 subst ee3
 refine wpAny_BinOp (g9 hG l h1 h W s A _ _ hA hR fun va dR dX av dU dW dT dZ dS=>g9 hG r h2 dS dX dR A _ _ hA dT fun vb dY eE bv eD eF eA eH eC=> ?_)
 exact eA.run hA (Ui eA.rlF (eA.up (dZ.mono eF)) (eA.up eH) eC) fun v s' W' x ls' hl hr hv hq'=>hZ v s' W' x _ (Wd.le_trans dW (Wd.le_trans eF hl)) hr hv hq'
theorem BU{x:Ex}(h:t9 B n x σ (IE fun i σ=>Q (.int (-i)) σ)):t9 B n (.neg x) σ Q:=w7 rfl fun G hG C e hc W s A E Z hA hR hZ=>by
 refine o1 (QZ hc) fun x' p ee2 h1=> ?_
 subst ee2
 refine wpAny_UnaryOp (g9 hG x h1 h W s A _ _ hA hR fun va dR dX av dU dW dT dZ dS=> ?_)
 refine a9 (T3 dS) fun i ee1 dS=> ?_
 subst ee1
 refine f8 dZ fun t ee1=> ?_
 clear dZ
 subst ee1
 exact PyProof.Rows.neg_int (hZ _ _ dX _ dU dW (dT.toks _) (E1 _ _) dS)
theorem bC{x:Ex}(h:t9 B n x σ (IE fun i σ=>Q (.int (Builtin.bitNot i)) σ)):t9 B n (.inv x) σ Q:=w7 rfl fun G hG C e hc W s A E Z hA hR hZ=>by
 refine o1 (PY hc) fun x' p ee2 h1=> ?_
 subst ee2
 refine wpAny_UnaryOp (g9 hG x h1 h W s A _ _ hA hR fun va dR dX av dU dW dT dZ dS=> ?_)
 refine a9 (T3 dS) fun i ee1 dS=> ?_
 subst ee1
 refine f8 dZ fun t ee1=> ?_
 clear dZ
 subst ee1
 exact PyProof.Rows.invert_int (hZ _ _ dX _ dU dW (dT.toks _) (E1 _ _) dS)
theorem Sw{l r:Ex}{o:HE}(h:t9 B n l σ fun a σ=>t9 B n r σ fun b σ=>D9 (fun t=>Q (.bool t) σ) (Bm σ.lists o a b)):t9 B n (.cmp l o r) σ Q:=w7 rfl fun G hG C e hc W s A E Z hA hR hZ=>by
 refine r5 (BC hc) fun l' r' p ee3 hs h1 h2=> ?_
 subst ee3
 refine wpAny_Compare1 (g9 hG l h1 h W s A _ _ hA hR fun va dR dX av dU dW dT dZ dS=>g9 hG r h2 dS dX dR A _ _ hA dT fun vb dY eE bv eD eF eA eH eC=> ?_) (D3 hs)
 refine a9 (j5 eC) fun t ht eC=> ?_
 exact Gn eA.rl (dZ.mono eF) eH ht hA (hZ _ dY eE _ eD (Wd.le_trans dW eF) eA (QW _) eC)
theorem aL{c a b:Ex}(h:DR B n c σ fun t σ=>if t then t9 B n a σ Q else t9 B n b σ Q):t9 B n (.ite c a b) σ Q:=w7 rfl fun G hG C e hc W s A E Z hA hR hZ=>by
 refine FH (Pr hc) fun t x y p ee4 h1 h2 h3=> ?_
 subst ee4
 refine wpAny_IfExp (AI hG c h1 h W s A _ _ hA hR fun bt dR dX tv dU dW dT dZ dS=> ?_)
 subst dZ
 cases bt with
 |true=>exact g9 hG a h2 dS dX dR A _ _ hA dT fun v s' W' x eG hl hr hv hq'=>hZ v s' W' x eG (Wd.le_trans dW hl) hr hv hq'
 |false=>exact g9 hG b h3 dS dX dR A _ _ hA dT fun v s' W' x eG hl hr hv hq'=>hZ v s' W' x eG (Wd.le_trans dW hl) hr hv hq'
theorem aE{x y:Ex}(h:t9 B n x σ fun a σ=>D9 (fun t=>if t then Q a σ else t9 B n y σ Q) (O5 σ.lists a)):t9 B n (.or x y) σ Q:=w7 rfl fun G hG C e hc W s A E Z hA hR hZ=>by
 refine Fo (NE hc) fun x' y' p ee3 h1 h2=> ?_
 subst ee3
 refine wpAny_Or2 (g9 hG x h1 h W s A _ _ hA hR fun va dR dX av dU dW dT dZ dS=> ?_)
 refine a9 (j5 dS) fun t ht dS=> ?_
 refine Y6 dT.rl dZ ht fun tk=> ?_
 cases t with
 |true=>exact hZ va _ dX av dU dW (dT.toks tk) dZ dS
 |false=>exact g9 hG y h2 dS dX _ A _ _ hA (dT.toks tk) fun v s' W' x eG hl hr hv hq'=>hZ v s' W' x eG (Wd.le_trans dW hl) hr hv hq'
theorem VE{x y:Ex}(h:t9 B n x σ fun a σ=>D9 (fun t=>if t then t9 B n y σ Q else Q a σ) (O5 σ.lists a)):t9 B n (.and x y) σ Q:=w7 rfl fun G hG C e hc W s A E Z hA hR hZ=>by
 rcases Hj hc with⟨x',y',p,rfl,h1,h2⟩ |⟨x',y',z,p,rfl,h1,h2⟩
 ·refine wpAny_And2 (g9 hG x h1 h W s A _ _ hA hR fun va dR dX av dU dW dT dZ dS=> ?_)
  refine a9 (j5 dS) fun t ht dS=> ?_
  refine Y6 dT.rl dZ ht fun tk=> ?_
  cases t with
  |true=>exact g9 hG y h2 dS dX _ A _ _ hA (dT.toks tk) fun v s' W' x eG hl hr hv hq'=>hZ v s' W' x eG (Wd.le_trans dW hl) hr hv hq'
  |false=>exact hZ va _ dX av dU dW (dT.toks tk) dZ dS
 ·show wpAny _ _ (do
   let v ←eval x' C.env
   standAt p
   let t ←holding [v] (truthy v)
   match BoolOp.And,t with
   | .And,false | .Or,true=>pure v
   |_,_=>eval (.BoolOp .And [y',z] p) C.env) _ _ _
  refine wpAny_bind (g9 hG x h1 h W s A _ _ hA hR fun va dR dX av dU dW dT dZ dS=>wpAny_bind (wpAny_standAt (wpAny_bind (wpAny_holding ?_))))
  refine a9 (j5 dS) fun t ht dS=> ?_
  refine Y6 dT.rl dZ ht fun tk=> ?_
  cases t with
  |true=>exact g9 hG y h2 dS dX _ A _ _ hA (dT.toks tk) fun v s' W' x eG hl hr hv hq'=>hZ v s' W' x eG (Wd.le_trans dW hl) hr hv hq'
  |false=>exact wpAny_pure (hZ va _ dX av dU dW (dT.toks tk) dZ dS)
theorem Bf{v i:Ex}(h:t9 B n v σ fun a σ=>t9 B n i σ fun b σ=>D9 (fun x=>Q x σ) (t8 σ.lists a b)):t9 B n (.item v i) σ Q:=w7 rfl fun G hG C e hc W s A E Z hA hR hZ=>by
 refine r5 (Pg hc) fun v' i' p ee3 hs h1 h2=> ?_
 subst ee3
 refine Subscript_ (g9 hG v h1 h W s A _ _ hA hR fun va dR dX av dU dW dT dZ dS=>g9 hG i h2 dS dX dR A _ _ hA dT fun vb dY eE bv eD eF eA eH eC=> ?_)
 refine a9 (j5 eC) fun x hx eC=> ?_
 exact QE eA.rl (dZ.mono eF) eH hx (Ts hs) fun val tk g=>hZ val _ eE x eD (Wd.le_trans dW eF) (eA.toks _) g eC
theorem Dp{v lo hi st:Ex}(h:t9 B n v σ fun a σ=>t9 B n lo σ fun l σ=>t9 B n hi σ fun h σ=>t9 B n st σ fun s σ=>Ba B.eB a l h s σ Q):t9 B n (.slice v lo hi st) σ Q:=w7 rfl fun G hG C e hc=>by
 refine Sg (FV hc) fun v' lo' hi' sp p q ee6 h1 h2 h3 h4=> ?_
 subst ee6
 exact Kt (g9 hG v h1 h) fun av dU dS=>⟨_,dS G hG C _ h2,fun lv eD eC=>⟨_,eC G hG C _ h3,fun hv eP eM=>⟨_,eM G hG C _ h4,fun sv fB fF=>fF⟩⟩⟩
theorem OY{es:Bp}(h:AU B n es σ fun vs σ=>Nat.ble vs.length 1000=true∧Q (.tup vs) σ):t9 B n (.tup es) σ Q:=w7 rfl fun G hG C e hc W s A E Z hA hR hZ=>by
 refine Vu (PU hc) fun es' k p ee3 h1=> ?_
 subst ee3
 refine wpAny_Tuple (Aa hG es h1 h W s A _ _ hA hR fun vs dR dX avs dU dW dT dZ dS=>⟨by rw [dZ.length];exact Nat.le_trans (Nat.le_of_ble_eq_true dS.1) (by decide),?_⟩)
 refine B2 (dT.lift rfl) fun m1 m2 m3=> ?_
 refine E6 (m1.newTup (arr:=vs.toArray) (vs:=avs) (s':={dR with heap:=dR.heap.push {cls:= .type "tuple",data:= .seq vs.toArray}}) (dZ.mono m2) rfl rfl rfl) fun eE eF eA eH=> ?_
 refine b7 (m3 eE _ _ eF eA) fun fE eQ=> ?_
 exact hZ _ _ _ _ _ (Wd.le_trans dW eQ) fE (Fb (BT (dT.fr.own (B:=B)) dT.rl eF) eH) dS.2
theorem XA{es:Bp}(h:AU B n es σ fun vs σ=>Nat.ble vs.length 1000=true∧Q (.lst σ.lists.length) ⟨σ.vars,σ.lists++[vs]⟩):t9 B n (.list es) σ Q:=w7 rfl fun G hG C e hc W s A E Z hA hR hZ=>by
 refine o1 (Mw hc) fun es' p ee2 h1=> ?_
 subst ee2
 refine wpAny_List (Aa hG es h1 h W s A _ _ hA hR fun vs dR dX avs dU dW dT dZ dS=>⟨by rw [dZ.length];exact Nat.le_trans (Nat.le_of_ble_eq_true dS.1) (by decide),?_⟩)
 refine B2 (dT.lift rfl) fun m1 m2 m3=> ?_
 refine b7 (m1.newList (arr:=vs.toArray) (vs:=avs) (s':={dR with heap:=dR.heap.push {cls:= .type "list",data:= .seq vs.toArray}}) (dZ.mono m2) rfl rfl rfl) fun eA eH=> ?_
 refine b7 (m3 _ _ _ (B0 _ _) eA) fun fE eQ=> ?_
 exact hZ _ _ _ _ _ (Wd.le_trans dW eQ) fE (Fb (BT (dT.fr.own (B:=B)) dT.rl (B0 _ _)) eH) dS.2
theorem KP{g:Expr}{args:List Expr}{p:Pos}{C:FC}{xs:Bp}{u:Value}(hG:i7 B G)(hg:Ed g=false)(hf:∀{W:Wd}{s:Shared}{A:Around}{E:Value->Shared->Prop}{Z:Value->Shared->Prop},R B W C σ s->Z u s->wpAny (model B.prog B.w) A (eval g C.env) Z E s)
  (h2:G5 G C.Γ C.mine C.env.scope args xs=true) (h:AU B n xs σ fun vs σ=>Spec B n u vs [] σ.lists fun v ls=>Q v ⟨σ.vars,ls⟩):T B n C VR (eval (.Call g args [] p) C.env) σ Q:=by
 intro W s A E Z hA hR hZ
 have he:eval (.Call g args [] p) C.env=(do callWith p (←eval g C.env) [] (backTo p (starEach args C.env)) []):=by
  cases g<;>first |rfl | (exact tf hg)
 rw [he]
 refine wpAny_bind (hf hR ?_)
 refine y0 (u8 h2) rfl (Aa hG xs h2 h W s A _ _ hA hR fun vs dY eE avs eD eF eA eH eC=>wpAny_pure ?_)
 refine b7 (eC _ dY vs [] eA.rlF (eA.ups eH) rfl) fun k1 k2=> ?_
 exact⟨k1,eA.run hA k2 fun v s' W' x ls' hl hr hv hq'=>hZ v s' W' x _ (Wd.le_trans eF hl) hr hv hq'⟩
theorem EX{u:Value}{args:Bp}(h:AU B n args σ fun vs σ=>Spec B n u vs [] σ.lists fun v ls=>Q v ⟨σ.vars,ls⟩):t9 B n (.call (.glob u) args) σ Q:=w7 rfl fun G hG C e hc=>by
 refine r5 (Eg hc) fun g args' p ee3 hg h1 h2=> ?_
 subst ee3
 exact KP hG hg (fun r z=>G2 hG r (Z0 h1) z) h2 h
theorem Xt{i:Nat}{u:Value}{args:Bp}(hi:σ.vars[i]? =some (some (.raw u)))(h:AU B n args σ fun vs σ=>Spec B n u vs [] σ.lists fun v ls=>Q v ⟨σ.vars,ls⟩):t9 B n (.call (.var i) args) σ Q:=w7 rfl fun G hG C e hc=>by
 refine r5 (Eg hc) fun g args' p ee3 hg h1 h2=> ?_
 subst ee3
 refine o1 (BG h1) fun id p' ee2 hv=> ?_
 subst ee2
 exact KP hG hg (fun r z=>EL r hv hi fun val g=>by rw [show val=u from g];exact z) h2 h
theorem Xu{a b c:Ex}(h:t9 B n a σ fun a σ=>t9 B n b σ fun b σ=>t9 B n c σ fun c σ=>match a,b,c with
  | .int a,.int b,.int c=>(c≠0∧c.natAbs<1073741824)∧Builtin.Range.small a b c=true∧0<=Builtin.Range.rangeSize a b c∧Builtin.Range.rangeSize a b c<=1000000∧Q (.lst σ.lists.length) {σ with lists:=σ.lists++[AY a b c]}
  |_,_,_=>False):t9 B n (.rlist a b c) σ Q:=w7 rfl fun G hG C e hc=>by
 refine VO (Lw hc) fun f f' x y z p q ee7 g1 g2 h1 h2 h3=> ?_
 subst ee7
 exact PB hG g1 g2 (by rewrite [t7 h1,t7 h2,t7 h3];rfl) (g9 hG a h1 h) (fun _ σ hq=>g9 hG b h2 hq) (fun _ _ σ hq=>g9 hG c h3 hq) fun a b c σ hq=>hq
theorem WV{u:Value}{args:Bp}{k:Str}{kv:Ex}(h:AU B n args σ fun vs σ=>t9 B n kv σ fun kw σ=>Spec B n u vs [(k,kw)] σ.lists fun v ls=>Q v ⟨σ.vars,ls⟩):t9 B n (.callk (.glob u) args k kv) σ Q:=w7 rfl fun G hG C e hc W s A E Z hA hR hZ=>by
 refine IQ (LN hc) fun g args' kv' pk p ee5 hg h1 h2 h3=> ?_
 subst ee5
 have he:eval (.Call g args' [⟨some k,kv',pk⟩] p) C.env=(do callWith p (←eval g C.env) [] (backTo p (starEach args' C.env)) (backToKw p [(some k,eval kv' C.env)])):=by
  cases g<;>first |rfl | (exact tf hg)
 rw [he]
 refine wpAny_bind (G2 hG hR (Z0 h1) ?_)
 refine y0 (u8 h2) rfl (Aa hG args h2 h W s A _ _ hA hR fun vs dY eE avs eD eF eA eH eC=> ?_)
 refine wpAny_bind (wpAny_bind (g9 hG kv h3 eC eE dY A _ _ hA eA fun vk eJ eZ ak eP eQ eK fJ eM=>wpAny_bind (wpAny_standAt (wpAny_pure (wpAny_bind (wpAny_holding (wpAny_pure (wpAny_pure ?_))))))))
 refine b7 (eM _ eJ vs [vk] eK.rlF (eK.ups (eH.mono eQ)) (l5.one (eK.up fJ))) fun k1 k2=> ?_
 exact⟨k1,eK.run hA k2 fun v s' W' x ls' hl hr hv hq'=>hZ v s' W' x _ (Wd.le_trans eF (Wd.le_trans eQ hl)) hr hv hq'⟩
def RM(B:Bs)(n:Nat)(args:Bp)(name:Str)(Q:AV->St->Prop)(a:AV)(σ:St):Prop:=D9 (fun t:String×Bool=>AU B n args σ fun vs σ=>Spec B n (.builtin t.1) (a::vs) [] σ.lists fun v ls=>Q v {σ with lists:=ls}) (DH a name)
theorem SW{o:Ex}{name:Str}{args:Bp}(h:t9 B n o σ (RM B n args name Q)):t9 B n (.meth o name args) σ Q:=w7 rfl fun G hG C e hc W s A E Z hA hR hZ=>by
 refine FO (NF hc) fun o' ap args' p ee4 hz hlen hp h1 h2=> ?_
 subst ee4
 refine AJ hz hlen hp (u8 h2) (g9 hG o h1 h W s A _ _ hA hR fun vo dR dX ov dU dW dT dZ dS pl=> ?_)
 refine a9 (j5 dS) fun t hm dS=> ?_
 refine Rg dT.rl dZ (id:=t.1) (b:=t.2) hm (y0 (u8 h2) rfl (Aa hG args h2 dS dX dR A _ _ hA dT fun vs dY eE avs eD eF eA eH eC=>wpAny_pure ?_))
 refine b7 (eC _ dY (vo::vs) [] eA.rlF ⟨vo,vs,rfl,eA.up (dZ.mono eF),eA.ups eH⟩ rfl) fun k1 k2=> ?_
 exact⟨k1,eA.run hA k2 fun v s' W' x ls' hl hr hv hq'=>hZ v s' W' x _ (Wd.le_trans dW (Wd.le_trans eF hl)) hr hv hq'⟩
theorem Pw{a:AV}{name:Str}{args:Bp}{id:String}{b:Bool}(hm:DH a name=some (id,b))(h:AU B n args σ fun vs σ=>Spec B n (.builtin id) (a::vs) [] σ.lists fun v ls=>Q v ⟨σ.vars,ls⟩):RM B n args name Q a σ:=b8 (Q:=fun t:String×Bool=>_) hm h
theorem Th{elt:Ex}{tg:Tg}{src:Oy}{keep:List Nat}(h:CK B n src σ fun items ok σ=>W0 ok tg σ.lists.length (t9 B n elt) items ⟨X6 keep 0 σ.vars,σ.lists++[[]]⟩ fun eG=>Q (.lst σ.lists.length) ⟨σ.vars,eG.lists⟩):t9 B n (.comp elt tg src keep) σ Q:=w7 rfl fun G hG C e hc=>by
 refine Oz (IC hc) fun elt' t iter cs p ee5 kind ht hst hco hkeep hset hs hmine he=> ?_
 subst ee5
 exact SR hmine kind ht hco hkeep hset (fun L σ Q hq=>g9 hG elt (C:=B6 cs C L) he hq) (h G hG C tg iter hst hs)
theorem Ce{Q:List AV->St->Prop}(h:Q [] σ):AU B n .nil σ Q:=fun G hG C es p hc W s A E Z hA hR hZ=>by
 rw [N5 hc]
 exact wpAny_pure (hZ [] s W [] σ W.le_refl hR rfl h)
theorem G3{Q:List AV->St->Prop}{e:Ex}{r:Bp}(h:t9 B n e σ fun v σ=>AU B n r σ fun vs σ=>Q (v::vs) σ):AU B n (.cons e r) σ Q:=fun G hG C es p hc W s A E Z hA hR hZ=>by
 refine o4 (OQ hc) fun e' r' ee2 h1 h2=> ?_
 subst ee2
 rewrite [t7 h1]
 refine spliced_cons (g9 hG e h1 h W s A _ _ hA hR fun v dR dX av dU dW dT dZ dS=>Aa hG r h2 dS dX dR A _ _ hA dT fun vs dY eE avs eD eF eA eH eC=> ?_)
 exact hZ _ dY eE _ eD (Wd.le_trans dW eF) eA (l5.cons (dZ.mono eF) eH) eC
theorem KG{x:Ex}(h:DR B n x σ fun t σ=>R' (!t) σ):DR B n (.not x) σ R':=fun G hG C e hc W s A E Z hA hR hZ=>by
 refine o1 (Rl hc) fun y p ee2 h1=> ?_
 subst ee2
 exact PyProof.Rows.isTrue_not (AI hG x h1 h W s A _ _ hA hR fun bt dR dX tv dU dW dT dZ dS=>hZ _ dR dX _ dU dW dT (by(rw [show bt=tv from dZ];rfl)) dS)
theorem Sn{x y:Ex}(h:DR B n x σ fun t σ=>if t then DR B n y σ R' else R' false σ):DR B n (.and x y) σ R':=fun G hG C e hc W s A E Z hA hR hZ=>by
 rcases Hj hc with⟨x',y',p,rfl,h1,h2⟩ |⟨x',y',z,p,rfl,h1,h2⟩
 ·refine wpAny_isTrue_BoolOp (wpAny_allTrue_And_cons (AI hG x h1 h W s A _ _ hA hR fun bt dR dX tv dU dW dT dZ dS=> ?_))
  subst dZ
  cases bt with
  |true=>
   refine wpAny_allTrue_And_cons (AI hG y h2 dS dX dR A _ _ hA dT fun bt dY eE tv eD eF eA eH eC=> ?_)
   subst eH
   cases bt with
   |true=>exact wpAny_allTrue_And_nil (hZ _ dY eE _ eD (Wd.le_trans dW eF) eA rfl eC)
   |false=>exact hZ _ dY eE _ eD (Wd.le_trans dW eF) eA rfl eC
  |false=>exact hZ _ dR dX _ dU dW dT rfl dS
 ·refine wpAny_isTrue_BoolOp (wpAny_allTrue_And_cons (AI hG x h1 h W s A _ _ hA hR fun bt dR dX tv dU dW dT dZ dS=> ?_))
  subst dZ
  cases bt with
  |true=>exact AI hG y h2 dS dX dR A _ _ hA dT fun bt dY eE tv eD eF eA eH eC=>hZ _ dY eE _ eD (Wd.le_trans dW eF) eA eH eC
  |false=>exact hZ _ dR dX _ dU dW dT rfl dS
theorem VP{x y:Ex}(h:DR B n x σ fun t σ=>if t then R' true σ else DR B n y σ R'):DR B n (.or x y) σ R':=fun G hG C e hc W s A E Z hA hR hZ=>by
 refine Fo (NE hc) fun x' y' p ee3 h1 h2=> ?_
 subst ee3
 refine wpAny_isTrue_BoolOp (wpAny_allTrue_Or_cons (AI hG x h1 h W s A _ _ hA hR fun bt dR dX tv dU dW dT dZ dS=> ?_))
 subst dZ
 cases bt with
 |true=>exact hZ _ dR dX _ dU dW dT rfl dS
 |false=>
  refine wpAny_allTrue_Or_cons (AI hG y h2 dS dX dR A _ _ hA dT fun bt dY eE tv eD eF eA eH eC=> ?_)
  subst eH
  cases bt with
  |true=>exact hZ _ dY eE _ eD (Wd.le_trans dW eF) eA rfl eC
  |false=>exact wpAny_allTrue_Or_nil (hZ _ dY eE _ eD (Wd.le_trans dW eF) eA rfl eC)
theorem Eh{l r:Ex}{o:HE}(h:t9 B n l σ fun a σ=>t9 B n r σ fun b σ=>D9 (fun t=>R' t σ) (Bm σ.lists o a b)):DR B n (.cmp l o r) σ R':=fun G hG C e hc W s A E Z hA hR hZ=>by
 refine r5 (BC hc) fun l' r' p ee3 hs h1 h2=> ?_
 subst ee3
 refine PySem.wpAny_isTrue_Compare1 (g9 hG l h1 h W s A _ _ hA hR fun va dR dX av dU dW dT dZ dS=>g9 hG r h2 dS dX dR A _ _ hA dT fun vb dY eE bv eD eF eA eH eC=> ?_) (D3 hs)
 refine a9 (j5 eC) fun t ht eC=> ?_
 exact Gn eA.rl (dZ.mono eF) eH ht hA (wpAny_truthy_bool (hZ _ dY eE _ eD (Wd.le_trans dW eF) eA rfl eC))
theorem XX{l m r:Ex}{o o':HE}(h:t9 B n l σ fun a σ=>t9 B n m σ fun b σ=>D9 (fun t=>if t then t9 B n r σ fun c σ=>D9 (fun t=>R' t σ) (Bm σ.lists o' b c)else R' false σ) (Bm σ.lists o a b)):DR B n (.cmp2 l o m o' r) σ R':=fun G hG C e hc W s A E Z hA hR hZ=>by
 refine Fj (OU hc) fun l' md r' p ee4 hs h1 h2 h3=> ?_
 subst ee4
 refine isTrue_chain (g9 hG l h1 h W s A _ _ hA hR fun va dR dX av dU dW dT dZ dS=> ?_) (by show behindInMarks o'.to r'=false;exact D3 hs)
 refine wpAny_bind (wpAny_holding (g9 hG m h2 dS dX dR A _ _ hA dT fun vb dY eE bv eD eF eA eH eC=>wpAny_bind (wpAny_standAt (wpAny_bind (wpAny_holding ?_)))))
 refine a9 (j5 eC) fun t ht eC=> ?_
 refine Gn eA.rl (dZ.mono eF) eH ht hA (wpAny_bind (wpAny_release (wpAny_bind (wpAny_holding (wpAny_truthy_bool ?_)))))
 cases t with
 |true=>
  rw [if_pos rfl]
  refine wpAny_bind (wpAny_holding (g9 hG r h3 eC eE dY A _ _ hA eA fun vc eJ eZ cv eP eQ eK fJ eM=>wpAny_bind (wpAny_standAt (wpAny_bind (wpAny_operate' ?_)))))
  refine a9 (j5 eM) fun t ht eM=> ?_
  exact Gn eK.rl (eH.mono eQ) fJ ht hA (wpAny_holding (wpAny_truthy_bool (hZ _ eJ eZ _ eP (Wd.le_trans dW (Wd.le_trans eF eQ)) eK rfl eM)))
 |false=>
  rw [if_neg Bool.false_ne_true]
  exact wpAny_pure (hZ _ dY eE _ eD (Wd.le_trans dW eF) eA rfl eC)
theorem Ie{i:Nat}{v:AV}{t:Bool}(h:σ.vars[i]? =some (some v))(ht:O5 σ.lists v=some t)(q:R' t σ):DR B n (.var i) σ R':=fun G hG C e hc W s A E Z hA hR hZ=>by
 refine o1 (BG hc) fun id p ee2 hv=> ?_
 subst ee2
 exact Js (EL hR hv h fun val g=>Y6 hR.rl g ht fun tk=>hZ _ _ W _ σ W.le_refl (hR.toks tk) rfl q)
theorem Kq{v lo hi st:Ex}(h:t9 B n v σ fun a σ=>t9 B n lo σ fun l σ=>t9 B n hi σ fun h σ=>t9 B n st σ fun s σ=>GN a l h s σ R'):DR B n (.slice v lo hi st) σ R':=fun G hG C e hc W s A E Z hA hR hZ=>by
 refine Sg (FV hc) fun v' lo' hi' sp p q ee6 h1 h2 h3 h4=> ?_
 subst ee6
 refine Jz (Kt (p:=p) (q:=q) (Q:=fun av σ=>∃x,av= .str x∧x.length<=1000000∧R' (x.length !=0) σ) (g9 hG v h1 h) (fun av dU dS=>⟨_,dS G hG C _ h2,fun lv eD eC=>⟨_,eC G hG C _ h3,fun hv eP eM=>⟨_,eM G hG C _ h4,fun sv fB fF=>QB fF⟩⟩⟩) W s A _ _ hA hR fun v' s' W' x eG hl hr hv hq'=> ?_)
 obtain⟨x,rfl,hx,hq'⟩:=hq'
 refine Y6 hr.rl hv (t:=x.length !=0) ?_ fun tk=>hZ _ _ W' _ eG hl (hr.toks tk) rfl hq'
 simp only [O5]
 (rw [if_pos (by exact u3 ‹_› rfl)];rfl)
end
section
variable{σ:St}{Q:List AV->(St->Prop)->St->Prop}
theorem Jn{x:Oy}{tg:Tg}(h:DA x tg=true)(hx:DA x (.two 0 0)=false):∃i,tg= .one i:=by
 cases tg with
 |one i=>exact⟨i,rfl⟩
 |two i j=>cases x<;>first | ((first |exact ft h |cases h);done) | (exact tf hx;done)
theorem z5{e:Ex}(h:t9 B n e σ fun a σ=>match a with
  | .lst k=>D9 (fun xs=>Q xs (fun σ=>σ.lists[k]? =some xs) σ) σ.lists[k]?
  |_=>False):CK B n (.list e) σ Q:=fun G hG C tg t hst hc W s A E Z hA hR hZ=>by
 refine g9 hG e hc h W s A _ _ hA hR fun va dR dX av dU dW dT dZ dS=> ?_
 refine a9 (Vf dS) fun k ee dS=> ?_
 ·subst ee
  refine a9 (j5 dS) fun xs hk dS=> ?_
  refine r5 (dT.rl.list dZ hk) fun a vals n' ee3 hr hl hvs=> ?_
  subst ee3
  refine wpAny_pyIter_list ⟨_,hl,rfl,_,rfl⟩ ?_
  have hfresh:=dT.rl.fresh (Nat.le_refl dR.heap.objs.size)
  refine hZ dR.heap.objs.size [dR.heap.objs.size] _ _ xs dX dU _ dW (dT.grow (fun b o e=>Heap.get?_push_of_some _ e) rfl rfl) (Pa (k:=k) (a:=a) (xs:=xs) (fun q=>by have:=Heap.lt_size hl;rw [q]at this;exact Nat.lt_irrefl _ this))
   ⟨hr,0,⟨_,Heap.get?_push_size _ rfl,rfl,rfl⟩,rfl,Nat.zero_le _⟩ (fun b hb=> ?_) dS
  rw [mem_singleton.mp hb]
  exact⟨hfresh,fun hm=>let⟨o,ho,_⟩:=(dT.fr.own (B:=B)).obj _ hm;absurd (Heap.lt_size ho) (Nat.lt_irrefl _)⟩
theorem Eu{e:Ex}(h:t9 B n e σ fun a σ=>match a with
  | .lst k=>D9 (fun xs=>Q (S6 0 xs) (fun σ=>σ.lists[k]? =some xs) σ) σ.lists[k]?
  | .tup xs=>Q (S6 0 xs) (fun _=>True) σ
  |_=>False):CK B n (.enum e) σ Q:=fun G hG C tg t hst hc W s A E Z hA hR hZ=>by
 obtain⟨eS,fI,rfl⟩:∃i j,tg= .two i j:=by
  cases tg with
  |one i=>exact ft hst
  |two i j=>exact⟨i,j,rfl⟩
 replace hc:=Cj hc
 obtain⟨f,x',p',rfl,hc⟩:=hc
 refine DO hG hc.1 (g9 hG e hc.2 h) hR hA (t7 hc.2 [] _) (fun _ e=>by exact T6 (·.ctorIdx) e rfl) fun va dR dX av dU dW dT dZ dS=> ?_
 rcases YS dS with⟨k,ee,dS⟩ |⟨xs,ee,dS⟩
 ·subst ee
  obtain⟨xs,hk,dS⟩:=j5 dS
  obtain⟨a,vals,n',rfl,hr,hl,hvs⟩:=dT.rl.list dZ hk
  have hfresh:=dT.rl.fresh (Nat.le_refl dR.heap.objs.size)
  have hfresh':=dT.rl.fresh (Nat.le_succ dR.heap.objs.size)
  refine call_enumerate_list ⟨_,hl,rfl,_,rfl⟩ fun h' he hi hz hk'=>wpAny_pyIter_enum he ?_
  have hal:=Heap.lt_size hl
  have own_lt:∀a∈d5 C,a<dR.heap.objs.size:=fun a ha=>let⟨o,ho,_⟩:=(dT.fr.own (B:=B)).obj a ha;Heap.lt_size ho
  refine hZ (dR.heap.objs.size+1) [dR.heap.objs.size+1,dR.heap.objs.size] _ _ (S6 0 xs) dX dU _ dW (dT.grow hk' rfl rfl)
   (NL (k:=k) (a:=a) (xs:=xs) (Nat.succ_ne_self _) (Nat.ne_of_lt hal) (Nat.ne_of_lt (Nat.lt_succ_of_lt hal))) ⟨hr,0,_,he,hi,rfl,Nat.zero_le _⟩ (fun b hb=> ?_) dS
  rcases mem_cons.mp hb with rfl |hb
  ·exact⟨hfresh',fun hm=>absurd (own_lt _ hm) (Nat.not_lt.mpr (Nat.le_succ _))⟩
  ·rw [mem_singleton.mp hb]
   exact⟨hfresh,fun hm=>absurd (own_lt _ hm) (Nat.lt_irrefl _)⟩
 ·subst ee
  obtain⟨t,o,arr,rfl,hK,hT,hvs⟩:=dZ
  have htup:dR.heap.IsTuple t arr.toArray:=⟨o,dT.rl.keep _ _ hK,hT.1,hT.2⟩
  have hfresh:=dT.rl.fresh (Nat.le_refl dR.heap.objs.size)
  have hfresh':=dT.rl.fresh (Nat.le_succ dR.heap.objs.size)
  refine Y8 htup fun h' he hi hz hk'=>wpAny_pyIter_enum he ?_
  have hal:t<dR.heap.objs.size:=Heap.lt_size (dT.rl.keep _ _ hK)
  have own_lt:∀a∈d5 C,a<dR.heap.objs.size:=fun a ha=>let⟨o,ho,_⟩:=(dT.fr.own (B:=B)).obj a ha;Heap.lt_size ho
  refine hZ (dR.heap.objs.size+1) [dR.heap.objs.size+1,dR.heap.objs.size] _ _ (S6 0 xs) dX dU _ dW (dT.grow hk' rfl rfl)
   (LR (t:=t) (fZ:=o) (arr:=arr) (xs:=xs) (Nat.succ_ne_self _) (Nat.ne_of_lt hal) (Nat.ne_of_lt (Nat.lt_succ_of_lt hal))) ⟨hK,hT,hvs,0,_,he,hi,rfl,Nat.zero_le _⟩ (fun b hb=> ?_) dS
  rcases mem_cons.mp hb with rfl |hb
  ·exact⟨hfresh',fun hm=>absurd (own_lt _ hm) (Nat.not_lt.mpr (Nat.le_succ _))⟩
  ·rw [mem_singleton.mp hb]
   exact⟨hfresh,fun hm=>absurd (own_lt _ hm) (Nat.lt_irrefl _)⟩
theorem Rm{e:Ex}(h:t9 B n e σ fun a σ=>match a with
  | .lst k=>D9 (fun xs=>Q xs.reverse (fun σ=>σ.lists[k]? =some xs) σ) σ.lists[k]?
  |_=>False):CK B n (.rev e) σ Q:=fun G hG C tg t hst hc W s A E Z hA hR hZ=>by
 refine f8 (Jn hst rfl) fun eS ee1=> ?_
 subst ee1
 replace hc:=Cj hc
 obtain⟨f,x',p',rfl,hc⟩:=hc
 refine DO hG hc.1 (g9 hG e hc.2 h) hR hA (t7 hc.2 [] _) (fun _ e=>by exact T6 (·.ctorIdx) e rfl) fun va dR dX av dU dW dT dZ dS=> ?_
 refine a9 (Vf dS) fun k ee dS=> ?_
 ·subst ee
  obtain⟨xs,hk,dS⟩:=j5 dS
  obtain⟨a,vals,n',rfl,hr,hl,hvs⟩:=dT.rl.list dZ hk
  have hlen:=hvs.length
  have hfresh:=dT.rl.fresh (Nat.le_refl dR.heap.objs.size)
  have hrev:Heap.IsRevIter (dR.heap.push (revObj a ((vals.toArray.size:Int)-1))) dR.heap.objs.size a ((xs.length:Int)-1):=by
   refine⟨_,Heap.get?_push_size _ rfl,rfl,?_⟩
   rw [size_toArray,hlen];rfl
  refine call_reversed_list (items:=vals.toArray) ⟨_,hl,rfl,_,rfl⟩ (wpAny_pyIter_revIter hrev ?_)
  refine hZ dR.heap.objs.size [dR.heap.objs.size] _ _ xs.reverse dX dU _ dW (dT.grow (fun b o e=>Heap.get?_push_of_some _ e) rfl rfl) (QP (k:=k) (a:=a) (xs:=xs))
   ⟨hr,xs.length,hrev,by(rw [take_length];rfl),Nat.le_refl _⟩ (fun b hb=> ?_) dS
  rw [mem_singleton.mp hb]
  exact⟨hfresh,fun hm=>let⟨o,ho,_⟩:=(dT.fr.own (B:=B)).obj _ hm;absurd (Heap.lt_size ho) (Nat.lt_irrefl _)⟩
theorem Mb{a b:Ex}(h:t9 B n a σ (IE fun a σ=>t9 B n b σ (IE fun b σ=> -(2^60)<=a∧a<=2^60∧ -(2^60)<=b∧b<=2^60∧Q (o2 a b) (fun _=>True) σ))):CK B n (.range a b) σ Q:=fun G hG C tg t hst hc W s A E Z hA hR hZ=>by
 refine f8 (Jn hst rfl) fun eS ee1=> ?_
 subst ee1
 replace hc:=LO hc
 obtain⟨f,x',y',p',rfl,hc⟩:=hc
 have he:eval (.Call f [x',y'] [] p') C.env=(do callWith p' (←eval f C.env) [] (backTo p' [(false,eval x' C.env),(false,eval y' C.env)]) []):=by
  rw [show [(false,eval x' C.env),(false,eval y' C.env)]=starEach [x',y'] C.env from by rewrite [t7 hc.2.1,t7 hc.2.2];rfl]
  exact Cg hc.1
 rw [he]
 refine wpAny_bind (G2 hG hR hc.1 ?_)
 refine y0 (fun a ha=>by
   rcases mem_cons.mp ha with rfl |ha
   ·rfl
   ·(rw [mem_singleton.mp ha];rfl)) rfl (spliced_cons (g9 hG a hc.2.1 h W s A _ _ hA hR fun va dR dX av dU dW dT dZ dS=> ?_))
 obtain⟨a,rfl,dS⟩:=T3 dS
 refine spliced_cons (g9 hG b hc.2.2 dS dX dR A _ _ hA dT fun vb dY eE bv eD eF eA eH eC=>spliced_nil (wpAny_pure ⟨(fun _ e=>by exact T6 (·.ctorIdx) e rfl),?_⟩))
 obtain⟨b,rfl,eC⟩:=T3 eC
 obtain⟨t,rfl⟩:=dZ
 obtain⟨u,rfl⟩:=eH
 exact call_range_2 (HV eA (Wd.le_trans dW eF) eC.1 eC.2.1 eC.2.2.1 eC.2.2.2.1 eC.2.2.2.2 hZ)
theorem C6{e:Ex}(h:t9 B n e σ (IE fun b σ=> -(2^60)<=b∧b<=2^60∧Q (o2 0 b) (fun _=>True) σ)):CK B n (.range1 e) σ Q:=fun G hG C tg t hst hc W s A E Z hA hR hZ=>by
 refine f8 (Jn hst rfl) fun eS ee1=> ?_
 subst ee1
 replace hc:=Cj hc
 obtain⟨f,x',p',rfl,hc⟩:=hc
 refine DO hG hc.1 (g9 hG e hc.2 h) hR hA (t7 hc.2 [] _) (fun _ e=>by exact T6 (·.ctorIdx) e rfl) fun va dR dX av dU dW dT dZ dS=> ?_
 obtain⟨b,rfl,dS⟩:=T3 dS
 obtain⟨t,rfl⟩:=dZ
 exact call_range_1 (HV dT dW (by decide) (by decide) dS.1 dS.2.1 dS.2.2 hZ)
end
end
end
section
open PySem PySem.Calls PyProof.Rows
set_option maxRecDepth 4000
set_option maxHeartbeats 4000000
noncomputable def Cn(e:Expr):Bool:=Nat.ble 14 (vw e).tag&&Nat.ble (vw e).tag 16
noncomputable def MW(e:Expr):Bool:= !is e 10 || (!((vw e).es.all (constantsAlone 8))&& !((vw e).es.any fun | .Starred .. =>true |_=>false))
set_option genInjectivity false
set_option genSizeOf false
structure Vs where
 tag:Nat
 p:Pos
 ts:List Expr
 a:Expr
 b:Expr
 op:Operator
 o:Option Expr
 xs:List Stmt
 ys:List Stmt
noncomputable def Qd:Vs:=⟨20,WT,[],Ux,Ux,.Add,none,[],[]⟩
noncomputable def vs:Stmt->Vs
 | .Assign ts a p=>{Qd with tag:=1,ts:=ts,a:=a,p:=p}
 | .AugAssign b op a p=>{Qd with tag:=2,b:=b,op:=op,a:=a,p:=p}
 | .Expr a p=>{Qd with tag:=3,a:=a,p:=p}
 | .Return o p=>{Qd with tag:=4,o:=o,p:=p}
 | .If a xs ys p=>{Qd with tag:=5,a:=a,xs:=xs,ys:=ys,p:=p}
 | .While a xs ys p=>{Qd with tag:=6,a:=a,xs:=xs,ys:=ys,p:=p}
 | .For b a xs ys p=>{Qd with tag:=7,b:=b,a:=a,xs:=xs,ys:=ys,p:=p}
 | .Raise .. =>{Qd with tag:=8}
 |_=>Qd
noncomputable def RO(v:Vs)(t:Nat):Stmt:=match t with
 |1=> .Assign v.ts v.a v.p
 |2=> .AugAssign v.b v.op v.a v.p
 |3=> .Expr v.a v.p
 |4=> .Return v.o v.p
 |5=> .If v.a v.xs v.ys v.p
 |6=> .While v.a v.xs v.ys v.p
 |7=> .For v.b v.a v.xs v.ys v.p
 |_=> .Pass v.p
noncomputable def Mk(e:Stmt)(t:Nat):Bool:=Nat.beq (vs e).tag t
theorem Pl(e:Stmt):Nat.blt (vs e).tag 8=true->e=RO (vs e) (vs e).tag:=by
 cases e<;>first |exact fun _=>rfl |exact fun h=>Bool.noConfusion h
theorem Pp{e:Stmt}{t:Nat}(h:Mk e t=true)(hb:Nat.blt t 8=true):e=RO (vs e) t:=by
 have h:=Nat.eq_of_beq_eq_true h
 subst h
 exact Pl e hb
section
variable(G:List (Str×Value))(Γ:List Str)
mutual
noncomputable def Bh:Bool->Scope->Stmt->Sm->Bool
 |mi,sc,s,.asg i e=>Mk s 1&&((!Cn (vs s).a ||Do e)&&(d6 G Γ mi sc (vs s).a e&&(Bc (vs s).ts).any fun x=>is x 1&&A1 Γ sc mi (vw x).id i))
 |mi,sc,s,.asg2 i j e=>Mk s 1&&(d6 G Γ mi sc (vs s).a e&&(HK (vs s).ts).any fun x=>is x.1 1&&(is x.2 1&&(A1 Γ sc mi (vw x.1).id i&&A1 Γ sc mi (vw x.2).id j)))
 |mi,sc,s,.unp i j e=>Mk s 1&&(MW (vs s).a&&(d6 G Γ mi sc (vs s).a e&&(Bc (vs s).ts).any fun y=>BI Γ sc mi y (.two i j)))
 |mi,sc,s,.seti o' i' e=>Mk s 1&&(d6 G Γ mi sc (vs s).a e&&(Bc (vs s).ts).any fun y=>is y 8&&(!BS (vw y).b&&(d6 G Γ mi sc (vw y).a o'&&d6 G Γ mi sc (vw y).b i')))
 |mi,sc,s,.aug i o e=>Mk s 2&&((vs s).op==o.to&&(d6 G Γ mi sc (vs s).a e&&(is (vs s).b 1&&(Da Γ sc (vw (vs s).b).id i&&A1 Γ sc mi (vw (vs s).b).id i))))
 |mi,sc,s,.expr e=>Mk s 3&&(!Cn (vs s).a&&d6 G Γ mi sc (vs s).a e)
 |_,_,s,.bad=>Mk s 8
 |mi,sc,s,.ret e=>Mk s 4&&(vs s).o.elim (K4 e) fun v=>d6 G Γ mi sc v e
 |mi,sc,s,.ite c' a' b'=>Mk s 5&&(d6 G Γ mi sc (vs s).a c'&&(l9 mi sc (vs s).xs a'&&l9 mi sc (vs s).ys b'))
 |mi,sc,s,.while c' a'=>Mk s 6&&((vs s).ys.isEmpty&&(d6 G Γ mi sc (vs s).a c'&&l9 mi sc (vs s).xs a'))
 |mi,sc,s,.for tg src a'=>Mk s 7&&((vs s).ys.isEmpty&&(BI Γ sc mi (vs s).b tg&&(DA src tg&&(!X9 (vs s).a&&(EM G Γ mi sc (vs s).a src&&l9 mi sc (vs s).xs a')))))
noncomputable def l9:Bool->Scope->List Stmt->o7->Bool
 |_,_,ss,.nil=>ss.isEmpty
 |mi,sc,ss,.cons x t=>(Gd ss).any fun u=>Bh mi sc u.1 x&&l9 mi sc u.2 t
end
end
section
variable{B:Bs}{n:Nat}{G:List (Str×Value)}
theorem CR{v:Expr}(h:Cn v=false)(t:Option Expr)(l:Nat)(env:Env):swapsWith v t l env=pure false:=by
 unfold swapsWith
 cases v<;>first |rfl | (exact tf h)
theorem JL{W:Wd}{ls:Ls}{s:Shared}(h:RL B W ls s){k:Nat}{va vb:Value}{xs:List AV}{j:Int}{av:AV}{v:Value}(ha:VR W (.lst k) va)(hb:VR W (.int j) vb)(hk:ls[k]? =some xs)(h0:0<=j)(h1:j<xs.length)(hlen:xs.length<=1000000)(hv:VR W av v){A:Around}{E:Value->Shared->Prop}
  {Z:Unit->Shared->Prop} (hZ:∀s',RL B W (ls.set k (xs.set j.toNat av)) s'->Z () s'):wpAny (model B.prog B.w) A (setItem va vb v) Z E s:=by
 refine r5 (h.list ha hk) fun a vals n' ee3 hr hl hvs=> ?_
 subst ee3
 refine f8 hb fun t ee1=> ?_
 clear hb
 subst ee1
 have hln:=hvs.length
 have hj:j.toNat<vals.length:=by lia
 refine PySem.W.ki_setAt hl h0 (by lia) (by simp only [size_toArray];lia) (hZ _ (h.setL hr (Heap.SameBut.update ..).extBut (vals:=vals.set j.toNat v) ⟨n',?_⟩ ?_ rfl rfl))
 ·have:=PySem.IsL.update hl (fun x=>x.setIfInBounds j.toNat v)
  simpa using this
 ·refine l5.of_get (by simp [hln]) fun i a' v' e1 e2=> ?_
  by_cases hi:j.toNat=i
  ·subst hi
   rw [getElem?_set_self (by(first |exact XW ‹_› ‹_› |assumption))]at e1 e2
   (replace e1:=Option.some.inj e1;subst e1);(replace e2:=Option.some.inj e2;subst e2);exact hv
  ·rw [getElem?_set_ne hi]at e1 e2
   refine a9 (hvs.get i e1) fun v'' g1 g2=> ?_
   rw [e2]at g1;(replace g1:=Option.some.inj g1;subst g1);exact g2
theorem QO{W:Wd}{ls:Ls}{s:Shared}{Q:AV->Ls->Prop}(h:RL B W ls s){o:HC}{a b:Int}{va vb:Value}(ha:VR W (.int a) va)(hb:VR W (.int b) vb)(hq:O8 o (.int a) (.int b) ls Q):TL B n VR (inplaceOp o.to va vb) W s Q:=by
 intro A E Z hA hZ
 obtain⟨t,rfl⟩:=ha;obtain⟨u,rfl⟩:=hb
 cases o with
 |add=>exact PyProof.Rows.iadd_int (hZ _ _ W _ ls W.le_refl (h.same rfl rfl rfl) (E1 _ _) hq)
 |sub=>exact PyProof.Rows.isub_int (hZ _ _ W _ ls W.le_refl (h.same rfl rfl rfl) (E1 _ _) hq)
 |mul=>exact PyProof.Rows.imul_int (hZ _ _ W _ ls W.le_refl (h.same rfl rfl rfl) (E1 _ _) hq.2) hq.1
 |fdiv=>exact PyProof.Rows.ifloordiv_int hq.1 (hZ _ _ W _ ls W.le_refl (h.same rfl rfl rfl) (E1 _ _) hq.2.2) (.inl hq.2.1)
 |mod=>exact PyProof.Rows.imod_int hq.1 (hZ _ _ W _ ls W.le_refl (h.same rfl rfl rfl) (E1 _ _) hq.2)
 |pow=>exact PyProof.Rows.ipow_int hq.1 hq.2.1 (hZ _ _ W _ ls W.le_refl (h.same rfl rfl rfl) (E1 _ _) hq.2.2)
 |shl=>exact PyProof.Rows.ilshift_int hq.1 hq.2.1 (hZ _ _ W _ ls W.le_refl (h.same rfl rfl rfl) (E1 _ _) hq.2.2)
 |shr=>exact PyProof.Rows.irshift_int hq.1 (hZ _ _ W _ ls W.le_refl (h.same rfl rfl rfl) (E1 _ _) hq.2)
 |and=>exact PyProof.Rows.iand_int (hZ _ _ W _ ls W.le_refl (h.same rfl rfl rfl) (E1 _ _) hq)
 |or=>exact PyProof.Rows.ior_int (hZ _ _ W _ ls W.le_refl (h.same rfl rfl rfl) (E1 _ _) hq)
 |xor=>exact PyProof.Rows.ixor_int (hZ _ _ W _ ls W.le_refl (h.same rfl rfl rfl) (E1 _ _) hq)
theorem Ph{C:FC}{σ:St}{elt t iter:Expr}{cs:Scope}{p q:Pos}{tg:Tg}{e':St->(AV->St->Prop)->Prop}{keep:List Nat}{Q:AV->St->Prop}{id:Str}{i:Nat}
  (hmine:C.mine=true) (kind:cs.kind= .function) (ht:BI C.Γ (relabel cs C.env) false t tg=true) (hco:U2 C.env.scope cs=true) (hkeep:EK C.Γ (relabel cs C.env) keep=true) (hset:X9 iter=false)
  (helt:∀L σ Q,e' σ Q->T B n (B6 cs C L) VR (eval elt (B6 cs C L).env) σ Q) (hown:A1 C.Γ C.env.scope C.mine id i=true)
  (hsrc:TG B n C tg iter σ fun items ok σ=>W0 ok tg σ.lists.length e' items {vars:=X6 keep 0 σ.vars,lists:=σ.lists++[[]]} fun eG=>Q (.lst σ.lists.length) {σ with lists:=eG.lists})
  {W:Wd} {s:Shared} {A:Around} {E:Value->Shared->Prop} {Z:Unit->Shared->Prop} (hA:Br n A) (hR:R B W C σ s)
  (hZ:∀s' W' v eG,W.le W'->R B W' C (eG.setv i v) s'->Q v eG->Z () s'):
  wpAny (model B.prog B.w) A (evalThenUse (.ListComp elt [⟨t,iter,[],0⟩] cs p) C.env fun v=>assignAll v ((assignEach [.Name id q] C.env).map (·.2))) Z E s:=by
 show wpAny _ _ (comprehension (.ListComp elt [⟨t,iter,[],0⟩] cs p) cs C.env iter.pos (newList []) false (eval iter C.env) (some fun v=>assign (.Name id q) C.env v)>>=fun _=>pure ()) _ _ _
 refine wpAny_bind (wpAny_comprehension_free rfl (fun x=>M9 hset x) (Km (Fu hR.fr hmine hco)) kind (DC hco) ?_)
 refine hsrc W s A E _ hA hR fun I S P ok items dX dU dR dW dT hit hP hS hf=> ?_
 refine En dT hA hmine kind ht hco hkeep hit hP hS helt hf fun acc L s' W' eG hl hr hv hq hns hK hLo hLb hLr hLW=> ?_
 refine f8 hns fun m hm=> ?_
 clear hns
 refine a9 hK fun o hKo rr5=> ?_
 clear hK
 obtain⟨es,ep,hd⟩:=rr5
 have hO:Wb o:=⟨(fun x n e=>by rw [hd]at e;exact T6 (·.ctorIdx) e rfl),.inl fun vs e=>by rw [hd]at e;exact T6 (·.ctorIdx) e rfl⟩
 have U:CM B W' [L]:=fun a ha=>by
  rw [mem_singleton.mp ha]
  exact⟨hLb,fun o' e=>by rw [hKo]at e;(replace e:=Option.some.inj e;subst e);exact hO⟩
 have hle:dX.le (W'.unf [L]):=by
  refine⟨fun a o' e=> ?_,hl.2⟩
  show(if a∈[L]then _ else W'.K a)=_
  have:=hl.1 a o' e
  rewrite [if_neg (fun ha=> ?_)]
  ·exact this
  ·rw [mem_singleton.mp ha,hLW]at e;exact on e
 refine L0 hr hown hv fun s'' h''=> ?_
 refine r5 hm fun oN esN epN hoN hdN hskN hfN=> ?_
 clear hm
 have e1:=hr.rl.keep _ _ hKo
 rw [hoN]at e1
 (replace e1:=(Option.some.inj e1).symm;subst e1)
 refine⟨m,⟨o,esN,epN,h''.rl.keep _ _ hKo,hdN,hskN,hfN⟩,fun h' hs=>wpAny_pure ?_⟩
 have r':=h''.unf U fun a ha o' v e hc=>by
  rw [mem_singleton.mp ha,hKo]at e;(replace e:=Option.some.inj e;subst e)
  rw [hd]at hc;exact T6 (·.ctorIdx) hc rfl
 refine hZ _ (W'.unf [L]) _ eG (Wd.le_trans dW hle) (r'.ext (S:=[L]) ⟨fun a ha=> ?_,fun a ha=> ?_⟩ (fun a ha=>by rw [mem_singleton.mp ha];exact hLo) ⟨fun b o e hb=>hs.extBut b o (fun q=>e (by simp [q])) hb,rfl,rfl⟩) hq
 ·rw [mem_singleton.mp ha]
  exact⟨by show(if L∈[L]then _ else _)=_;(rw [if_pos (.head _)];rfl),hLr⟩
 ·rw [mem_singleton.mp ha]
  exact⟨o,h''.rl.keep _ _ hKo,hO⟩
end
section
variable{B:Bs}{n:Nat}{G:List (Str×Value)}{Γ:List Str}{mi:Bool}{sc:Scope}{st:Stmt}
theorem JD{l:List Expr}{x:Expr}{t:Nat}(h:Bc l=some x)(h1:is x t=true)(hb:Nat.blt t 15=true):l=[Ni (vw x) t]:=(V2 h).trans (congrArg (fun a=>[a]) (un h1 hb))
theorem OS{i:Nat}{e:Ex}(h:Bh G Γ mi sc st (.asg i e)=true):∃id p v q,st= .Assign [.Name id p] v q∧A1 Γ sc mi id i=true∧(Cn v=true->Do e=true)∧d6 G Γ mi sc v e=true:=by
 refine b7 (b9 h) fun h1 h=> ?_
 refine b7 (b9 h) fun h2 h=> ?_
 refine b7 (b9 h) fun h3 h=> ?_
 refine a9 (W7 h) fun x h4 h=> ?_
 exact⟨(vw x).id,(vw x).p,_,_,(Pp h1 rfl).trans (congrArg (fun l=>Stmt.Assign l (vs st).a (vs st).p) (JD h4 (b9 h).1 rfl)),(b9 h).2,fun c=>by rw [c]at h2;exact h2,h3⟩
theorem PN{i j:Nat}{e:Ex}(h:Bh G Γ mi sc st (.asg2 i j e)=true):∃a p b q v r,st= .Assign [.Name a p,.Name b q] v r∧A1 Γ sc mi a i=true∧A1 Γ sc mi b j=true∧d6 G Γ mi sc v e=true:=by
 refine b7 (b9 h) fun h1 h=> ?_
 refine b7 (b9 h) fun h3 h=> ?_
 refine a9 (W7 h) fun x h4 h=> ?_
 refine b7 (b9 h) fun h5 h=> ?_
 refine b7 (b9 h) fun h6 h=> ?_
 have e1:(vs st).ts=[.Name (vw x.1).id (vw x.1).p,.Name (vw x.2).id (vw x.2).p]:=(V1 h4).trans (congr (congrArg List.cons (un h5 rfl)) (congrArg (fun b=>[b]) (un h6 rfl)))
 exact⟨_,_,_,_,_,_,by rw [←e1];exact Pp h1 rfl,(b9 h).1,(b9 h).2,h3⟩
theorem Up{i j:Nat}{e:Ex}(h:Bh G Γ mi sc st (.unp i j e)=true):∃a p b q k r v u,st= .Assign [.Tuple [.Name a p,.Name b q] k r] v u∧A1 Γ sc mi a i=true∧A1 Γ sc mi b j=true∧(a==b)=false∧MW v=true∧d6 G Γ mi sc v e=true:=by
 refine b7 (b9 h) fun h1 h=> ?_
 refine b7 (b9 h) fun h2 h=> ?_
 refine b7 (b9 h) fun h3 h=> ?_
 refine a9 (W7 h) fun y h4 h=> ?_
 refine b7 (b9 h) fun h5 h=> ?_
 refine a9 (W7 h) fun x h6 h=> ?_
 refine b7 (b9 h) fun h7 h=> ?_
 refine b7 (b9 h) fun h8 h=> ?_
 have e1:(vw y).es=[.Name (vw x.1).id (vw x.1).p,.Name (vw x.2).id (vw x.2).p]:=(V1 h6).trans (congr (congrArg List.cons (un h7 rfl)) (congrArg (fun b=>[b]) (un h8 rfl)))
 have e2:(vs st).ts=[.Tuple (vw y).es (vw y).k (vw y).p]:=JD h4 h5 rfl
 exact⟨_,_,_,_,_,_,_,_,by rw [←e1,←e2];exact Pp h1 rfl,(b9 h).1,(b9 (b9 h).2).1,AC (b9 (b9 h).2).2,h2,h3⟩
theorem Qy{o' i' e:Ex}(h:Bh G Γ mi sc st (.seti o' i' e)=true):∃o i p v q,st= .Assign [.Subscript o i p] v q∧BS i=false∧d6 G Γ mi sc v e=true∧d6 G Γ mi sc o o'=true∧d6 G Γ mi sc i i'=true:=by
 refine b7 (b9 h) fun h1 h=> ?_
 refine b7 (b9 h) fun h3 h=> ?_
 refine a9 (W7 h) fun y h4 h=> ?_
 refine b7 (b9 h) fun h5 h=> ?_
 have e2:(vs st).ts=[.Subscript (vw y).a (vw y).b (vw y).p]:=JD h4 h5 rfl
 exact⟨_,_,_,_,_,by rw [←e2];exact Pp h1 rfl,AC (b9 h).1,h3,b9 (b9 h).2⟩
theorem Um{i:Nat}{o:HC}{e:Ex}(h:Bh G Γ mi sc st (.aug i o e)=true):∃id p v q,st= .AugAssign (.Name id p) o.to v q∧Da Γ sc id i=true∧A1 Γ sc mi id i=true∧d6 G Γ mi sc v e=true:=by
 refine b7 (b9 h) fun h1 h=> ?_
 refine b7 (b9 h) fun h2 h=> ?_
 refine b7 (b9 h) fun h3 h=> ?_
 refine b7 (b9 h) fun h4 h=> ?_
 have e2:(vs st).b= .Name (vw (vs st).b).id (vw (vs st).b).p:=un h4 rfl
 exact⟨_,_,_,_,by rw [←e2,←eq_of_beq h2];exact Pp h1 rfl,(b9 h).1,(b9 h).2,h3⟩
theorem QR{e:Ex}(h:Bh G Γ mi sc st (.expr e)=true):∃v p,st= .Expr v p∧Cn v=false∧d6 G Γ mi sc v e=true:=⟨_,_,Pp (b9 h).1 rfl,AC (b9 (b9 h).2).1,(b9 (b9 h).2).2⟩
theorem OO{e:Ex}(h:Bh G Γ mi sc st (.ret e)=true):(∃p,st= .Return none p∧e= .none)∨∃v p,st= .Return (some v) p∧d6 G Γ mi sc v e=true:=by
 refine b7 (b9 h) fun h1 h=> ?_
 have h1:st= .Return (vs st).o (vs st).p:=Pp h1 rfl
 cases ho:(vs st).o with
 |none=>rw [ho]at h h1;exact .inl ⟨_,h1,Ee h⟩
 |some v=>rw [ho]at h h1;exact .inr ⟨v,_,h1,h⟩
theorem Te{c':Ex}{a' b':o7}(h:Bh G Γ mi sc st (.ite c' a' b')=true):∃c a b p,st= .If c a b p∧d6 G Γ mi sc c c'=true∧l9 G Γ mi sc a a'=true∧l9 G Γ mi sc b b'=true:=
 ⟨_,_,_,_,Pp (b9 h).1 rfl,(b9 (b9 h).2).1,b9 (b9 (b9 h).2).2⟩
theorem On{c':Ex}{a':o7}(h:Bh G Γ mi sc st (.while c' a')=true):∃c a p,st= .While c a [] p∧d6 G Γ mi sc c c'=true∧l9 G Γ mi sc a a'=true:=by
 refine b7 (b9 h) fun h1 h=> ?_
 refine b7 (b9 h) fun h2 h=> ?_
 exact⟨_,_,_,by rw [←N5 h2];exact Pp h1 rfl,b9 h⟩
theorem SY{tg:Tg}{src:Oy}{a':o7}(h:Bh G Γ mi sc st (.for tg src a')=true):∃t iter a p,st= .For t iter a [] p∧BI Γ sc mi t tg=true∧DA src tg=true∧X9 iter=false∧EM G Γ mi sc iter src=true∧l9 G Γ mi sc a a'=true:=by
 refine b7 (b9 h) fun h1 h=> ?_
 refine b7 (b9 h) fun h2 h=> ?_
 refine b7 (b9 h) fun h3 h=> ?_
 refine b7 (b9 h) fun h4 h=> ?_
 refine b7 (b9 h) fun h5 h=> ?_
 exact⟨_,_,_,_,by rw [←N5 h2];exact Pp h1 rfl,h3,h4,AC h5,b9 h⟩
theorem OV{x:Sm}{t:o7}{ss:List Stmt}(h:l9 G Γ mi sc ss (.cons x t)=true):∃s r,ss=s::r∧Bh G Γ mi sc s x=true∧l9 G Γ mi sc r t=true:=by
 refine a9 (W7 h) fun u h1 h2=> ?_
 exact⟨_,_,Z3 h1,b9 h2⟩
theorem KI{α:Type}{c:Prop} [Decidable c]{x y a:α}(h:a=x∨a=y):(if c then x else a)=x∨(if c then x else a)=y:=by
 by_cases e:c
 ·rw [if_pos e];exact .inl rfl
 ·rw [if_neg e];exact h
@[reducible] def Q2(a b:Str)(p q r:Pos)(k:Nat)(env:Env):Prop:=∀{v:Expr}(h:MW v=true),swappedStores [.Tuple [.Name a p,.Name b q] k r] v env=pure none∨swappedStores [.Tuple [.Name a p,.Name b q] k r] v env=pure (some [a,b])
noncomputable def W2:Ue:=ee fun u=>Q2 (u.t 0) (u.t 1) (u.p 0) (u.p 1) (u.p 2) (u.n 0) (u.env 0)
set_option tactic.hygienic true in
theorem C2:Q2 (W2.t 0) (W2.t 1) (W2.p 0) (W2.p 1) (W2.p 2) (W2.n 0) (W2.env 0):=by
 intro v h
 unfold swappedStores
 cases v<;>try exact .inl rfl
 rename_i vs _ _
 replace h:=b9 h
 dsimp only
 refine KI ?_
 refine KI ?_
 rw [show vs.all (constantsAlone 8)=false from AC h.1]
 by_cases c1:((W2.env 0).kindOf (W2.t 0)==some NameKind.local&&(W2.p 0).line==((([Expr.Name (W2.t 0) (W2.p 0),Expr.Name (W2.t 1) (W2.p 1)]).head?.map (·.pos.line)).getD 0))=true<;>
 by_cases c2:((W2.env 0).kindOf (W2.t 1)==some NameKind.local&&(W2.p 1).line==((([Expr.Name (W2.t 0) (W2.p 0),Expr.Name (W2.t 1) (W2.p 1)]).head?.map (·.pos.line)).getD 0))=true<;>
 simp only [filterMap_cons,c1,c2,if_true,List.filterMap_nil]
 ·refine KI ?_
  refine KI ?_
  exact .inr rfl
 ·exact .inl rfl
 ·exact .inl rfl
 ·exact .inl rfl
theorem IV{a b:Str}{p q r:Pos}{k:Nat}{env:Env}:Q2 a b p q r k env:=by with_unfolding_all exact hk (q:=fun u:Ue=>Q2 (u.t 0) (u.t 1) (u.p 0) (u.p 1) (u.p 2) (u.n 0) (u.env 0)) C2 (.mk W2.b [] [] [] [] [] [] [] [k] [] [p,q,r] [] [] [a,b] [] [] [] [] [] [] [] [] [env] [] [] [] [] [] [] [] [] [] [] [] [] [] [] W2.pr [] [])
end
end
section
open PySem PySem.Calls PyProof.Rows
set_option linter.unusedVariables false
set_option maxRecDepth 4000
set_option maxHeartbeats 4000000
section
variable{B:Bs}{n:Nat}{G:List (Str×Value)}
theorem QQ{W:Wd}{C:FC}{σ:St}{s:Shared}{A:Around}{E:Value->Shared->Prop}(h:R B W C σ s){id:Str}{i:Nat}{a:AV}(hc:Da C.Γ C.env.scope id i=true)(hi:σ.vars[i]? =some (some a)){Z:Value->Shared->Prop}(hZ:∀v,VR W a v->Z v s):
  wpAny (model B.prog B.w) A (loadName C.env id) Z E s:=by
 unfold Da at hc
 simp only [Bool.and_eq_true,beq_iff_eq,Bool.not_eq_true']at hc
 refine b7 hc fun ee0 h4=> ?_
 clear hc
 obtain⟨⟨h1,h2⟩,h3⟩:=ee0
 refine a9 (h.fr.ns) fun m hm hv=> ?_
 refine a9 (hv i id a h1 hi) fun v g b=> ?_
 have h4':(id==("__classdict__":Str))=false:=h4
 rcases b with⟨hk,hb⟩ |⟨hk,c,hb,hcell⟩
 ·exact wpAny_loadName_local h.fr.kind hk hm hb (hZ v g)
 ·rcases hk with hk |hk
  ·exact wpAny_loadName_cell h.fr.kind hk hb hcell (hZ v g)
  ·exact wpAny_loadName_free h.fr.kind hk hb hcell (hZ v g) h4'
theorem Ic{W:Wd}{C:FC}{vars:List (Option AV)}{h:Heap}(F:FR W C vars h):interactive C.env=false:=by
 unfold interactive
 rw [F.kind];rfl
theorem Mf{elt:Expr}{gs:List Comprehension}{cs:Scope}{p q:Pos}{id:Str}{l:Nat}{env:Env}:∃c:Bool,swapsWith (.ListComp elt gs cs p) (some (.Name id q)) l env=pure c:=⟨_,rfl⟩
def GD(B:Bs)(n:Nat)(x:Sm)(σ:St)(Q:Fl->St->Prop):Prop:=∀G,i7 B G->∀(C:FC)(st:Stmt),Bh G C.Γ C.mine C.env.scope st x=true->T B n C SV (exec st C.env) σ Q
def d9(B:Bs)(n:Nat)(xs:o7)(σ:St)(Q:Fl->St->Prop):Prop:=∀G,i7 B G->∀(C:FC)(ss:List Stmt),l9 G C.Γ C.mine C.env.scope ss xs=true->T B n C SV (execs ss C.env) σ Q
theorem Ly(x:o7){σ:St}{Q Q':Fl->St->Prop}(h:d9 B n x σ Q)(hk:∀v σ,Q v σ->Q' v σ):d9 B n x σ Q':=fun G hG C e hc=>(h G hG C e hc).mono hk
theorem Oq(hG:i7 B G)(x:Sm){C:FC}{st:Stmt}{σ:St}{Q:Fl->St->Prop}(h:Bh G C.Γ C.mine C.env.scope st x=true)(hq:GD B n x σ Q):T B n C SV (exec st C.env) σ Q:=hq G hG C st h
theorem R9(hG:i7 B G)(xs:o7){C:FC}{ss:List Stmt}{σ:St}{Q:Fl->St->Prop}(h:l9 G C.Γ C.mine C.env.scope ss xs=true)(hq:d9 B n xs σ Q):T B n C SV (execs ss C.env) σ Q:=hq G hG C ss h
def I3(B:Bs)(n:Nat)(r:o7)(Q:Fl->St->Prop)(f:Fl)(σ:St):Prop:=match f with
 | .next=>d9 B n r σ Q
 |f=>Q f σ
def Mm(x y:Nat)(F:Fl->St->Prop)(v:AV)(σ:St):Prop:=match v with
 | .tup [a,b]=>F .next ⟨R5 (R5 σ.vars x a) y b,σ.lists⟩
 |_=>False
theorem FK{x y:Nat}{F:Fl->St->Prop}{v:AV}{σ:St}(h:Mm x y F v σ):∃a b,v= .tup [a,b]∧F .next ⟨R5 (R5 σ.vars x a) y b,σ.lists⟩:=by
 cases v with
 |tup xs=>cases xs with
  |nil=>exact h.elim
  |cons a r=>cases r with
   |nil=>exact h.elim
   |cons b r=>cases r with
    |nil=>exact⟨_,_,rfl,h⟩
    |cons _ _=>exact h.elim
 |_=>exact h.elim
def OL(F:St->Prop)(v:AV)(σ:St):Prop:=match v with
 | .none=>F σ
 |_=>False
theorem LL{F:St->Prop}{v:AV}{σ:St}(h:OL F v σ):F σ:=by
 cases v with
 |none=>exact h
 |_=>exact h.elim
section
variable{σ:St}{F:Fl->St->Prop}
theorem V6{r:o7}(h:d9 B n r σ F):I3 B n r F .next σ:=h
theorem Vh{r:o7}{v:AV}(h:F (.ret v) σ):I3 B n r F (.ret v) σ:=h
theorem Ga{C:FC}{i:Nat}{e:Ex}{v:Expr}{p q:Pos}{id:Str}(hG:i7 B G)(he:d6 G C.Γ C.mine C.env.scope v e=true)(ho:A1 C.Γ C.env.scope C.mine id i=true)(hs:swapsWith v (some (.Name id p)) q.line C.env=pure false)
  (hq:t9 B n e σ fun v σ=>F .next ⟨R5 σ.vars i v,σ.lists⟩):T B n C SV (exec (.Assign [.Name id p] v q) C.env) σ F:=fun W s A E Z hA hR hZ=>
 wpAny_Assign_Name (g9 hG e he hq W s A _ _ hA hR fun va dR dX av dU dW dT dZ dS=>T4 dT ho dZ fun dY eA=>hZ .next dY dX .next _ dW eA rfl dS) hs
theorem DE{i:Nat}{e:Ex}(hq:t9 B n e σ fun v σ=>F .next ⟨R5 σ.vars i v,σ.lists⟩)(hn:Do e=false):GD B n (.asg i e) σ F:=fun G hG C st h=>by
 refine FH (OS h) fun id p v q ee4 ho hx he=> ?_
 subst ee4
 cases hc:Cn v with
 |false=>exact Ga hG he ho (CR hc _ _ _) hq
 |true=>rw [hx hc]at hn;exact tf hn
theorem Zd{i:Nat}{ex:Ex}{tg:Tg}{src:Oy}{keep:List Nat}(hq:CK B n src σ fun items ok σ=>W0 ok tg σ.lists.length (t9 B n ex) items ⟨X6 keep 0 σ.vars,σ.lists++[[]]⟩ fun eG=>F .next ⟨R5 σ.vars i (.lst σ.lists.length),eG.lists⟩):
  GD B n (.asg i (.comp ex tg src keep)) σ F:=fun G hG C st h=>by
 refine FH (OS h) fun id p v q ee4 ho hx he=> ?_
 subst ee4
 refine Oz (IC he) fun elt t iter cs p' ee5 kind ht hst hco hkeep hset hs hmine he'=> ?_
 subst ee5
 refine f8 (Mf (elt:=elt) (gs:=[⟨t,iter,[],0⟩]) (cs:=cs) (p:=p') (q:=p) (id:=id) (l:=q.line) (env:=C.env)) fun c hsw=> ?_
 cases c with
 |false=>exact Ga hG he ho hsw (Th (Q:=fun v σ=>F .next ⟨R5 σ.vars i v,σ.lists⟩) hq)
 |true=>
  intro W s A E Z hA hR hZ
  rw [exec_Assign_arm]
  refine wpAny_bind (wpAny_standAt ?_)
  rw [show swapsWithSole [.Name id p] (.ListComp elt [⟨t,iter,[],0⟩] cs p') q.line C.env=pure true from hsw]
  refine wpAny_bind (wpAny_pure ?_)
  rw [if_pos rfl]
  refine wpAny_bind (Ph (Q:=fun v σ=>F .next ⟨R5 σ.vars i v,σ.lists⟩) hmine kind ht hco hkeep hset (fun L σ Q hq=>g9 hG ex (C:=B6 cs C L) he' hq) ho (hq G hG C tg iter hst hs) hA hR fun s' W' v' eG hl hr hq'=> ?_)
  exact wpAny_pure (hZ .next s' W' .next _ hl hr rfl hq')
theorem XY{i j:Nat}{e:Ex}(hq:t9 B n e σ fun v σ=>F .next ⟨R5 (R5 σ.vars i v) j v,σ.lists⟩):GD B n (.asg2 i j e) σ F:=fun G hG C st h W s A E Z hA hR hZ=>by
 refine KA (PN h) fun a p b q v r ee6 h1 h2 he=> ?_
 subst ee6
 refine wpAny_Assign_two (g9 hG e he hq W s A _ _ hA hR fun va dR dX av dU dW dT dZ dS=> ?_) rfl rfl
 exact L0 dT h1 dZ fun dY eA=>L0 eA h2 dZ fun eJ eK=>hZ .next eJ dX .next _ dW eK rfl dS
theorem LU{σ:St}{i j:Nat}{a b:AV}(h:i≠j):(σ.setv i a).setv j b=(σ.setv j b).setv i a:=by
 unfold St.setv R5
 simp only [St.mk.injEq,and_true]
 exact List.set_comm _ _ h
theorem aY{i j:Nat}{e:Ex}(hq:t9 B n e σ (Mm i j F)):GD B n (.unp i j e) σ F:=fun G hG C st h W s A E Z hA hR hZ=>by
 refine WG (Up h) fun a p b q k r v u ee8 h1 h2 hab hu he=> ?_
 subst ee8
 have hij:i≠j:=by
  rintro rfl
  unfold A1 at h1 h2
  simp only [Bool.and_eq_true,beq_iff_eq]at h1 h2
  have:=h1.1.symm.trans h2.1
  (replace this:=Option.some.inj this;subst this)
  simp at hab
 have hsole:swapsWithSole [.Tuple [.Name a p,.Name b q] k r] v u.line C.env=pure false:=by
  show swapsWith v (some (.Tuple [.Name a p,.Name b q] k r)) u.line C.env=pure false
  unfold swapsWith
  cases v<;>rfl
 rcases IV (a:=a) (b:=b) (p:=p) (q:=q) (r:=r) (k:=k) (env:=C.env) hu with hw |hw
 ·refine Assign_Tuple (g9 hG e he hq W s A _ _ hA hR fun va dR dX av dU dW dT dZ dS=> ?_) hsole hw
  refine o1 (FK dS) fun x y ee2 dS=> ?_
  subst ee2
  refine r5 dZ fun t o arr ee3 hK hT rr11=> ?_
  clear dZ
  subst ee3
  obtain⟨va,tl,rfl,ga,vb,tl',rfl,gb,rfl⟩:=rr11
  refine GH (tg:= .two i j) (av:= .tup [x,y]) (eG:=(dU.setv i x).setv j y) dT (by show(A1 _ _ _ a i&&(A1 _ _ _ b j&& !(a==b)))=true;rw [h1,h2,hab];rfl) ⟨x,y,t,va,vb,rfl,rfl,?_,ga,gb⟩ rfl hA.2.2 fun dY eA=>hZ .next dY dX .next _ dW eA rfl dS
  obtain⟨hc,nn,hd⟩:=hT
  exact⟨o,dT.rl.keep _ _ hK,hc,nn,hd⟩
 ·refine Assign_Tuple_swapped (g9 hG e he hq W s A _ _ hA hR fun va dR dX av dU dW dT dZ dS=> ?_) hsole hw
  refine o1 (FK dS) fun x y ee2 dS=> ?_
  subst ee2
  refine r5 dZ fun t o arr ee3 hK hT rr14=> ?_
  clear dZ
  subst ee3
  obtain⟨va,tl,rfl,ga,vb,tl',rfl,gb,rfl⟩:=rr14
  obtain⟨hc,nn,hd⟩:=hT
  refine wpAny_unpackItems_tuple (items:= #[va,vb]) hA.2.2 ⟨o,dT.rl.keep _ _ hK,hc,nn,hd⟩ fun h' hx=> ?_
  have hg:R B dX C dU {dR with heap:=h'}:=dT.grow (fun b o e=>hx b o (Nat.ne_of_lt (Heap.lt_size e)) e) rfl rfl
  show wpAny _ _ (assignInOrder [bindName C.env b,bindName C.env a] [vb,va]) _ _ _
  refine wpAny_bind (wpAny_holding (wpAny_bindName (T4 hg h2 gb fun dY eA=> ?_)))
  refine wpAny_bind (wpAny_holding (wpAny_bindName (T4 eA h1 ga fun eJ eK=> ?_)))
  refine wpAny_pure (hZ .next eJ dX .next _ dW eK rfl ?_)
  rw [LU hij.symm];exact dS
set_option tactic.hygienic true in
theorem YW{o i e:Ex}(hq:t9 B n e σ fun v σ=>t9 B n o σ fun a σ=>t9 B n i σ fun b σ=>match a,b with
  | .lst k,.int j=>match σ.lists[k]? with
   |some xs=>0<=j∧j<xs.length∧xs.length<=1000000∧F .next {σ with lists:=σ.lists.set k (xs.set j.toNat v)}
   |Option.none=>False
  |_,_=>False):GD B n (.seti o i e) σ F:=fun G hG C st h W s A E Z hA hR hZ=>by
 refine IQ (Qy h) fun o' i' p v q ee5 hz h1 h2 h3=> ?_
 subst ee5
 refine wpAny_Assign_Subscript (g9 hG e h1 hq W s A _ _ hA hR fun va dR dX av dU dW dT dZ dS=>g9 hG o h2 dS dX dR A _ _ hA dT fun vo dY eE ov eD eF eA eH eC=>
  g9 hG i h3 eC eE dY A _ _ hA eA fun vi eJ eZ iv eP eQ eK fJ eM=> ?_) (by unfold swapsWith;cases v<;>rfl)
 split at eM
 ·next k j=>
  split at eM
  ·next xs hk=>
   refine BM eM fun q1 q2 q3 q4=> ?_
   clear eM
   have ht:TL B n (fun _ b a=>b=a) (setItem vo vi va) (eZ.frz (d5 C) eJ.heap) eJ fun _ ls=>ls=eP.lists.set k (xs.set j.toNat av):=fun A E Z hA hZ=>
    JL eK.rlF (eK.up (eH.mono eQ)) (eK.up fJ) hk q1 q2 q3 (eK.up (dZ.mono (Wd.le_trans eF eQ))) fun s' h'=>hZ () s' _ () _ (Wd.le_refl _) h' rfl rfl
   refine eK.runU hA ht fun v s' W' ls' hl hr hq'=> ?_
   subst hq'
   exact hZ .next s' W' .next _ (Wd.le_trans dW (Wd.le_trans eF (Wd.le_trans eQ hl))) hr rfl q4
  ·exact eM.elim
 ·exact eM.elim
theorem bA{i:Nat}{o:HC}{e:Ex}{a:Int}(hi:σ.vars[i]? =some (some (.int a)))(hq:t9 B n e σ (fun b σ=>IE (fun j σ=>O8 o (.int a) (.int j) σ.lists fun v ls=>F .next ⟨R5 σ.vars i v,ls⟩) b σ)):GD B n (.aug i o e) σ F:=fun G hG C st h W s A E Z hA hR hZ=>by
 refine FH (Um h) fun id p v q ee4 h1 h2 h3=> ?_
 subst ee4
 refine wpAny_AugAssign_Name (QQ hR h1 hi fun iH iJ=>g9 hG e h3 hq W s A _ _ hA hR fun vb dR dX bv dU dW dT dZ dS=> ?_)
 refine a9 (T3 dS) fun j ee1 eC=> ?_
 subst ee1
 have:=QO (n:=n) dT.rlF (dT.up (iJ.mono dW)) (dT.up dZ) eC
 exact dT.run hA this fun v s' W' x ls' hl hr hv hq'=>T4 hr h2 hv fun dY eA=>hZ .next dY W' .next _ (Wd.le_trans dW hl) eA rfl hq'
theorem Yy{e:Ex}(hq:t9 B n e σ (OL (F .next))):GD B n (.expr e) σ F:=fun G hG C st h W s A E Z hA hR hZ=>by
 refine o4 (QR h) fun v p ee2 hc he=> ?_
 subst ee2
 exact wpAny_Expr_any (g9 hG e he hq W s A _ _ hA hR fun va dR dX av dU dW dT dZ dS=>hZ .next dR dX .next _ dW dT rfl (LL dS)) (Ic hR.fr) (CR hc _ _ _)
theorem Zu(hq:F (.ret .none) σ):GD B n (.ret .none) σ F:=fun G hG C st h W s A E Z hA hR hZ=>by
 rcases OO h with⟨p,rfl,_⟩ |⟨v,p,rfl,he⟩
 ·exact wpAny_Return_none (hZ (.ret .none) s W (.ret .none) σ W.le_refl hR ⟨_,rfl,rfl⟩ hq)
 ·exact wpAny_Return_some (g9 hG .none he (F4 (Q:=fun v σ=>F (.ret v) σ) hq) W s A _ _ hA hR fun va dR dX av dU dW dT dZ dS=>hZ (.ret va) dR dX (.ret av) dU dW dT ⟨va,rfl,dZ⟩ dS)
theorem VW{e:Ex}(hq:t9 B n e σ fun v σ=>F (.ret v) σ)(hn:K4 e=false):GD B n (.ret e) σ F:=fun G hG C st h W s A E Z hA hR hZ=>by
 rcases OO h with⟨p,rfl,rfl⟩ |⟨v,p,rfl,he⟩
 ·exact tf hn
 ·exact wpAny_Return_some (g9 hG e he hq W s A _ _ hA hR fun va dR dX av dU dW dT dZ dS=>hZ (.ret va) dR dX (.ret av) dU dW dT ⟨va,rfl,dZ⟩ dS)
theorem CW{c:Ex}{a b:o7}(hq:DR B n c σ fun t σ=>if t then d9 B n a σ F else d9 B n b σ F):GD B n (.ite c a b) σ F:=fun G hG C st h W s A E Z hA hR hZ=>by
 refine FH (Te h) fun c' a' b' p ee4 h1 h2 h3=> ?_
 subst ee4
 refine wpAny_If (AI hG c h1 hq W s A _ _ hA hR fun bt dR dX tv dU dW dT dZ dS=> ?_)
 subst dZ
 cases bt with
 |true=>exact R9 hG a h2 dS dX dR A _ _ hA dT fun f s' W' fl eG hl hr hf hq'=>hZ f s' W' fl eG (Wd.le_trans dW hl) hr hf hq'
 |false=>exact R9 hG b h3 dS dX dR A _ _ hA dT fun f s' W' fl eG hl hr hf hq'=>hZ f s' W' fl eG (Wd.le_trans dW hl) hr hf hq'
theorem X2{c:Ex}{a:o7}(m:Nat)(hq:A9 (DR B n c) (d9 B n a) m σ F):GD B n (.while c a) σ F:=fun G hG C st h W s A E Z hA hR hZ=>by
 refine Fo (On h) fun c' a' p ee3 h1 h2=> ?_
 subst ee3
 refine wpAny_While (codeAny_whileLoop (fun k s'=>∃eG W',W.le W'∧R B W' C eG s'∧A9 (DR B n c) (d9 B n a) k eG F) ?_ m ⟨σ,W,W.le_refl,hR,hq⟩)
 intro k s' hh_ex
 refine o4 hh_ex fun eG W' hl hR' hq'=> ?_
 clear hh_ex
 cases k with
 |zero=>exact hq'.elim
 |succ k=>
  refine AI hG c h1 hq' W' s' A _ _ hA hR' fun bt dR dX tv dU dW dT dZ dS=> ?_
  subst dZ
  cases bt with
  |false=>exact wpAny_execs_nil (hZ .next dR dX .next dU (Wd.le_trans hl dW) dT rfl dS)
  |true=>
   refine R9 hG a h2 dS dX dR A _ _ hA dT fun f dY eE fl eD eF eA hf eC=> ?_
   cases fl with
   |next=>rw [show f=_ from hf];exact⟨k,Nat.lt_succ_self k,eD,eE,Wd.le_trans hl (Wd.le_trans dW eF),eA,eC⟩
   |cont=>rw [show f=_ from hf];exact⟨k,Nat.lt_succ_self k,eD,eE,Wd.le_trans hl (Wd.le_trans dW eF),eA,eC⟩
   |brk=>rw [show f=_ from hf];exact hZ .next dY eE .next eD (Wd.le_trans hl (Wd.le_trans dW eF)) eA rfl eC
   |ret v=>
    refine a9 hf fun u ee1 hv=> ?_
    clear hf
    subst ee1
    exact hZ (.ret u) dY eE (.ret v) eD (Wd.le_trans hl (Wd.le_trans dW eF)) eA ⟨u,rfl,hv⟩ eC
theorem aS{tg:Tg}{src:Oy}{a:o7}(hq:CK B n src σ fun items ok σ=>A2 ok tg (d9 B n a) items σ F):GD B n (.for tg src a) σ F:=fun G hG C st h W s A E Z hA hR hZ=>by
 refine FO (SY h) fun t iter a' p ee4 ht hst hset h1 h2=> ?_
 subst ee4
 refine wpAny_For (hq G hG C tg iter hst h1 W s A _ _ hA hR fun I S P ok items dX dU dR dW dT hit hP hS hf=> ?_) (fun x=>M9 hset x)
 exact Uh hit ht hA (fun σ Q hq=>R9 hG a h2 hq) hf dT hP hS fun fl f s' W' eG hl hr hfl hq'=>hZ f s' W' fl eG (Wd.le_trans dW hl) hr hfl hq'
theorem Ck(hq:F .next σ):d9 B n .nil σ F:=fun G hG C ss h W s A E Z hA hR hZ=>by
 rw [N5 h]
 exact wpAny_execs_nil (hZ .next s W .next σ W.le_refl hR rfl hq)
theorem c0{x:Sm}{t:o7}(hq:GD B n x σ (I3 B n t F)):d9 B n (.cons x t) σ F:=fun G hG C ss h W s A E Z hA hR hZ=>by
 refine o4 (OV h) fun st r ee2 h1 h2=> ?_
 subst ee2
 refine wpAny_execs_cons (Oq hG x h1 hq W s A _ _ hA hR fun f dR dX fl dU dW dT hf dS=> ?_)
 cases fl with
 |next=>
  rw [show f=_ from hf]
  exact R9 hG t h2 dS dX dR A _ _ hA dT fun f s' W' fl eG hl hr hf hq'=>hZ f s' W' fl eG (Wd.le_trans dW hl) hr hf hq'
 |cont=>rw [show f=_ from hf];exact hZ .cont dR dX .cont dU dW dT rfl dS
 |brk=>rw [show f=_ from hf];exact hZ .brk dR dX .brk dU dW dT rfl dS
 |ret v=>
  refine a9 hf fun u ee1 hv=> ?_
  clear hf
  subst ee1
  exact hZ (.ret u) dR dX (.ret v) dU dW dT ⟨u,rfl,hv⟩ dS
end
theorem Cm{ok:St->Prop}{tg:Tg}{b:St->(Fl->St->Prop)->Prop}{Q:Fl->St->Prop}(I:List AV->St->Prop):
  ∀(l:List AV){σ:St},I l σ->(∀l σ,I l σ->ok σ)->(∀v r σ,I (v::r) σ->D9 (fun σ=>b σ fun f σ=>match f with
   | .next=>I r σ
   | .cont=>I r σ
   | .brk=>Q .next σ
   | .ret v=>Q (.ret v) σ) (Ah tg v σ))->(∀(b0:St)(K K':Fl->St->Prop),(∀f σ,K f σ->K' f σ)->b b0 K->b b0 K')->(∀σ,I [] σ->Q .next σ)->A2 ok tg b l σ Q
 | [],σ,h,ho,_,_,hf=>⟨ho _ _ h,hf _ h⟩
 |v::r,σ,h,ho,hs,hm,hf=>by
  refine⟨ho _ _ h,?_⟩
  have:=hs v r σ h
  cases e:Ah tg v σ with
  |none=>rw [e]at this;exact this.elim
  |some eG=>
   rw [e]at this
   refine hm _ _ _ (fun f σ hf'=> ?_) (show b eG _ from this)
   cases f with
   |next=>exact Cm I r hf' ho hs hm hf
   |cont=>exact Cm I r hf' ho hs hm hf
   |brk=>exact hf'
   |ret v=>exact hf'
end
end
section
open PySem PySem.Calls PyProof.Rows
set_option maxRecDepth 4000
set_option maxHeartbeats 4000000
mutual
noncomputable def m8(n:Nat):AV->Bool
 | .lst k=>decide (k<n)
 | .tup vs=>l8 n vs
 |_=>true
noncomputable def l8(n:Nat):List AV->Bool
 | []=>true
 |a::r=>m8 n a&&l8 n r
end
mutual
theorem OI{W:Wd}:∀{a:AV}{v:Value},VR W a v->m8 W.ρ.length a=true
 | .none,_,_=>rfl
 | .bool _,_,_=>rfl
 | .int _,_,_=>rfl
 | .str _,_,_=>rfl
 | .raw _,_,_=>rfl
 | .lst k,_,⟨a,_,e⟩=>by
  unfold m8
  exact decide_eq_true (List.getElem?_eq_some_iff.mp e).1
 | .tup vs,_,⟨_,_,_,_,_,_,r⟩=>by unfold m8;exact Az r
theorem Az{W:Wd}:∀{as:List AV}{vs:List Value},l5 W as vs->l8 W.ρ.length as=true
 | [],_,_=>rfl
 |a::r,_,⟨_,_,_,g,h⟩=>by
  unfold l8
  rw [OI g,Az h];rfl
end
mutual
theorem VR.cut{W W':Wd}{n:Nat}(hK:W'.K=W.K)(fX:∀j,j<n->W'.ρ[j]? =W.ρ[j]?):∀{a:AV}{v:Value},m8 n a=true->VR W a v->VR W' a v
 | .none,_,_,e=>e
 | .bool _,_,_,e=>e
 | .int _,_,_,e=>e
 | .str _,_,_,e=>e
 | .raw _,_,_,e=>e
 | .lst k,_,hb,⟨a,e,g⟩=>⟨a,e,by
  unfold m8 at hb
  (rw [fX k (of_decide_eq_true hb),g];rfl)⟩
 | .tup vs,_,hb,⟨a,o,arr,e,g,t,r⟩=>⟨a,o,arr,e,by(rw [hK,g];rfl),t,l5.cut hK fX (by unfold m8 at hb;exact hb) r⟩
theorem l5.cut{W W':Wd}{n:Nat}(hK:W'.K=W.K)(fX:∀j,j<n->W'.ρ[j]? =W.ρ[j]?):∀{as:List AV}{vs:List Value},l8 n as=true->l5 W as vs->l5 W' as vs
 | [],_,_,e=>e
 |a::r,_,hb,⟨v,t,e,g,h⟩=>by
  unfold l8 at hb
  simp only [Bool.and_eq_true]at hb
  exact⟨v,t,e,VR.cut hK fX hb.1 g,l5.cut hK fX hb.2 h⟩
end
mutual
theorem Jw{n m:Nat}(h:n<=m):∀a,m8 n a=true->m8 m a=true
 | .none,_=>by unfold m8;rfl
 | .bool _,_=>by unfold m8;rfl
 | .int _,_=>by unfold m8;rfl
 | .str _,_=>by unfold m8;rfl
 | .raw _,_=>by unfold m8;rfl
 | .lst k,hb=>by unfold m8 at hb ⊢;have:=of_decide_eq_true hb;exact decide_eq_true (by exact t1 ‹_› ‹_›)
 | .tup vs,hb=>by unfold m8 at hb ⊢;exact Z1 h vs hb
theorem Z1{n m:Nat}(h:n<=m):∀as,l8 n as=true->l8 m as=true
 | [],_=>by unfold l8;rfl
 |a::r,hb=>by
  unfold l8 at hb ⊢;simp only [Bool.and_eq_true]at hb ⊢
  exact⟨Jw h a hb.1,Z1 h r hb.2⟩
end
def Fa(ls L:Ls):Prop:=∀(k:Nat) l,k<ls.length->L[k]? =some l->ls[k]? =some l∨l8 0 l=true
theorem RL.cut{B:Bs}{W W':Wd}{ls L:Ls}{s s':Shared}(h:RL B W ls s)(h':RL B W' L s')(hl:W.le W')(hk:Fa ls L):
  RL B ⟨W'.K,W'.ρ.take ls.length⟩ (L.take ls.length) s'∧W.le ⟨W'.K,W'.ρ.take ls.length⟩:=by
 obtain⟨h1,r,e⟩:=hl
 have hln:=h.len
 have et:W'.ρ.take ls.length=W.ρ:=by(rw [e,←hln];rewrite [take_left'];rfl);rfl
 refine⟨⟨h'.base,h'.keep,by simp [h'.len],fun a ha=>h'.off a (mem_of_mem_take ha),h'.nd.sublist (List.take_sublist _ _),fun k a vs e1 e2=> ?_,h'.gens,h'.os,fun c P q hm=> ?_,fun k a hm=>et▸h.pins k a hm⟩,h1,[],by(rw [et,append_nil];rfl)⟩
 ·have hlt:k<ls.length:=by
   have:=(List.getElem?_eq_some_iff.mp e1).1
   simp only [length_take]at this;exact Fd ‹_›
  change(W'.ρ.take ls.length)[k]? =_ at e1
  rw [getElem?_take_of_lt hlt]at e1 e2
  refine a9 (h'.lists k a vs e1 e2) fun vals g1 g2=> ?_
  refine⟨vals,g1,l5.cut (W:=W') (W':=⟨W'.K,W'.ρ.take ls.length⟩) (n:=ls.length) rfl (fun j hj=>getElem?_take_of_lt hj) ?_ g2⟩
  rcases hk k vs hlt e2 with hb |hb
  ·have e3:W.ρ[k]? =some W.ρ[k]:=getElem?_eq_getElem (by lia)
   refine a9 (h.lists k _ vs e3 hb) fun iG g3 g4=> ?_
   rw [←hln];exact Az g4
  ·exact Z1 (Nat.zero_le _) _ hb
 ·refine B2 (h'.tabs c P q hm) fun a1 a2 a3=> ?_
  exact⟨a1,fun hx=>a2 (mem_of_mem_take hx),a3⟩
def Qe(ls:Ls)(v:AV)(L:Ls)(Q:AV->Ls->Prop):Prop:=match v with
 | .lst k=>ls.length<=k∧∃x,L[k]? =some x∧l8 ls.length x=true∧Fa ls L∧Q (.lst ls.length) (L.take ls.length++[x])
 |v=>m8 0 v=true∧Fa ls L∧Q v (L.take ls.length)
theorem V7{B:Bs}{W W':Wd}{ls L:Ls}{s s':Shared}{av:AV}{v:Value}{Q:AV->Ls->Prop}(h:RL B W ls s)(h':RL B W' L s')(hl:W.le W')(hv:VR W' av v)(hq:Qe ls av L Q):
  ∃W'' av' L',W.le W''∧RL B W'' L' s'∧VR W'' av' v∧Q av' L':=by
 have plainc:m8 0 av=true∧Fa ls L∧Q av (L.take ls.length)->∃W'' av' L',W.le W''∧RL B W'' L' s'∧VR W'' av' v∧Q av' L':=fun⟨hb,hk,q⟩=>by
  refine b7 (h.cut h' hl hk) fun r1 r2=> ?_
  exact⟨_,av,_,r2,r1,VR.cut (W:=W') (W':=⟨W'.K,W'.ρ.take ls.length⟩) (n:=0) rfl (fun j hj=>absurd hj (Nat.not_lt_zero _)) hb hv,q⟩
 cases av with
 |lst k=>
  obtain⟨hle,x,hx,hb,hk,q⟩:=hq
  refine b7 (h.cut h' hl hk) fun r1 r2=> ?_
  refine a9 hv fun a ee1 ea=> ?_
  clear hv
  subst ee1
  refine a9 (h'.lists k a x ea hx) fun vals g1 g2=> ?_
  have hnot:a∉W'.ρ.take ls.length:=fun hm=>by
   obtain⟨j,hj,ej⟩:=getElem_of_mem hm
   have hj':j<ls.length:=by simp only [length_take]at hj;exact Fd ‹_›
   have e2:W'.ρ[j]? =some a:=by
    (rw [←getElem?_take_of_lt hj',getElem?_eq_getElem hj,ej];rfl)
   refine f8 (List.getElem?_eq_some_iff.mp ea) fun p1 p2=> ?_
   refine f8 (List.getElem?_eq_some_iff.mp e2) fun q1 q2=> ?_
   have:=(getElem_inj h'.nd).mp (p2.trans q2.symm)
   lia
  have z1:=r1.addL (a:=a) (vals:=vals) (vs:=x) g1 (h'.off a (mem_of_getElem? ea)) hnot (l5.cut (W:=W') (W':=⟨W'.K,W'.ρ.take ls.length⟩) (n:=ls.length) rfl (fun j hj=>getElem?_take_of_lt hj) hb g2)
  refine⟨_,.lst ls.length,_,Wd.le_trans r2 (B0 _ a),z1,⟨a,rfl,?_⟩,q⟩
  show(W'.ρ.take ls.length++[a])[ls.length]? =some a
  have hll:(W'.ρ.take ls.length).length=ls.length:=by
   have:=r1.len
   obtain⟨_,r,e⟩:=hl
   (rw [e,←h.len,take_left' rfl];rfl)
  rw [getElem?_append_right (by exact XS ‹_›),hll];simp
 |none=>exact plainc hq
 |bool b=>exact plainc hq
 |int b=>exact plainc hq
 |str b=>exact plainc hq
 |tup b=>exact plainc hq
 |raw b=>exact plainc hq
structure Jm(B:Bs)(f:Addr)(fd:FuncData)(body:List Stmt):Prop where
 obj:∃o,B.eB.get? f=some o∧o.data= .func fd
 code:B.eB.CodeRec fd.code fd.qualname
 lim:B.eB.NoLimit
 body:fd.body= .stmts body
 glob:fd.globals=mainGlobals
 blt:fd.builtins=builtinsNs
 kind:fd.scope.kind= .function
 co:fd.scope.isCoroutine=false
 gen:fd.scope.isGenerator=false
 nd:(fd.scope.names.map (·.1)).Nodup
theorem N3{α:Type}:∀{l:List (Str×α)}{x:Str}{k:α},(l.map (·.1)).Nodup->(x,k)∈l->l.lookup x=some k
 | (y,b)::r,x,k,hn,hm=>by
  rw [lookup_cons]
  simp only [map_cons,nodup_cons]at hn
  rcases mem_cons.mp hm with e |hm'
  ·cases e;simp
  ·have:(x==y)=false:=by
    rewrite [beq_eq_false_iff_ne]
    rintro rfl
    exact hn.1 (mem_map.mpr ⟨(_,k),hm',rfl⟩)
   rw [this];exact N3 hn.2 hm'
set_option tactic.hygienic true in
theorem H7:∀{names:List (Str×NameKind)}{n:Nat}{acc:List (Str×Addr)}{x:Str}{c:Addr},(x,c)∈cellsFrom n names acc->(x,c)∈acc∨(x,NameKind.cell)∈names
 | [],_,_,_,_,h=> .inl h
 | (nm,kd)::r,n,acc,x,c,h=>by
  unfold cellsFrom at h
  split at h
  ·next hk=>
   rcases H7 h with h |h
   ·rcases mem_cons.mp h with e |h
    ·cases e;exact .inr (by rw [beq_iff_eq.mp hk];exact .head _)
    ·exact .inl h
   ·exact .inr (.tail _ h)
  ·rcases H7 h with h |h
   ·exact .inl h
   ·exact .inr (.tail _ h)
theorem R1:∀{names:List (Str×NameKind)}{n:Nat}{acc:List (Str×Addr)}{p:Str×Addr},p∈acc->p∈cellsFrom n names acc
 | [],_,_,_,h=>h
 | (nm,kd)::r,n,acc,p,h=>by
  unfold cellsFrom
  split
  ·exact R1 (.tail _ h)
  ·exact R1 h
theorem o9:∀{names:List (Str×NameKind)}{n:Nat}{acc:List (Str×Addr)}{x:Str},(x,NameKind.cell)∈names->∃c,(x,c)∈cellsFrom n names acc
 | (nm,kd)::r,n,acc,x,h=>by
  unfold cellsFrom
  rcases mem_cons.mp h with e |h
  ·cases e
   exact⟨n,R1 (.head _)⟩
  ·split
   ·exact o9 h
   ·exact o9 h
theorem J3:∀{names:List (Str×NameKind)}{n:Nat}{acc:List (Str×Addr)},(names.map (·.1)).Nodup->(acc.map (·.1)).Nodup->(∀x∈acc.map (·.1),x∉names.map (·.1))->((cellsFrom n names acc).map (·.1)).Nodup
 | [],_,_,_,h,_=>h
 | (nm,kd)::r,n,acc,hn,h,hd=>by
  simp only [map_cons,nodup_cons]at hn
  have hd':∀x∈acc.map (·.1),x∉r.map (·.1):=fun x hx hr=>hd x hx (by rw [map_cons];exact .tail _ hr)
  unfold cellsFrom
  split
  ·refine J3 hn.2 ?_ fun x hx=> ?_
   ·(rw [map_cons];rewrite [nodup_cons])
    exact⟨fun hx=>hd nm hx (by rw [map_cons];exact .head _),h⟩
   ·rw [map_cons]at hx
    rcases mem_cons.mp hx with rfl |hx
    ·exact hn.1
    ·exact hd' x hx
  ·exact J3 hn.2 h hd'
theorem j0{α:Type}:∀{l:List (Str×α)}{x:Str}{c:α},(x,c)∈l->(l.lookup x).isSome=true
 | (y,b)::r,x,c,h=>by
  rw [lookup_cons]
  cases hb:x==y with
  |true=>rfl
  |false=>
   rcases mem_cons.mp h with e |h
   ·cases e;simp at hb
   ·exact j0 h
theorem Mz{kf:Str->Option NameKind}:∀{ps:List Str}{vs:List Value}{m:Str->Option Value}{x:Str}{i:Nat}{v:Value},ps.Nodup->ps[i]? =some x->vs[i]? =some v->kf x=some .local->bindL kf (ps.zip vs) m x=some v:=by
 have keep:∀{bs:List (Str×Value)}{m:Str->Option Value}{x:Str},(∀p∈bs,p.1≠x)->bindL kf bs m x=m x:=by
  intro bs
  induction bs with
  |nil=>intro m x _;rfl
  |cons p r ih=>
   intro m x h
   unfold bindL
   rw [ih fun q hq=>h q (.tail _ hq)]
   split
   ·exact if_neg fun e=>h p (.head _) e.symm
   ·rfl
 intro ps
 induction ps with
 |nil=>intro vs m x i v _ h;simp at h
 |cons p r ih=>
  intro vs m x i v hn h1 h2 hk
  cases vs with
  |nil=>simp at h2
  |cons u t=>
   rw [List.zip_cons_cons]
   unfold bindL
   cases i with
   |zero=>
    simp only [List.getElem?_cons_zero,Option.some.injEq]at h1 h2
    subst h1 h2
    (rewrite [keep (x:=p) fun q hq e=>(nodup_cons.mp hn).1 (e▸(of_mem_zip hq).1),if_pos hk,if_pos rfl];try (with_reducible rfl))
   |succ i=>exact ih (nodup_cons.mp hn).2 (by exact h1) (by exact h2) hk
theorem NJ{kf:Str->Option NameKind}:∀{ps:List Str}{vs:List Value}{m:Str->Option Value}{x:Str}{i:Nat}{v:Value},ps.Nodup->ps[i]? =some x->vs[i]? =some v->kf x=some .cell->bindC kf (ps.zip vs) m x=some v:=by
 have keep:∀{bs:List (Str×Value)}{m:Str->Option Value}{x:Str},(∀p∈bs,p.1≠x)->bindC kf bs m x=m x:=by
  intro bs
  induction bs with
  |nil=>intro m x _;rfl
  |cons p r ih=>
   intro m x h
   unfold bindC
   rw [ih fun q hq=>h q (.tail _ hq)]
   split
   ·rfl
   ·exact if_neg fun e=>h p (.head _) e.symm
 intro ps
 induction ps with
 |nil=>intro vs m x i v _ h;simp at h
 |cons p r ih=>
  intro vs m x i v hn h1 h2 hk
  cases vs with
  |nil=>simp at h2
  |cons u t=>
   rw [List.zip_cons_cons]
   unfold bindC
   cases i with
   |zero=>
    simp only [List.getElem?_cons_zero,Option.some.injEq]at h1 h2
    subst h1 h2
    (rewrite [keep (x:=p) fun q hq e=>(nodup_cons.mp hn).1 (e▸(of_mem_zip hq).1),if_neg (by rw [hk];decide),if_pos rfl];try (with_reducible rfl))
   |succ i=>exact ih (nodup_cons.mp hn).2 (by exact h1) (by exact h2) hk
noncomputable def D8(ls:Ls)(Q:AV->Ls->Prop):Fl->St->Prop:=fun fl σ=>match fl with
 | .ret v=>Qe ls v σ.lists Q
 | .next=>Qe ls .none σ.lists Q
 |_=>False
section
variable{B:Bs}{n:Nat}{G:List (Str×Value)}
@[reducible] def Xq(B:Bs)(f:Addr)(fd:FuncData)(body:List Stmt)(params loc:List Str)(W:Wd)(ls:Ls)(s:Shared)(bnd:List AV)(vs:List Value):Prop:=∀(F:Jm B f fd body)(hnd:(params++loc).Nodup){dR:Shared}(h:RL B W ls s)(hvs:l5 W bnd vs)(hlen:bnd.length=params.length)(hkind:∀x∈params,fd.scope.names.lookup x=some .local∨fd.scope.names.lookup x=some .cell)(x:InCallC s (callEnvC fd s.heap.objs.size f).locals (bindL (callEnvC fd s.heap.objs.size f).kindOf (params.zip vs) fun _=>none) (callEnvC fd s.heap.objs.size f).cells
    (bindC (callEnvC fd s.heap.objs.size f).kindOf (params.zip vs) fun _=>none) dR),R B W ⟨callEnvC fd s.heap.objs.size f,params++loc,true⟩ ⟨bnd.map some++List.replicate loc.length none,ls⟩ dR
noncomputable def T8:Ue:=ee fun u=>Xq u.b (u.n 0) (u.fd 0) (u.bd 0) (u.z 0) (u.z 1) (u.w 0) (u.l 0) (u.s 0) (u.m 0) (u.h 0)
theorem bS:Xq T8.b (T8.n 0) (T8.fd 0) (T8.bd 0) (T8.z 0) (T8.z 1) (T8.w 0) (T8.l 0) (T8.s 0) (T8.m 0) (T8.h 0):=fun F hnd{dR} h hvs hlen hkind x=>by
 have hkp:∀b o,(T8.s 0).heap.get? b=some o->dR.heap.get? b=some o:=x.toInCall.keep
 refine I9 (x.toInCall.same) fun h' tk ee2=> ?_
 subst ee2
 have dT:RL T8.b (T8.w 0) (T8.l 0) {(T8.s 0)with heap:=h',toks:=tk}:=h.keepAll hkp rfl rfl
 have own:∀a∈d5 ⟨callEnvC (T8.fd 0) (T8.s 0).heap.objs.size (T8.n 0),(T8.z 0)++(T8.z 1),true⟩,(T8.s 0).heap.objs.size<=a:=fun a ha=>by
  rcases mem_cons.mp ha with rfl |ha
  ·exact Nat.le_refl _
  ·refine a9 (mem_filterMap.mp (show a∈List.filterMap _ _ from ha)) fun p hp e=> ?_
   have hle:=x.above p.1 p.2 hp
   split at e
   ·(replace e:=Option.some.inj e;subst e);exact Nat.le_of_lt hle
   ·exact on e
 have kcell:∀y c,(y,c)∈(callEnvC (T8.fd 0) (T8.s 0).heap.objs.size (T8.n 0)).cells->(callEnvC (T8.fd 0) (T8.s 0).heap.objs.size (T8.n 0)).kindOf y=some .cell:=fun y c hm=>by
  rcases H7 (show(y,c)∈cellsFrom _ (T8.fd 0).scope.names []from hm)with hm |hm
  ·cases hm
  ·exact N3 F.nd hm
 have hcl:∀y,(T8.fd 0).scope.names.lookup y=some NameKind.cell->((callEnvC (T8.fd 0) (T8.s 0).heap.objs.size (T8.n 0)).cells.lookup y).isSome=true:=fun y hy=>by
  refine f8 (o9 (n:=(T8.s 0).heap.objs.size+1) (acc:=[]) (mem_of_lookup hy)) fun c hc=> ?_
  exact j0 (show(y,c)∈cellsFrom ((T8.s 0).heap.objs.size+1) (T8.fd 0).scope.names []from hc)
 refine⟨dT,F.kind,F.glob,F.blt,fun a ha=>h.fresh (own a ha),fun hm=> ?_,hnd,fun y z c h1 h2 _ _=>name_of_addr x.apart h1 h2,fun y c hm _ _=> ?_,fun y c hm hno=>(hno ⟨rfl,kcell y c hm⟩).elim,fun y _ hy=>hcl y hy,_,x.toInCall.ns,fun i y av e1 e2=> ?_⟩
 ·refine a9 (mem_filterMap.mp (show _∈List.filterMap _ _ from hm)) fun p hp e=> ?_
  have hlt:=x.above p.1 p.2 hp
  split at e
  ·have:=Option.some.inj e
   exact Nat.lt_irrefl _ (this▸hlt)
  ·exact on e
 ·exact⟨_,x.cell y c (N3 (J3 F.nd List.nodup_nil fun _ hx=>by cases hx) hm)⟩
 ·change((T8.z 0)++(T8.z 1))[i]? =some y at e1
  by_cases hi:i<(T8.z 0).length
  ·rw [getElem?_append_left hi]at e1
   rw [getElem?_append_left (by simpa [hlen]using hi),getElem?_map]at e2
   refine a9 (Option.map_eq_some_iff.mp e2) fun b eb e2=> ?_
   (replace e2:=(Option.some.inj e2).symm;subst e2)
   refine a9 (hvs.get i eb) fun v ev hv=> ?_
   refine⟨v,hv,?_⟩
   have hndp:=(nodup_append.mp hnd).1
   rcases hkind y (mem_of_getElem? e1)with hk |hk
   ·exact .inl ⟨hk,Mz hndp e1 ev hk⟩
   ·refine f8 (Option.isSome_iff_exists.mp (hcl y hk)) fun c hc=> ?_
    refine .inr ⟨.inl hk,c,hc,?_⟩
    have:=x.cell y c hc
    rwa [NJ hndp e1 ev hk]at this
  ·exfalso
   rw [getElem?_append_right (by simpa [hlen]using hi),List.getElem?_replicate]at e2
   split at e2<;>(first |exact on e2 |cases e2)
theorem S9{B:Bs}{f:Addr}{fd:FuncData}{body:List Stmt}{params loc:List Str}{W:Wd}{ls:Ls}{s:Shared}{bnd:List AV}{vs:List Value}:Xq B f fd body params loc W ls s bnd vs:=by with_unfolding_all exact Mine.hk (q:=fun u:Ue=>Xq u.b (u.n 0) (u.fd 0) (u.bd 0) (u.z 0) (u.z 1) (u.w 0) (u.l 0) (u.s 0) (u.m 0) (u.h 0)) bS (.mk B [W] [] [] [s] [] [] [] [f] [] [] [] [] [] [ls] [] [bnd] [vs] [] [params,loc] [] [] [] [] [] [body] [fd] [] [] [] [] [] [] [] [] [] [] T8.pr [] [])
theorem IK(hG:i7 B G){f:Addr}{fd:FuncData}{body:List Stmt}(F:Jm B f fd body)(hclo:fd.closure=[]){params loc:List Str}(hnd:(params++loc).Nodup){xs:o7}
  (hkind:∀x∈params,fd.scope.names.lookup x=some .local∨fd.scope.names.lookup x=some .cell)
  (chk:l9 G (params++loc) true fd.scope body xs=true) {args:List AV} {kw:List (Str×AV)} {ls:Ls} {bnd:List AV} (hlen:bnd.length=params.length)
  (hbind:∀W s vals kvs,RL B W ls s->l5 W args vals->l5 W (kw.map (·.2)) kvs->∃vs,BindsTo s fd ⟨vals,(kw.map (·.1)).zip kvs⟩ (params.zip vs)∧l5 W bnd vs) {Q:AV->Ls->Prop}
  (hwp:d9 B n xs ⟨bnd.map some++List.replicate loc.length none,ls⟩ (D8 ls Q)):Spec B (n+1) (.ref f) args kw ls Q:=by
 intro W s vals kvs hR hv hk
 refine a9 (F.obj) fun o hob hod=> ?_
 have ho:=hR.keep _ _ (hR.base _ _ hob)
 refine⟨fun a e=>by cases e;exact⟨o,fd,ho,hod⟩,fun A E Z hA hZ=>wpAny_call ?_⟩
 refine a9 (hbind W s vals kvs hR hv hk) fun vs hbs hvs=> ?_
 have hold:∀b o,B.eB.get? b=some o->s.heap.get? b=some o:=fun b o e=>hR.keep _ _ (hR.base _ _ e)
 refine codeAny_call_function (by have:=hA.1;lia) ho hod F.co F.gen F.body (F.code.keeps hold) (hbs _ _ _ _ ?_)
 rw [hclo]
 refine wpAny_newFunctionEnv_cells F.kind (fun x hx=> ?_) fun env he s' x=> ?_
 ·have hp:=(of_mem_zip hx).1
  rcases hkind x.1 hp with hk |hk
  ·exact .inl hk
  ·refine f8 (o9 (n:=s.heap.objs.size+1) (acc:=[]) (mem_of_lookup hk)) fun c hc=> ?_
   exact .inr ⟨hk,j0 hc⟩
 ·subst he
  have hlim:s'.heap.NoLimit:=(F.lim.keeps hold).keeps x.toInCall.keep
  refine⟨hlim,codeAny_func ?_⟩
  have hf:=S9 F hnd hR hvs hlen hkind x
  refine R9 hG xs chk hwp W s' _ _ _ hA.deeper hf fun fl s'' W' fv eG hl hr hfl hq=> ?_
  cases fv with
  |next=>
   rw [show fl=_ from hfl]
   refine r5 (V7 hR hr.rl hl (av:= .none) (v:= .none) rfl hq) fun W'' av' L' h1 h2 h3 h4=> ?_
   exact hZ _ _ W'' _ _ h1 h2 h3 h4
  |ret v=>
   refine a9 hfl fun u ee1 hu=> ?_
   clear hfl
   subst ee1
   refine r5 (V7 hR hr.rl hl hu hq) fun W'' av' L' h1 h2 h3 h4=> ?_
   exact hZ _ _ W'' _ _ h1 h2 h3 h4
  |brk=>exact hq.elim
  |cont=>exact hq.elim
end
end
section
open PySem PySem.Calls PyProof.Rows Builtin.Str
set_option maxRecDepth 4000
set_option maxHeartbeats 4000000
section
variable{B:Bs}{n:Nat}{ls:Ls}{Q:AV->Ls->Prop}
theorem f4(id:String)(h:Heap):O3 (.builtin id) h:=fun a e=>by exact T6 (·.ctorIdx) e rfl
theorem Ja(id:String)(h:Heap):O3 (.type id) h:=fun a e=>by exact T6 (·.ctorIdx) e rfl
theorem Spec.pos{f:Value}{args:List AV}(h:∀W s vals,RL B W ls s->l5 W args vals->O3 f s.heap∧TL B n VR (call f vals []) W s Q):Spec B n f args [] ls Q:=by
 intro W s vals kvs hR hv hk
 obtain rfl:kvs=[]:=hk
 exact h W s vals hR hv
theorem Bw{W:Wd}:∀{ns:List Int}{vals:List Value},l5 W (ns.map .int) vals->AllInts vals.toArray∧numsOf vals=ns
 | [],_,h=>by
  obtain rfl:_=[]:=h
  exact⟨fun v hv=>by simp at hv,rfl⟩
 |a::r,_,⟨v,t,e,⟨tk,e2⟩,h⟩=>by
  refine b7 (Bw h) fun h1 h2=> ?_
  subst e e2
  refine⟨fun v hv=> ?_,by show a::numsOf t=_;(rw [h2];rfl)⟩
  rcases mem_cons.mp (by simpa using hv:v∈Value.int a tk::t)with rfl |hm
  ·exact⟨_,_,rfl⟩
  ·exact h1 v (by simpa using hm)
theorem o5{k:Nat}{xs:List AV}(hk:ls[k]? =some xs)(hx:xs.length<4611686018427387904)(hq:Q (.int xs.length) ls):Spec B n (.builtin "len") [.lst k] [] ls Q:= .pos fun W s vals hR hv=>by
 obtain⟨v,t,rfl,hv,rfl⟩:=hv
 refine⟨f4 _ _,fun A E Z hA hZ=> ?_⟩
 obtain⟨a,vals,n',rfl,hr,hl,hvs⟩:=hR.list hv hk
 have hln:=hvs.length
 exact call_len_list ⟨_,hl,rfl,_,rfl⟩ (by simp;lia) (hZ _ _ W (.int xs.length) ls W.le_refl (hR.same rfl rfl rfl) ⟨_,by(rw [size_toArray,hln];rfl)⟩ hq)
theorem o0{x:Str}(hx:x.length<4611686018427387904)(hq:Q (.int x.length) ls):Spec B n (.builtin "len") [.str x] [] ls Q:= .pos fun W s vals hR hv=>by
 refine o4 hv fun v t ee2 ee3 ee4=> ?_
 clear hv
 subst ee2
 obtain⟨u,rfl⟩:=ee3
 subst ee4
 exact⟨f4 _ _,fun A E Z hA hZ=>len_str (by lia) (hZ _ _ W (.int x.length) ls W.le_refl (hR.same rfl rfl rfl) ⟨_,rfl⟩ hq)⟩
theorem KC{prog:Program}{w:World}{A:Around}{E:Value->Shared->Prop}{s:Shared}{l:Addr}{items:Array Value}{Q:Value->Shared->Prop}(hh:A.handled=none)(hl:s.heap.IsList l items)(hall:AllInts items)
  (h:∀h' tk t',(∀b o,s.heap.get? b=some o->h'.get? b=some o)->Q (.int (numsOf items.toList).sum t') {s with heap:=h',toks:=tk}):wpAny (model prog w) A (call (.builtin "sum") [.ref l]) Q E s:=by
 refine f8 (hall.items) fun xs ee1=> ?_
 subst ee1
 rw [nums_intItems]at h
 refine sum_intListG hh hl fun h' tk t' hk=> ?_
 have:=h h' tk t' hk
 rw [preSum_eq,take_of_length_le (by simp)];exact this
theorem Od{k:Nat}{ns:List Int}(hk:ls[k]? =some (ns.map .int))(hq:Q (.int ns.sum) ls):Spec B n (.builtin "sum") [.lst k] [] ls Q:= .pos fun W s vals hR hv=>by
 obtain⟨v,t,rfl,hv,rfl⟩:=hv
 refine⟨f4 _ _,fun A E Z hA hZ=> ?_⟩
 obtain⟨a,vals,n',rfl,hr,hl,hvs⟩:=hR.list hv hk
 obtain⟨i1,i2⟩:=Bw hvs
 exact KC hA.2.2 ⟨_,hl,rfl,_,rfl⟩ i1 fun h' tk t' hk=>hZ _ _ W (.int ns.sum) ls W.le_refl (hR.keepAll hk rfl rfl) ⟨_,by(rw [show vals.toArray.toList=vals from rfl,i2];rfl)⟩ hq
theorem Jj{a:Addr}{ns:List Int}(hk:Bj B.eB a ns)(hq:Q (.int ns.sum) ls):Spec B n (.builtin "sum") [.raw (.ref a)] [] ls Q:= .pos fun W s vals hR hv=>by
 obtain⟨v,t,rfl,hv,rfl⟩:=hv
 obtain rfl:v= .ref a:=hv
 refine⟨f4 _ _,fun A E Z hA hZ=> ?_⟩
 obtain⟨vals,nn,hget,hvs⟩:=hk
 obtain⟨i1,i2⟩:=Bw hvs
 exact KC hA.2.2 ⟨_,hR.keep _ _ (hR.base _ _ hget),rfl,_,rfl⟩ i1 fun h' tk t' hk=>hZ _ _ W (.int ns.sum) ls W.le_refl (hR.keepAll hk rfl rfl) ⟨_,by(rw [show vals.toArray.toList=vals from rfl,i2];rfl)⟩ hq
theorem Td{a:Int}(hq:Q (.int (if a<0 then -a else a)) ls):Spec B n (.builtin "abs") [.int a] [] ls Q:= .pos fun W s vals hR hv=>by
 refine o4 hv fun v t ee2 ee3 ee4=> ?_
 clear hv
 subst ee2
 obtain⟨u,rfl⟩:=ee3
 subst ee4
 exact⟨f4 _ _,fun A E Z hA hZ=>call_abs_int fun u tk=>hZ _ _ W (.int _) ls W.le_refl (hR.same rfl rfl rfl) ⟨_,rfl⟩ hq⟩
theorem Hy{b:Bool}(hq:Q (.int (if b then 1 else 0)) ls):Spec B n (.type "int") [.bool b] [] ls Q:= .pos fun W s vals hR hv=>by
 refine o4 hv fun v t ee2 ee3 ee4=> ?_
 clear hv
 subst ee2
 subst ee3
 subst ee4
 exact⟨Ja _ _,fun A E Z hA hZ=>call_int_bool (hZ _ _ W (.int _) ls W.le_refl (hR.same rfl rfl rfl) ⟨_,rfl⟩ hq)⟩
theorem MD{a b:Int}(hq:Q (.int (if b<a then b else a)) ls):Spec B n (.builtin "min") [.int a,.int b] [] ls Q:= .pos fun W s vals hR hv=>by
 refine o4 hv fun v t ee2 ee3 rr14=> ?_
 clear hv
 subst ee2
 obtain⟨u,rfl⟩:=ee3
 obtain⟨v',t',rfl,⟨u',rfl⟩,rfl⟩:=rr14
 refine⟨f4 _ _,fun A E Z hA hZ=>min_two_ints hA.2.2 fun h' tk hk=>hZ _ _ W (.int _) ls W.le_refl (hR.keepAll hk rfl rfl) ?_ hq⟩
 split<;>exact⟨_,rfl⟩
theorem SF{k:Nat}{ns:List Int}(hk:ls[k]? =some (ns.map .int))(hne:0<ns.length)(hq:∀M,M∈ns->(∀a∈ns,a<=M)->Q (.int M) ls):Spec B n (.builtin "max") [.lst k] [] ls Q:= .pos fun W s vals hR hv=>by
 obtain⟨v,t,rfl,hv,rfl⟩:=hv
 refine⟨f4 _ _,fun A E Z hA hZ=> ?_⟩
 obtain⟨a,vals,n',rfl,hr,hl,hvs⟩:=hR.list hv hk
 obtain⟨i1,i2⟩:=Bw hvs
 obtain⟨ys,hys⟩:=i1.items
 have hns:(ys.toList.map (·.1))=ns:=by(rw [←i2,←nums_intItems,←hys];rfl)
 have hsz:0<ys.size:=by rw [←hns]at hne;simpa using hne
 refine max_intList hA.2.2 (xs:=ys) (by rw [←hys];exact⟨_,hl,rfl,_,rfl⟩) hsz fun v h' tk hv hk=> ?_
 obtain⟨t,rfl⟩:=intItems_at hv
 obtain⟨g1,g2⟩:=argBest_gt (numAt ys) (ys.size-1)
 refine hZ _ _ W (.int _) ls W.le_refl (hR.keepAll hk rfl rfl) ⟨_,rfl⟩ (hq _ ?_ fun a ha=> ?_)
 ·rw [numAt_eq,←hns];exact getD_mem (by rw [length_map,Array.length_toList];lia)
 ·rw [←hns]at ha
  obtain⟨j,hj,rfl⟩:=mem_getD ha
  rw [length_map,Array.length_toList]at hj
  rw [←numAt_eq];exact g2 j (by lia)
theorem F6{k:Nat}{xs:List AV}{a:AV}(hk:ls[k]? =some xs)(hx:xs.length<=1000000)(hq:Q .none (ls.set k (xs++[a]))):Spec B n (.builtin "list.append") [.lst k,a] [] ls Q:= .pos fun W s vals hR hv=>by
 obtain⟨v,t,rfl,hv,v',t',rfl,hv',rfl⟩:=hv
 refine⟨f4 _ _,fun A E Z hA hZ=> ?_⟩
 obtain⟨l,vals,n',rfl,hr,hl,hvs⟩:=hR.list hv hk
 have hln:=hvs.length
 refine call_meets PySem.F.slot_list_append ⟨_,hl,rfl⟩ PySem.F.entry_list_append (PySem.F.args_list_append_2 _ _) (AutoListH.list_append_list_val_0 l vals.toArray n' v' (by unfold sizeLine;simp;exact e8 ‹_› ‹_› rfl)) ⟨hl,?_⟩
 refine hZ _ _ W .none _ W.le_refl (hR.setL hr (Heap.SameBut.update ..).extBut (vals:=vals++[v']) ⟨n'+1,?_⟩ (hvs.append (l5.one hv')) rfl rfl) rfl hq
 have:=PySem.IsL.update hl (fun x=>x.push v')
 simpa using this
set_option tactic.hygienic true in
theorem Fk{k:Nat}{xs:List AV}{j:Int}{a:AV}(hk:ls[k]? =some xs)(hx:xs.length<=1000000)(h0:0<=j)(h1:j<=xs.length)(hq:Q .none (ls.set k (xs.take j.toNat++a::xs.drop j.toNat))):Spec B n (.builtin "list.insert") [.lst k,.int j,a] [] ls Q:= .pos fun W s vals hR hv=>by
 obtain⟨v,t,rfl,hv,v',t',rfl,⟨u,rfl⟩,v'',t'',rfl,hv'',rfl⟩:=hv
 refine⟨f4 _ _,fun A E Z hA hZ=> ?_⟩
 obtain⟨l,vals,n',rfl,hr,hl,hvs⟩:=hR.list hv hk
 have hln:=hvs.length
 refine call_meets PySem.F.slot_list_insert ⟨_,hl,rfl⟩ PySem.F.entry_list_insert (PySem.F.args_list_insert_3 _ _ _) (AutoListH.list_insert_list_int_val_1 l vals.toArray n' j u v'' ?_ (by unfold sizeLine;simp;exact e8 ‹_› ‹_› rfl)) ⟨hl,?_⟩
 ·unfold Builtin.List.listFitsIndex
  simp;lia
 have hp:Heap.PlainList (s.heap.update l (Obj.mapSeq fun xs=>have k:=if j<0 then(j+((xs.size:Nat):Int)).toNat else min j.toNat xs.size;(xs.extract 0 k).push v''++xs.extract k)) l (vals.take j.toNat++v''::vals.drop j.toNat).toArray:=by
  have this:=PySem.IsL.update hl (fun xs=>have k:=if j<0 then(j+((xs.size:Nat):Int)).toNat else min j.toNat xs.size;(xs.extract 0 k).push v''++xs.extract k)
  have e:(fun xs:Array Value=>have k:=if j<0 then(j+((xs.size:Nat):Int)).toNat else min j.toNat xs.size;(xs.extract 0 k).push v''++xs.extract k) vals.toArray=(vals.take j.toNat++v''::vals.drop j.toNat).toArray:=by
   have hm:min j.toNat vals.length=j.toNat:=by exact ZX ‹_› ‹_›
   simp only [if_neg (show¬j<0 by exact aW ‹_›),size_toArray,hm]
   apply Array.ext'
   simp [take_of_length_le]
  exact⟨_,(congrArg (fun z=>PySem.IsL _ l z _) e).mp this⟩
 refine hZ _ _ W .none _ W.le_refl (hR.setL hr (Heap.SameBut.update ..).extBut hp ?_ rfl rfl) rfl hq
 refine l5.append ?_ ⟨v'',_,rfl,hv'',?_⟩
 ·exact l5.of_get (by simp [hln]) fun i x y e1 e2=>by
    rw [List.getElem?_take]at e1 e2
    split at e1
    ·next hi=>
     rw [if_pos hi]at e2
     obtain⟨y',e3,g⟩:=hvs.get i e1
     rw [e2]at e3;(replace e3:=Option.some.inj e3;subst e3);exact g
    ·exact on e1
 ·exact l5.of_get (by simp [hln]) fun i x y e1 e2=>by
    rw [List.getElem?_drop]at e1 e2
    obtain⟨y',e3,g⟩:=hvs.get _ e1
    rw [e2]at e3;(replace e3:=Option.some.inj e3;subst e3);exact g
theorem l5.reverse{W:Wd}{xs:List AV}{vals:List Value}(h:l5 W xs vals):l5 W xs.reverse vals.reverse:=by
 have hln:=h.length
 refine l5.of_get (by simp [hln]) fun i x y e1 e2=> ?_
 by_cases hi:i<xs.length
 ·rw [List.getElem?_reverse (by(first |assumption |lia))]at e1 e2
  rw [hln]at e2
  refine a9 (h.get _ e1) fun y' e3 g=> ?_
  rw [e2]at e3;(replace e3:=Option.some.inj e3;subst e3);exact g
 ·rw [getElem?_eq_none (by simp;exact n1 ‹_›)]at e1;exact on e1
theorem JK{k:Nat}{xs:List AV}(hk:ls[k]? =some xs)(hx:xs.length<=1000000)(hq:Q .none (ls.set k xs.reverse)):Spec B n (.builtin "list.reverse") [.lst k] [] ls Q:= .pos fun W s vals hR hv=>by
 obtain⟨v,t,rfl,hv,rfl⟩:=hv
 refine⟨f4 _ _,fun A E Z hA hZ=> ?_⟩
 obtain⟨l,vals,n',rfl,hr,hl,hvs⟩:=hR.list hv hk
 have hln:=hvs.length
 refine call_meets PySem.F.slot_list_reverse ⟨_,hl,rfl⟩ PySem.F.entry_list_reverse (PySem.F.args_list_reverse_1 _) (AutoListH.list_reverse_list_0 l vals.toArray n' (by unfold sizeLine;simp;exact e8 ‹_› ‹_› rfl)) ⟨hl,?_⟩
 refine hZ _ _ W .none _ W.le_refl (hR.setL hr (Heap.SameBut.update ..).extBut (vals:=vals.reverse) ⟨n',?_⟩ hvs.reverse rfl rfl) rfl hq
 have:=PySem.IsL.update hl (fun x=>x.reverse)
 simpa using this
theorem Dn{a:Int}(hq:Q (.int (Builtin.Int.intBits a)) ls):Spec B n (.builtin "int.bit_length") [.int a] [] ls Q:= .pos fun W s vals hR hv=>by
 refine o4 hv fun v t ee2 ee3 ee4=> ?_
 clear hv
 subst ee2
 obtain⟨u,rfl⟩:=ee3
 subst ee4
 exact⟨f4 _ _,fun A E Z hA hZ=>call_int_bit_length (hZ _ _ W (.int _) ls W.le_refl (hR.same rfl rfl rfl) ⟨_,rfl⟩ hq)⟩
theorem EP{x y:Str}(hx:tooLong (placed x fun i _=>Unicode.lowerAt x.cps i).size=false)(hy:(⟨placed x fun i _=>Unicode.lowerAt x.cps i⟩:Str)=y)(hq:Q (.str y) ls):Spec B n (.builtin "str.lower") [.str x] [] ls Q:= .pos fun W s vals hR hv=>by
 refine o4 hv fun v t ee2 ee3 ee4=> ?_
 clear hv
 subst ee2
 obtain⟨u,rfl⟩:=ee3
 subst ee4
 subst hy
 refine⟨f4 _ _,fun A E Z hA hZ=> ?_⟩
 refine call_meets PySem.F.slot_str_lower (typeIs_str _ _ _) PySem.F.entry_str_lower (PySem.F.args_str_lower_1 _) (Gives.meets (gives_str_lower x u hx)) ?_
 exact⟨by have:=hx;simp [tooLong]at this;exact this,hZ _ _ W (.str _) ls W.le_refl (hR.same rfl rfl rfl) ⟨_,rfl⟩ hq⟩
theorem DI{W:Wd}:∀{xs:List Str}{vals:List Value},l5 W (xs.map .str) vals->∃l:List (Str×Tok),vals=strValues l∧l.map (·.1)=xs
 | [],_,h=>⟨[],h,rfl⟩
 |a::r,_,⟨v,t,e,⟨tk,e2⟩,h⟩=>by
  refine a9 (DI h) fun l h1 h2=> ?_
  exact⟨(a,tk)::l,by rw [e,e2,h1];rfl,by(rw [map_cons,h2];rfl)⟩
theorem IP{W:Wd}:∀{l:List (Str×Tok)},l5 W ((l.map (·.1)).map .str) (strValues l)
 | []=>rfl
 | (a,t)::r=>⟨_,_,rfl,⟨t,rfl⟩,IP⟩
theorem Lg{x:Str}{k:Nat}{xs:List Str}(hk:ls[k]? =some (xs.map .str))(hok:JoinOk x xs=true)(hq:Q (.str (Txt.join x xs)) ls):Spec B n (.builtin "str.join") [.str x,.lst k] [] ls Q:= .pos fun W s vals hR hv=>by
 refine o4 hv fun v t ee2 ee3 rr34=> ?_
 clear hv
 subst ee2
 obtain⟨u,rfl⟩:=ee3
 obtain⟨v',t',rfl,hv',rfl⟩:=rr34
 refine⟨f4 _ _,fun A E Z hA hZ=> ?_⟩
 refine r5 (hR.list hv' hk) fun a vals n' ee3 hr hl hvs=> ?_
 subst ee3
 refine a9 (DI hvs) fun l ee1 hl2=> ?_
 subst ee1
 exact SC.join ⟨_,hl,rfl,_,rfl⟩ hl2 hok fun t' k=>hZ _ _ W (.str _) ls W.le_refl (hR.same rfl rfl rfl) ⟨_,rfl⟩ hq
theorem Ij{x y:Str}(hy:(y.length==0)=false)(hx:x.length<=1000000)(hn:(partsBetween x (occurrences x y 0 x.length (x.length+1)) y.length).length<=1000000)
  (hq:Q (.lst ls.length) (ls++[(Txt.split x y).map .str])):Spec B n (.builtin "str.split") [.str x,.str y] [] ls Q:= .pos fun W s vals hR hv=>by
 refine o4 hv fun v t ee2 ee3 rr37=> ?_
 clear hv
 subst ee2
 obtain⟨u,rfl⟩:=ee3
 obtain⟨v',t',rfl,⟨u',rfl⟩,rfl⟩:=rr37
 refine⟨f4 _ _,fun A E Z hA hZ=> ?_⟩
 have fin:∀(l:List (Str×Tok))(tk:Nat),l.map (·.1)=Txt.split x y->Z (.ref s.heap.objs.size) {s with toks:=tk,heap:=s.heap.push {cls:= .type "list",data:= .seq (strValues l).toArray}}:=fun l tk e=>by
  obtain⟨r,hv⟩:=hR.newList (s':={s with toks:=tk,heap:=s.heap.push {cls:= .type "list",data:= .seq (strValues l).toArray}}) (vs:=(Txt.split x y).map .str) (by rw [←e];exact IP) rfl rfl rfl
  exact hZ _ _ _ _ _ (B0 _ _) r hv hq
 have s1:x.length<=sizeLine:=by unfold sizeLine;exact u2 ‹_› rfl
 cases h1:(decide (x.length<y.length) ||decide (strKind x<strKind y))
 ·cases hf:(occurrences x y 0 x.length (x.length+1)).isEmpty
  ·refine call_meets PySem.F.slot_str_split (typeIs_str _ _ _) PySem.F.entry_str_split (PySem.F.args_str_split_2 _ _) (meets_str_split_sep x y u u' h1 hy hf s1 (by unfold sizeLine;exact u2 ‹_› rfl)) ?_
   show wants Z E _ {s with toks:=_,heap:=s.heap.push {cls:= .type "list",data:= .seq (strsFrom s.toks (partsBetween x (occurrences x y 0 x.length (x.length+1)) y.length)).toArray}}
   rw [strsFrom_eq]
   exact fin (numbered s.toks _) _ ((numbered_texts _ _).trans ((if_neg (ne_true_of_eq_false h1)).trans (if_neg (ne_true_of_eq_false hf))).symm)
  ·exact call_meets PySem.F.slot_str_split (typeIs_str _ _ _) PySem.F.entry_str_split (PySem.F.args_str_split_2 _ _) (meets_str_split_not_found x y u u' h1 hy hf)
    (fin [(x,u)] _ ((if_neg (ne_true_of_eq_false h1)).trans (if_pos hf)).symm)
 ·exact call_meets PySem.F.slot_str_split (typeIs_str _ _ _) PySem.F.entry_str_split (PySem.F.args_str_split_2 _ _) (meets_str_split_cannot_occur x y u u' h1)
   (fin [(x,u)] _ (if_pos h1).symm)
end
end
section
open PySem PySem.W PySem.Calls PyProof.Rows
set_option maxRecDepth 100000
set_option maxHeartbeats 4000000
noncomputable def GI:List (Str×Value):=[("_DIV_LIMIT",.int 4000 284),("_MAX_STRING_SIZE",.int 40 491),("_MOVE_COST",.int 2 493),("_CASE_COST",.int 1 495)]
noncomputable def GL:List (Str×Value):=([("_digits2int",.ref 59),("_div2n1n",.ref 38),("_div3n2n",.ref 45),("_divmod_pos",.ref 66),("_int2digits",.ref 52),("_law_dots",.ref 154),("_law_far",.ref 161),("_law_pivots",.ref 175),("_law_row",.ref 147),("_law_sums",.ref 168),("_levenshtein_distance",.ref 140),("_substitution_cost",.ref 133),("bisect_left",.ref 109),("bisect_right",.ref 91),("insort_left",.ref 100),("insort_right",.ref 82),("int_divmod",.ref 73),("quotedata",.ref 126),("len",.builtin "len"),("sum",.builtin "sum"),("abs",.builtin "abs"),("min",.builtin "min"),("max",.builtin "max"),("sorted",.builtin "sorted"),("divmod",.builtin "divmod"),("enumerate",.type "enumerate"),("int",.type "int"),("list",.type "list"),("range",.type "range"),("reversed",.type "reversed")]:List (Str×Value))++GI
noncomputable def U6:List Str:=(["a","b","n"]:List Str)
noncomputable def ER:List Str:=(["pad","half_n","mask","b1","b2","q1","r","q2"]:List Str)
noncomputable def AZ:o7:=(.cons (.ite (.cmp (.bin .sub (.meth (.var 0) "bit_length" .nil) (.var 2)) .le (.int 4000)) (.cons (.ret (.call (.glob (.builtin "divmod")) (.cons (.var 0) (.cons (.var 1) .nil))))
 .nil) .nil)
 (.cons (.asg 3 (.bin .and (.var 2) (.int 1)))
 (.cons (.ite (.var 3) (.cons (.aug 0 .shl (.int 1))
 (.cons (.aug 1 .shl (.int 1))
 (.cons (.aug 2 .add (.int 1))
 .nil))) .nil)
 (.cons (.asg 4 (.bin .shr (.var 2) (.int 1)))
 (.cons (.asg 5 (.bin .sub (.bin .shl (.int 1) (.var 4)) (.int 1)))
 (.cons (.unp 6 7 (.tup (.cons (.bin .shr (.var 1) (.var 4)) (.cons (.bin .and (.var 1) (.var 5)) .nil))))
 (.cons (.unp 8 9 (.call (.glob (.ref 45)) (.cons (.bin .shr (.var 0) (.var 2)) (.cons (.bin .and (.bin .shr (.var 0) (.var 4)) (.var 5)) (.cons (.var 1) (.cons (.var 6) (.cons (.var 7) (.cons (.var 4) .nil))))))))
 (.cons (.unp 10 9 (.call (.glob (.ref 45)) (.cons (.var 9) (.cons (.bin .and (.var 0) (.var 5)) (.cons (.var 1) (.cons (.var 6) (.cons (.var 7) (.cons (.var 4) .nil))))))))
 (.cons (.ite (.var 3) (.cons (.aug 9 .shr (.int 1))
 .nil) .nil)
 (.cons (.ret (.tup (.cons (.bin .or (.bin .shl (.var 8) (.var 4)) (.var 10)) (.cons (.var 9) .nil))))
 .nil))))))))))
noncomputable def U5:List Str:=(["a12","a3","b","b1","b2","n"]:List Str)
noncomputable def Eb:List Str:=(["q","r"]:List Str)
noncomputable def El:o7:=(.cons (.ite (.cmp (.bin .shr (.var 0) (.var 5)) .eq (.var 3)) (.cons (.unp 6 7 (.tup (.cons (.bin .sub (.bin .shl (.int 1) (.var 5)) (.int 1)) (.cons (.bin .add (.bin .sub (.var 0) (.bin .shl (.var 3) (.var 5))) (.var 3)) .nil))))
 .nil) (.cons (.unp 6 7 (.call (.glob (.ref 38)) (.cons (.var 0) (.cons (.var 3) (.cons (.var 5) .nil)))))
 .nil))
 (.cons (.asg 7 (.bin .sub (.bin .or (.bin .shl (.var 7) (.var 5)) (.var 1)) (.bin .mul (.var 6) (.var 4))))
 (.cons (.while (.cmp (.var 7) .lt (.int 0)) (.cons (.aug 6 .sub (.int 1))
 (.cons (.aug 7 .add (.var 2))
 .nil)))
 (.cons (.ret (.tup (.cons (.var 6) (.cons (.var 7) .nil))))
 .nil))))
noncomputable def s9:List Str:=(["a","n"]:List Str)
noncomputable def B4:List Str:=(["a_digits","inner"]:List Str)
noncomputable def s8:List Str:=(["digits","n"]:List Str)
noncomputable def B5:List Str:=(["inner"]:List Str)
noncomputable def H9:o7:=(.cons (.ret (.ite (.var 0) (.call (.var 2) (.cons (.int 0) (.cons (.call (.glob (.builtin "len")) (.cons (.var 0) .nil)) .nil))) (.int 0)))
 .nil)
noncomputable def I2:List Str:=(["a","b"]:List Str)
noncomputable def AN:List Str:=(["n","a_digits","r","q_digits","a_digit","q_digit","q"]:List Str)
noncomputable def AR:o7:=(.cons (.asg 2 (.meth (.var 1) "bit_length" .nil))
 (.cons (.asg 3 (.call (.glob (.ref 52)) (.cons (.var 0) (.cons (.var 2) .nil))))
 (.cons (.asg 4 (.int 0))
 (.cons (.asg 5 (.list .nil))
 (.cons (.for (.one 6) (.rev (.var 3)) (.cons (.unp 7 4 (.call (.glob (.ref 38)) (.cons (.bin .add (.bin .shl (.var 4) (.var 2)) (.var 6)) (.cons (.var 1) (.cons (.var 2) .nil)))))
 (.cons (.expr (.meth (.var 5) "append" (.cons (.var 7) .nil)))
 .nil)))
 (.cons (.expr (.meth (.var 5) "reverse" .nil))
 (.cons (.asg 8 (.call (.glob (.ref 59)) (.cons (.var 5) (.cons (.var 2) .nil))))
 (.cons (.ret (.tup (.cons (.var 8) (.cons (.var 4) .nil))))
 .nil))))))))
noncomputable def D4:List Str:=(["a","b"]:List Str)
noncomputable def K1:List Str:=(["q","r"]:List Str)
noncomputable def K2:o7:=(.cons (.ite (.cmp (.var 1) .eq (.int 0)) (.cons .bad
 .nil) (.cons (.ite (.cmp (.var 1) .lt (.int 0)) (.cons (.unp 2 3 (.call (.glob (.ref 73)) (.cons (.neg (.var 0)) (.cons (.neg (.var 1)) .nil))))
 (.cons (.ret (.tup (.cons (.var 2) (.cons (.neg (.var 3)) .nil))))
 .nil)) (.cons (.ite (.cmp (.var 0) .lt (.int 0)) (.cons (.unp 2 3 (.call (.glob (.ref 73)) (.cons (.inv (.var 0)) (.cons (.var 1) .nil))))
 (.cons (.ret (.tup (.cons (.inv (.var 2)) (.cons (.bin .add (.var 1) (.inv (.var 3))) .nil))))
 .nil)) (.cons (.ret (.call (.glob (.ref 66)) (.cons (.var 0) (.cons (.var 1) .nil))))
 .nil))
 .nil))
 .nil))
 .nil)
noncomputable def N1:List Str:=(["a","x","lo","hi","key"]:List Str)
noncomputable def Ac:List Str:=[]
noncomputable def Y9:o7:=(.cons (.ite (.cmp (.var 4) .is .none) (.cons (.asg 2 (.call (.glob (.ref 91)) (.cons (.var 0) (.cons (.var 1) (.cons (.var 2) (.cons (.var 3) .nil))))))
 .nil) (.cons (.asg 2 (.callk (.glob (.ref 91)) (.cons (.var 0) (.cons (.call (.var 4) (.cons (.var 1) .nil)) (.cons (.var 2) (.cons (.var 3) .nil)))) "key" (.var 4)))
 .nil))
 (.cons (.expr (.meth (.var 0) "insert" (.cons (.var 2) (.cons (.var 1) .nil))))
 .nil))
noncomputable def C7:List Str:=(["a","x","lo","hi","key"]:List Str)
noncomputable def Z6:List Str:=(["mid"]:List Str)
noncomputable def L8:o7:=(.cons (.ite (.cmp (.var 2) .lt (.int 0)) (.cons .bad
 .nil) .nil)
 (.cons (.ite (.cmp (.var 3) .is .none) (.cons (.asg 3 (.call (.glob (.builtin "len")) (.cons (.var 0) .nil)))
 .nil) .nil)
 (.cons (.ite (.cmp (.var 4) .is .none) (.cons (.while (.cmp (.var 2) .lt (.var 3)) (.cons (.asg 5 (.bin .fdiv (.bin .add (.var 2) (.var 3)) (.int 2)))
 (.cons (.ite (.cmp (.var 1) .lt (.item (.var 0) (.var 5))) (.cons (.asg 3 (.var 5))
 .nil) (.cons (.asg 2 (.bin .add (.var 5) (.int 1)))
 .nil))
 .nil)))
 .nil) (.cons (.while (.cmp (.var 2) .lt (.var 3)) (.cons (.asg 5 (.bin .fdiv (.bin .add (.var 2) (.var 3)) (.int 2)))
 (.cons (.ite (.cmp (.var 1) .lt (.call (.var 4) (.cons (.item (.var 0) (.var 5)) .nil))) (.cons (.asg 3 (.var 5))
 .nil) (.cons (.asg 2 (.bin .add (.var 5) (.int 1)))
 .nil))
 .nil)))
 .nil))
 (.cons (.ret (.var 2))
 .nil))))
noncomputable def R7:List Str:=(["a","x","lo","hi","key"]:List Str)
noncomputable def AL:List Str:=[]
noncomputable def AM:o7:=(.cons (.ite (.cmp (.var 4) .is .none) (.cons (.asg 2 (.call (.glob (.ref 109)) (.cons (.var 0) (.cons (.var 1) (.cons (.var 2) (.cons (.var 3) .nil))))))
 .nil) (.cons (.asg 2 (.callk (.glob (.ref 109)) (.cons (.var 0) (.cons (.call (.var 4) (.cons (.var 1) .nil)) (.cons (.var 2) (.cons (.var 3) .nil)))) "key" (.var 4)))
 .nil))
 (.cons (.expr (.meth (.var 0) "insert" (.cons (.var 2) (.cons (.var 1) .nil))))
 .nil))
noncomputable def E8:List Str:=(["a","x","lo","hi","key"]:List Str)
noncomputable def AF:List Str:=(["mid"]:List Str)
noncomputable def Q7:o7:=(.cons (.ite (.cmp (.var 2) .lt (.int 0)) (.cons .bad
 .nil) .nil)
 (.cons (.ite (.cmp (.var 3) .is .none) (.cons (.asg 3 (.call (.glob (.builtin "len")) (.cons (.var 0) .nil)))
 .nil) .nil)
 (.cons (.ite (.cmp (.var 4) .is .none) (.cons (.while (.cmp (.var 2) .lt (.var 3)) (.cons (.asg 5 (.bin .fdiv (.bin .add (.var 2) (.var 3)) (.int 2)))
 (.cons (.ite (.cmp (.item (.var 0) (.var 5)) .lt (.var 1)) (.cons (.asg 2 (.bin .add (.var 5) (.int 1)))
 .nil) (.cons (.asg 3 (.var 5))
 .nil))
 .nil)))
 .nil) (.cons (.while (.cmp (.var 2) .lt (.var 3)) (.cons (.asg 5 (.bin .fdiv (.bin .add (.var 2) (.var 3)) (.int 2)))
 (.cons (.ite (.cmp (.call (.var 4) (.cons (.item (.var 0) (.var 5)) .nil)) .lt (.var 1)) (.cons (.asg 2 (.bin .add (.var 5) (.int 1)))
 .nil) (.cons (.asg 3 (.var 5))
 .nil))
 .nil)))
 .nil))
 (.cons (.ret (.var 2))
 .nil))))
noncomputable def w9:List Str:=(["ch_a","ch_b"]:List Str)
noncomputable def J0:List Str:=[]
noncomputable def I4:o7:=(.cons (.ite (.cmp (.var 0) .eq (.var 1)) (.cons (.ret (.int 0))
 .nil) .nil)
 (.cons (.ite (.cmp (.meth (.var 0) "lower" .nil) .eq (.meth (.var 1) "lower" .nil)) (.cons (.ret (.int 1))
 .nil) .nil)
 (.cons (.ret (.int 2))
 .nil)))
noncomputable def r7:List Str:=(["a","b","max_cost"]:List Str)
noncomputable def F9:List Str:=(["pre","post","row","result","bindex","bchar","distance","minimum","index","substitute","insert_delete"]:List Str)
noncomputable def F8:o7:=(.cons (.ite (.cmp (.var 0) .eq (.var 1)) (.cons (.ret (.int 0))
 .nil) .nil)
 (.cons (.asg 3 (.int 0))
 (.cons (.while (.and (.slice (.var 0) (.var 3) .none .none) (.and (.slice (.var 1) (.var 3) .none .none) (.cmp (.item (.var 0) (.var 3)) .eq (.item (.var 1) (.var 3))))) (.cons (.aug 3 .add (.int 1))
 .nil))
 (.cons (.asg 0 (.slice (.var 0) (.var 3) .none .none))
 (.cons (.asg 1 (.slice (.var 1) (.var 3) .none .none))
 (.cons (.asg 4 (.int 0))
 (.cons (.while (.and (.slice (.var 0) .none (.or (.var 4) .none) .none) (.and (.slice (.var 1) .none (.or (.var 4) .none) .none) (.cmp (.item (.var 0) (.bin .sub (.var 4) (.int 1))) .eq (.item (.var 1) (.bin .sub (.var 4) (.int 1)))))) (.cons (.aug 4 .sub (.int 1))
 .nil))
 (.cons (.asg 0 (.slice (.var 0) .none (.or (.var 4) .none) .none))
 (.cons (.asg 1 (.slice (.var 1) .none (.or (.var 4) .none) .none))
 (.cons (.ite (.or (.not (.var 0)) (.not (.var 1))) (.cons (.ret (.bin .mul (.int 2) (.bin .add (.call (.glob (.builtin "len")) (.cons (.var 0) .nil)) (.call (.glob (.builtin "len")) (.cons (.var 1) .nil)))))
 .nil) .nil)
 (.cons (.ite (.or (.cmp (.call (.glob (.builtin "len")) (.cons (.var 0) .nil)) .gt (.int 40)) (.cmp (.call (.glob (.builtin "len")) (.cons (.var 1) .nil)) .gt (.int 40))) (.cons (.ret (.bin .add (.var 2) (.int 1)))
 .nil) .nil)
 (.cons (.ite (.cmp (.call (.glob (.builtin "len")) (.cons (.var 1) .nil)) .lt (.call (.glob (.builtin "len")) (.cons (.var 0) .nil))) (.cons (.unp 0 1 (.tup (.cons (.var 1) (.cons (.var 0) .nil))))
 .nil) .nil)
 (.cons (.ite (.cmp (.bin .mul (.bin .sub (.call (.glob (.builtin "len")) (.cons (.var 1) .nil)) (.call (.glob (.builtin "len")) (.cons (.var 0) .nil))) (.int 2)) .gt (.var 2)) (.cons (.ret (.bin .add (.var 2) (.int 1)))
 .nil) .nil)
 (.cons (.asg 5 (.rlist (.int 2) (.bin .mul (.int 2) (.bin .add (.call (.glob (.builtin "len")) (.cons (.var 0) .nil)) (.int 1))) (.int 2)))
 (.cons (.asg 6 (.int 0))
 (.cons (.for (.one 7) (.range1 (.call (.glob (.builtin "len")) (.cons (.var 1) .nil))) (.cons (.asg 8 (.item (.var 1) (.var 7)))
 (.cons (.asg2 9 6 (.bin .mul (.var 7) (.int 2)))
 (.cons (.asg 10 (.int 9223372036854775807))
 (.cons (.for (.one 11) (.range1 (.call (.glob (.builtin "len")) (.cons (.var 0) .nil))) (.cons (.asg 12 (.bin .add (.var 9) (.call (.glob (.ref 133)) (.cons (.var 8) (.cons (.item (.var 0) (.var 11)) .nil)))))
 (.cons (.asg 9 (.item (.var 5) (.var 11)))
 (.cons (.asg 13 (.bin .add (.call (.glob (.builtin "min")) (.cons (.var 6) (.cons (.var 9) .nil))) (.int 2)))
 (.cons (.asg 6 (.call (.glob (.builtin "min")) (.cons (.var 13) (.cons (.var 12) .nil))))
 (.cons (.seti (.var 5) (.var 11) (.var 6))
 (.cons (.ite (.cmp (.var 6) .lt (.var 10)) (.cons (.asg 10 (.var 6))
 .nil) .nil)
 .nil)))))))
 (.cons (.ite (.cmp (.var 10) .gt (.var 2)) (.cons (.ret (.bin .add (.var 2) (.int 1)))
 .nil) .nil)
 .nil))))))
 (.cons (.ret (.var 6))
 .nil)))))))))))))))))
noncomputable def U3:List Str:=(["cell","more"]:List Str)
noncomputable def DD:List Str:=(["dots"]:List Str)
noncomputable def Ey:o7:=(.cons (.asg 2 (.bin .mod (.var 0) (.int 7)))
 (.cons (.ite (.cmp (.var 2) .gt (.int 0)) (.cons (.asg 2 (.bin .add (.var 2) (.var 1)))
 .nil) .nil)
 (.cons (.ret (.bin .add (.bin .add (.bin .mul (.str ".") (.var 2)) (.item (.str "aA") (.bin .mod (.bin .fdiv (.var 0) (.int 7)) (.int 2)))) (.str ".")))
 .nil)))
noncomputable def P3:List Str:=(["row"]:List Str)
noncomputable def CO:List Str:=[]
noncomputable def CF:o7:=(.cons (.ret (.bin .sub (.call (.glob (.builtin "len")) (.cons (.var 0) .nil)) (.int 2)))
 .nil)
noncomputable def X1:List Str:=(["one","other"]:List Str)
noncomputable def Eo:List Str:=[]
noncomputable def Em:o7:=(.cons (.ret (.bin .add (.bin .mul (.int 2) (.call (.glob (.builtin "abs")) (.cons (.bin .sub (.call (.glob (.builtin "len")) (.cons (.var 0) .nil)) (.call (.glob (.builtin "len")) (.cons (.var 1) .nil))) .nil))) (.call (.glob (.type "int")) (.cons (.cmp (.item (.var 0) (.neg (.int 2))) .ne (.item (.var 1) (.neg (.int 2)))) .nil))))
 .nil)
noncomputable def P5:List Str:=(["halves"]:List Str)
noncomputable def Cz:List Str:=(["sums","chosen","place","grown","row","product","old"]:List Str)
noncomputable def CY:o7:=(.cons (.asg 1 (.bin .mul (.list (.cons (.int 0) .nil)) (.call (.glob (.builtin "len")) (.cons (.var 0) .nil))))
 (.cons (.asg 2 (.list (.cons (.tup (.cons (.list .nil) (.cons (.int 1) .nil))) .nil)))
 (.cons (.for (.one 3) (.range1 (.call (.glob (.builtin "len")) (.cons (.var 0) .nil))) (.cons (.asg 4 (.list .nil))
 (.cons (.for (.two 5 6) (.list (.var 2)) (.cons (.for (.one 7) (.list (.var 5)) (.cons (.asg 6 (.bin .mul (.var 6) (.bin .pow (.item (.item (.var 0) (.var 3)) (.var 7)) (.int 2))))
 .nil))
 (.cons (.seti (.var 1) (.call (.glob (.builtin "len")) (.cons (.var 5) .nil)) (.bin .add (.item (.var 1) (.call (.glob (.builtin "len")) (.cons (.var 5) .nil))) (.var 6)))
 (.cons (.expr (.meth (.var 4) "append" (.cons (.tup (.cons (.bin .add (.var 5) (.list (.cons (.var 3) .nil))) (.cons (.var 6) .nil))) .nil)))
 .nil))))
 (.cons (.asg 2 (.bin .add (.var 2) (.var 4)))
 .nil))))
 (.cons (.ret (.var 1))
 .nil))))
noncomputable def H6:List Str:=(["table"]:List Str)
noncomputable def AE:List Str:=(["pivots","last","step","pivot","row","column"]:List Str)
noncomputable def AH:o7:=(.cons (.asg 1 (.list .nil))
 (.cons (.asg 2 (.int 1))
 (.cons (.for (.one 3) (.range1 (.call (.glob (.builtin "len")) (.cons (.var 0) .nil))) (.cons (.asg 4 (.item (.item (.var 0) (.var 3)) (.var 3)))
 (.cons (.expr (.meth (.var 1) "append" (.cons (.var 4) .nil)))
 (.cons (.ite (.cmp (.var 4) .eq (.int 0)) (.cons (.ret (.var 1))
 .nil) .nil)
 (.cons (.for (.one 5) (.list (.slice (.var 0) (.bin .add (.var 3) (.int 1)) .none .none)) (.cons (.for (.one 6) (.range (.bin .add (.var 3) (.int 1)) (.call (.glob (.builtin "len")) (.cons (.var 0) .nil))) (.cons (.seti (.var 5) (.var 6) (.bin .fdiv (.bin .sub (.bin .mul (.var 4) (.item (.var 5) (.var 6))) (.bin .mul (.item (.var 5) (.var 3)) (.item (.item (.var 0) (.var 3)) (.var 6)))) (.var 2)))
 .nil))
 .nil))
 (.cons (.asg 2 (.var 4))
 .nil))))))
 (.cons (.ret (.var 1))
 .nil))))
noncomputable def G6:List Str:=(["script"]:List Str)
noncomputable def N8:List Str:=(["total","cells","place","start","times","rows","cell","mail","turn","row","shelf","kinds"]:List Str)++(["count","sign","width","base","lower","dots","often","upper","first","left","second","rest"]:List Str)++(["some","powers","halves","low","due","told","extra","fresh","line","behind","product","known"]:List Str)++(["sums","table","pivots"]:List Str)
noncomputable def FA:o7:=(.cons (.asg 1 (.call (.glob (.builtin "sum")) (.cons (.var 0) .nil)))
 (.cons (.asg 2 (.comp (.bin .mod (.bin .add (.var 4) (.call (.glob (.builtin "sum")) (.cons (.slice (.var 0) (.var 3) .none (.int 5)) .nil))) (.int 42)) (.two 3 4) (.enum (.tup (.cons (.int 3) (.cons (.int 21) (.cons (.int 40) (.cons (.int 10) (.cons (.int 15) .nil))))))) [0]))
 (.cons (.asg 5 (.bin .add (.int 1) (.bin .mod (.bin .add (.var 1) (.int 1)) (.int 3))))
 (.cons (.asg 6 (.comp (.call (.glob (.ref 147)) (.cons (.var 7) (.cons (.var 5) .nil))) (.one 7) (.list (.var 2)) [5]))
 (.cons (.asg 8 (.bin .add (.meth (.str "") "join" (.cons (.comp (.bin .add (.call (.glob (.ref 147)) (.cons (.var 7) (.cons (.int 0) .nil))) (.item (.tup (.cons (.str "\n") (.cons (.str "\r\n") (.cons (.str "\r") .nil)))) (.bin .fdiv (.var 7) (.int 14)))) (.one 7) (.list (.var 2)) []) .nil)) (.str "\r")))
 (.cons (.for (.one 9) (.range1 (.var 5)) (.cons (.asg 8 (.call (.glob (.ref 126)) (.cons (.var 8) .nil)))
 .nil))
 (.cons (.ite (.cmp (.var 8) .ne (.bin .add (.meth (.str "") "join" (.cons (.comp (.bin .add (.var 10) (.str "\r\n")) (.one 10) (.list (.var 6)) []) .nil)) (.str "\r\n"))) (.cons (.ret (.bool false))
 .nil) .nil)
 (.cons (.asg 11 (.bin .mul (.list (.cons (.bin .mul (.str ".") (.int 20)) (.cons (.str "") .nil))) (.bin .mod (.var 1) (.int 2))))
 (.cons (.for (.one 10) (.list (.slice (.meth (.var 8) "split" (.cons (.str "\r\n") .nil)) .none (.int 5) .none)) (.cons (.ite (.cmp (.bin .mod (.var 1) (.int 2)) .eq (.int 1)) (.cons (.expr (.callk (.glob (.ref 100)) (.cons (.var 11) (.cons (.var 10) (.cons (.int 1) (.cons (.bin .sub (.call (.glob (.builtin "len")) (.cons (.var 11) .nil)) (.int 1)) .nil)))) "key" (.glob (.ref 154))))
 .nil) (.cons (.expr (.callk (.glob (.ref 82)) (.cons (.var 11) (.cons (.var 10) .nil)) "key" (.glob (.ref 154))))
 .nil))
 .nil))
 (.cons (.ite (.cmp (.bin .mod (.var 1) (.int 2)) .eq (.int 1)) (.cons (.asg 11 (.slice (.var 11) (.int 1) (.neg (.int 1)) .none))
 .nil) .nil)
 (.cons (.ite (.cmp (.var 11) .ne (.callk (.glob (.builtin "sorted")) (.cons (.ite (.cmp (.bin .mod (.var 1) (.int 2)) .eq (.int 1)) (.slice (.var 6) .none .none (.neg (.int 1))) (.var 6)) .nil) "key" (.glob (.ref 154)))) (.cons (.ret (.bool false))
 .nil) .nil)
 (.cons (.asg 12 (.list .nil))
 (.cons (.for (.two 3 10) (.enum (.var 11)) (.cons (.ite (.cmp (.callk (.glob (.ref 109)) (.cons (.var 11) (.cons (.call (.glob (.ref 154)) (.cons (.var 10) .nil)) (.cons (.int 0) (.cons (.bin .add (.var 3) (.int 1)) .nil)))) "key" (.glob (.ref 154))) .eq (.var 3)) (.cons (.expr (.meth (.var 12) "append" (.cons (.tup (.cons (.call (.glob (.ref 154)) (.cons (.var 10) .nil)) (.cons (.bin .sub (.callk (.glob (.ref 91)) (.cons (.var 11) (.cons (.call (.glob (.ref 154)) (.cons (.var 10) .nil)) (.cons (.var 3) .nil))) "key" (.glob (.ref 154))) (.var 3)) .nil))) .nil)))
 .nil) .nil)
 .nil))
 (.cons (.asg 13 (.call (.glob (.builtin "len")) (.cons (.var 12) .nil)))
 (.cons (.asg 14 (.bin .sub (.int 1) (.bin .mul (.int 2) (.bin .mod (.bin .fdiv (.var 1) (.int 2)) (.int 2)))))
 (.cons (.asg 15 (.bin .add (.bin .add (.int 36) (.bin .mod (.bin .fdiv (.var 1) (.int 3)) (.int 29))) (.bin .mul (.int 1400) (.call (.glob (.type "int")) (.cons (.cmp (.bin .mod (.bin .fdiv (.var 1) (.int 87)) (.int 8)) .eq (.int 5)) .nil)))))
 (.cons (.asg 16 (.bin .pow (.int 2) (.var 15)))
 (.cons (.asg 17 (.int 1))
 (.cons (.for (.two 18 19) (.list (.var 12)) (.cons (.asg 17 (.bin .mul (.var 17) (.bin .sub (.var 16) (.var 18))))
 .nil))
 (.cons (.asg 20 (.call (.glob (.builtin "sum")) (.cons (.comp (.bin .mul (.var 19) (.bin .fdiv (.var 17) (.bin .sub (.var 16) (.var 18)))) (.two 18 19) (.list (.var 12)) [16,17]) .nil)))
 (.cons (.unp 21 22 (.call (.glob (.ref 73)) (.cons (.bin .mul (.bin .mul (.var 14) (.var 20)) (.bin .pow (.var 16) (.var 13))) (.cons (.bin .mul (.var 14) (.var 17)) .nil))))
 (.cons (.unp 23 24 (.call (.glob (.ref 73)) (.cons (.bin .mul (.neg (.var 22)) (.bin .pow (.var 16) (.var 13))) (.cons (.bin .mul (.var 14) (.var 17)) .nil))))
 (.cons (.ite (.or (.cmp (.bin .add (.bin .mul (.bin .mul (.var 23) (.var 14)) (.var 17)) (.var 24)) .ne (.bin .mul (.neg (.var 22)) (.bin .pow (.var 16) (.var 13)))) (.not (.cmp2 (.int 0) .le (.bin .mul (.var 14) (.var 24)) .lt (.var 17)))) (.cons (.ret (.bool false))
 .nil) .nil)
 (.cons (.asg 25 (.call (.glob (.type "int")) (.cons (.cmp (.call (.glob (.builtin "max")) (.cons (.comp (.call (.glob (.ref 154)) (.cons (.var 10) .nil)) (.one 10) (.list (.var 6)) []) .nil)) .gt (.int 0)) .nil)))
 (.cons (.asg 26 (.bin .add (.bin .add (.slice (.call (.glob (.ref 52)) (.cons (.var 21) (.cons (.var 15) .nil))) .none .none (.neg (.int 1))) (.slice (.call (.glob (.ref 52)) (.cons (.bin .sub (.neg (.var 23)) (.var 25)) (.cons (.var 15) .nil))) .none .none (.neg (.int 1)))) (.bin .mul (.list (.cons (.int 0) .nil)) (.bin .sub (.int 1) (.var 25)))))
 (.cons (.ite (.cmp (.call (.glob (.builtin "len")) (.cons (.var 26) .nil)) .ne (.bin .mul (.int 2) (.var 13))) (.cons (.ret (.bool false))
 .nil) .nil)
 (.cons (.asg 27 (.list .nil))
 (.cons (.for (.two 3 10) (.enum (.var 11)) (.cons (.expr (.meth (.var 27) "append" (.cons (.list .nil) .nil)))
 (.cons (.for (.one 28) (.range1 (.var 3)) (.cons (.asg 29 (.call (.glob (.ref 161)) (.cons (.var 10) (.cons (.item (.var 11) (.var 28)) .nil))))
 (.cons (.ite (.cmp (.bin .mod (.bin .add (.var 3) (.var 28)) (.int 2)) .eq (.int 1)) (.cons (.asg 30 (.call (.glob (.ref 140)) (.cons (.var 10) (.cons (.item (.var 11) (.var 28)) (.cons (.var 29) .nil)))))
 .nil) (.cons (.asg 30 (.call (.glob (.ref 140)) (.cons (.item (.var 11) (.var 28)) (.cons (.var 10) (.cons (.bin .sub (.var 29) (.int 1)) .nil)))))
 .nil))
 (.cons (.ite (.cmp (.var 30) .ne (.var 29)) (.cons (.ret (.bool false))
 .nil) .nil)
 (.cons (.expr (.meth (.item (.var 27) (.var 3)) "append" (.cons (.bin .fdiv (.var 30) (.int 2)) .nil)))
 .nil)))))
 .nil)))
 (.cons (.asg 31 (.bin .mod (.bin .add (.var 1) (.int 4)) (.int 12)))
 (.cons (.asg 32 (.bin .add (.bin .add (.bin .mul (.str ".") (.var 31)) (.item (.str "aA") (.bin .mod (.bin .fdiv (.var 1) (.int 12)) (.int 2)))) (.str ".")))
 (.cons (.asg 33 (.bin .add (.bin .add (.list (.cons (.int 99) (.cons (.int 99) (.cons (.int 99) .nil)))) (.comp (.var 18) (.two 18 19) (.list (.var 12)) [])) (.list (.cons (.neg (.int 1)) (.cons (.neg (.int 1)) (.cons (.neg (.int 1)) .nil))))))
 (.cons (.asg 34 (.call (.glob (.ref 91)) (.cons (.var 33) (.cons (.var 31) (.cons (.int 3) (.cons (.bin .add (.var 13) (.int 3)) .nil))))))
 (.cons (.asg 35 (.bin .sub (.int 1) (.bin .mul (.int 2) (.bin .mod (.bin .sub (.bin .sub (.var 34) (.var 13)) (.int 3)) (.int 2)))))
 (.cons (.for (.two 18 19) (.list (.var 12)) (.cons (.asg 36 (.item (.var 11) (.callk (.glob (.ref 109)) (.cons (.var 11) (.cons (.var 18) .nil)) "key" (.glob (.ref 154)))))
 (.cons (.asg 30 (.call (.glob (.ref 140)) (.cons (.var 32) (.cons (.var 36) (.cons (.int 99) .nil)))))
 (.cons (.ite (.cmp (.var 30) .ne (.call (.glob (.ref 161)) (.cons (.var 32) (.cons (.var 36) .nil)))) (.cons (.ret (.bool false))
 .nil) .nil)
 (.cons (.asg 35 (.bin .mul (.var 35) (.bin .fdiv (.var 30) (.int 2))))
 .nil)))))
 (.cons (.ite (.cmp (.bin .sub (.var 34) (.call (.glob (.ref 109)) (.cons (.var 33) (.cons (.var 31) (.cons (.int 3) (.cons (.bin .add (.var 13) (.int 3)) .nil)))))) .ne (.call (.glob (.type "int")) (.cons (.cmp (.var 35) .eq (.int 0)) .nil))) (.cons (.ret (.bool false))
 .nil) .nil)
 (.cons (.asg 37 (.call (.glob (.ref 168)) (.cons (.var 27) .nil)))
 (.cons (.asg 38 (.comp (.slice (.var 26) (.var 3) (.bin .add (.bin .add (.var 3) (.var 13)) (.int 1)) .none) (.one 3) (.range1 (.var 13)) [13,26]))
 (.cons (.expr (.meth (.var 38) "append" (.cons (.comp (.bin .pow (.var 31) (.var 3)) (.one 3) (.range1 (.bin .add (.var 13) (.int 1))) [31]) .nil)))
 (.cons (.asg 39 (.call (.glob (.ref 175)) (.cons (.var 38) .nil)))
 (.cons (.ite (.cmp (.var 39) .ne (.bin .add (.slice (.var 37) .none (.var 13) .none) (.list (.cons (.bin .mul (.item (.var 37) (.bin .sub (.var 13) (.int 1))) (.var 35)) .nil)))) (.cons (.ret (.bool false))
 .nil) .nil)
 .nil))))))))))))))))))))))))))))))))))))))))
@[reducible] noncomputable def KK(P:Params):Frag:=Mine.hd.heap_1 P
noncomputable def f3(K:Frag)(f:Addr):FuncData:=match K.lookup f with
 |some ⟨_,_,.func fd,_⟩=>fd
 |_=>default
noncomputable def i6(K:Frag)(f:Addr):List Stmt:=match(f3 K f).body with
 | .stmts b=>b
 |_=>[]
noncomputable def D1(K:Frag)(f:Addr)(params loc:List Str):Bool:=
 (match K.lookup f with
  |some ⟨_,_,.func _,_⟩=>true
  |_=>false)&&(match(f3 K f).body with
  | .stmts _=>true
  |_=>false)&&(f3 K f).globals==mainGlobals&&(f3 K f).builtins==builtinsNs&&(f3 K f).scope.kind== .function&& !(f3 K f).scope.isCoroutine&& !(f3 K f).scope.isGenerator&&
 decide (((f3 K f).scope.names.map (·.1)).Nodup)&&(f3 K f).closure.isEmpty&&codeIn K (f3 K f).code (f3 K f).qualname&&decide ((params++loc).Nodup)&&
 params.all fun x=>(f3 K f).scope.names.lookup x==some .local || (f3 K f).scope.names.lookup x==some .cell
theorem CP(P:Params):D1 (KK P) 38 U6 ER=true:=by kernel_rfl
theorem Cy(P:Params):l9 GL (U6++ER) true (f3 (KK P) 38).scope (i6 (KK P) 38) AZ=true:=by kernel_rfl
theorem IN(P:Params):D1 (KK P) 45 U5 Eb=true:=by kernel_rfl
theorem Jb(P:Params):l9 GL (U5++Eb) true (f3 (KK P) 45).scope (i6 (KK P) 45) El=true:=by kernel_rfl
theorem EN(P:Params):D1 (KK P) 52 s9 B4=true:=by kernel_rfl
theorem EH(P:Params):D1 (KK P) 59 s8 B5=true:=by kernel_rfl
theorem Ei(P:Params):D1 (KK P) 66 I2 AN=true:=by kernel_rfl
theorem Ea(P:Params):l9 GL (I2++AN) true (f3 (KK P) 66).scope (i6 (KK P) 66) AR=true:=by kernel_rfl
theorem E5(P:Params):D1 (KK P) 73 D4 K1=true:=by kernel_rfl
theorem R2(P:Params):l9 GL (D4++K1) true (f3 (KK P) 73).scope (i6 (KK P) 73) K2=true:=by kernel_rfl
theorem De(P:Params):D1 (KK P) 82 N1 Ac=true:=by kernel_rfl
theorem Db(P:Params):l9 GL (N1++Ac) true (f3 (KK P) 82).scope (i6 (KK P) 82) Y9=true:=by kernel_rfl
theorem J1(P:Params):D1 (KK P) 91 C7 Z6=true:=by kernel_rfl
theorem J2(P:Params):l9 GL (C7++Z6) true (f3 (KK P) 91).scope (i6 (KK P) 91) L8=true:=by kernel_rfl
theorem DJ(P:Params):D1 (KK P) 100 R7 AL=true:=by kernel_rfl
theorem DV(P:Params):l9 GL (R7++AL) true (f3 (KK P) 100).scope (i6 (KK P) 100) AM=true:=by kernel_rfl
theorem N0(P:Params):D1 (KK P) 109 E8 AF=true:=by kernel_rfl
theorem O2(P:Params):l9 GL (E8++AF) true (f3 (KK P) 109).scope (i6 (KK P) 109) Q7=true:=by kernel_rfl
theorem Y1(P:Params):D1 (KK P) 133 w9 J0=true:=by kernel_rfl
theorem Y2(P:Params):l9 GL (w9++J0) true (f3 (KK P) 133).scope (i6 (KK P) 133) I4=true:=by kernel_rfl
theorem S0(P:Params):D1 (KK P) 140 r7 F9=true:=by kernel_rfl
theorem R6(P:Params):l9 GL (r7++F9) true (f3 (KK P) 140).scope (i6 (KK P) 140) F8=true:=by kernel_rfl
theorem Ip(P:Params):D1 (KK P) 147 U3 DD=true:=by kernel_rfl
theorem Iw(P:Params):l9 GL (U3++DD) true (f3 (KK P) 147).scope (i6 (KK P) 147) Ey=true:=by kernel_rfl
theorem Gl(P:Params):D1 (KK P) 154 P3 CO=true:=by kernel_rfl
theorem GX(P:Params):l9 GL (P3++CO) true (f3 (KK P) 154).scope (i6 (KK P) 154) CF=true:=by kernel_rfl
theorem Ii(P:Params):D1 (KK P) 161 X1 Eo=true:=by kernel_rfl
theorem IL(P:Params):l9 GL (X1++Eo) true (f3 (KK P) 161).scope (i6 (KK P) 161) Em=true:=by kernel_rfl
theorem Hr(P:Params):D1 (KK P) 168 P5 Cz=true:=by kernel_rfl
theorem Hq(P:Params):l9 GL (P5++Cz) true (f3 (KK P) 168).scope (i6 (KK P) 168) CY=true:=by kernel_rfl
theorem DT(P:Params):D1 (KK P) 175 H6 AE=true:=by kernel_rfl
theorem Dx(P:Params):l9 GL (H6++AE) true (f3 (KK P) 175).scope (i6 (KK P) 175) AH=true:=by kernel_rfl
theorem TJ(P:Params):D1 (KK P) 180 G6 N8=true:=by kernel_rfl
theorem Ta(P:Params):l9 GL (G6++N8) true (f3 (KK P) 180).scope ((i6 (KK P) 180).dropLast) FA=true:=by kernel_rfl
end
section

open PySem PySem.W PySem.Calls PyProof.Rows
set_option maxRecDepth 100000
set_option maxHeartbeats 4000000
theorem Rx{o:Option Obj}(h:(match o with
  |some ⟨_,_,.func _,_⟩=>true
  |_=>false)=true):∃a b fd d,o=some ⟨a,b,.func fd,d⟩:=by
 cases o with
 |none=>exact ft h
 |some o=>
  obtain⟨a,b,c,d⟩:=o
  cases c with
  |func fd=>exact⟨a,b,fd,d,rfl⟩
  |_=>exact ft h
theorem NT{o:FuncBody}(h:(match o with
  | .stmts _=>true
  |_=>false)=true):∃b,o= .stmts b:=by
 cases o with
 |stmts b=>exact⟨b,rfl⟩
 |_=>exact ft h
theorem CC{B:Bs}{K:Frag}(X:K.In B.eB)(hl:B.eB.NoLimit){f:Addr}{ps loc:List Str}(c:D1 K f ps loc=true):
  Jm B f (f3 K f) (i6 K f)∧(f3 K f).closure=[]∧(ps++loc).Nodup∧∀x∈ps,(f3 K f).scope.names.lookup x=some .local∨(f3 K f).scope.names.lookup x=some .cell:=by
 unfold D1 at c
 refine b7 (b9 c) fun c c12=> ?_
 refine b7 (b9 c) fun c c11=> ?_
 refine b7 (b9 c) fun c c10=> ?_
 refine b7 (b9 c) fun c c9=> ?_
 refine b7 (b9 c) fun c c8=> ?_
 refine b7 (b9 c) fun c c7=> ?_
 refine b7 (b9 c) fun c c6=> ?_
 refine b7 (b9 c) fun c c5=> ?_
 refine b7 (b9 c) fun c c4=> ?_
 refine b7 (b9 c) fun c c3=> ?_
 refine b7 (b9 c) fun c c2=> ?_
 refine⟨⟨?_,codeRec_of X c10,hl,?_,eq_of_beq c3,eq_of_beq c4,eq_of_beq c5,AC c6,AC c7,of_decide_eq_true c8⟩,List.isEmpty_iff.mp c9,of_decide_eq_true c11,fun x hx=>((Bool.or_eq_true _ _).mp (all_eq_true.mp c12 x hx)).imp eq_of_beq eq_of_beq⟩
 ·obtain⟨a,b,fd,d,e⟩:=Rx c
  exact⟨_,X _ _ e,by unfold f3;(rw [e];rfl)⟩
 ·obtain⟨b,e⟩:=NT c2
  unfold i6
  (rw [e];rfl)
noncomputable def Bx(K:Frag)(G:List (Str×Value)):Bool:=G.all fun x=>nsIn K mainGlobals x.1==some (some x.2) || (nsIn K mainGlobals x.1==some none&&bootBuiltins x.1==some x.2&& !(x.1==("__name__":Str)))
theorem Gu{B:Bs}{K:Frag}(X:K.In B.eB){p:Program}{loose:List Str}{mg mb:Str->Option Value}(T:TopRead p loose mg mb B.eB){G:List (Str×Value)}(c:Bx K G=true):i7 B G:=by
 intro x v h
 unfold Bx at c
 rw [all_eq_true]at c
 have:=c _ (mem_of_lookup h)
 simp only [Bool.or_eq_true,Bool.and_eq_true,beq_iff_eq,Bool.not_eq_true',beq_eq_false_iff_ne]at this
 rcases this with e |⟨⟨e1,e2⟩,e3⟩
 ·exact .inl ⟨mg,T.g,mg_of X T.g e⟩
 ·exact .inr ⟨mg,mb,T.g,mg_none_of X T.g e1,T.b,(T.builtins x e3).trans e2⟩
theorem ZO(P:Params):Bx (KK P) GL=true:=by kernel_rfl
end
section
open PySem PySem.W PySem.Calls PyProof.Rows
set_option maxRecDepth 100000
set_option maxHeartbeats 4000000
structure Ctx(B:Bs)(P:Params):Prop where
 X:(KK P).In B.eB
 lim:B.eB.NoLimit
 G:i7 B GL
theorem Spec.mono{B:Bs}{n m:Nat}(h:n<=m){f:Value}{args:List AV}{kw:List (Str×AV)}{ls:Ls}{Q:AV->Ls->Prop}(c:Spec B n f args kw ls Q):Spec B m f args kw ls Q:=
 fun W s vals kvs hR hv hk=>⟨(c W s vals kvs hR hv hk).1,fun A E Z hA hZ=>(c W s vals kvs hR hv hk).2 A E Z (hA.mono h) hZ⟩
theorem Fa.refl(ls:Ls):Fa ls ls:=fun _ _ _ h=> .inl h
theorem ND{α:Type}{l:List α}(h:l.length=1):∃a,l=[a]:=by
 match l,h with
 | [a],_=>exact⟨a,rfl⟩
theorem IB{α:Type}{l:List α}(h:l.length=2):∃a b,l=[a,b]:=by
 match l,h with
 | [a,b],_=>exact⟨a,b,rfl⟩
theorem TO{α:Type}{l:List α}(h:l.length=3):∃a b c,l=[a,b,c]:=by
 match l,h with
 | [a,b,c],_=>exact⟨a,b,c,rfl⟩
theorem aD{α:Type}{l:List α}(h:l.length=6):∃a b c d e f,l=[a,b,c,d,e,f]:=by
 match l,h with
 | [a,b,c,d,e,f],_=>exact⟨a,b,c,d,e,f,rfl⟩
section
variable{B:Bs}{P:Params}(C:Ctx B P){n:Nat}{ls:Ls}{Q:AV->Ls->Prop}
include C
theorem y7{f:Addr}{ps loc:List Str}{xs:o7}(ck:D1 (KK P) f ps loc=true)(cx:l9 GL (ps++loc) true (f3 (KK P) f).scope (i6 (KK P) f) xs=true){args:List AV}(hlen:args.length=ps.length)
  (hb:∀vals:List Value,vals.length=ps.length->bindArgs (f3 (KK P) f) ⟨vals,[]⟩=pure (ps.zip vals))
  (hw:d9 B n xs ⟨args.map some++List.replicate loc.length none,ls⟩ (D8 ls Q)):Spec B (n+1) (.ref f) args [] ls Q:=by
 refine BM (CC C.X C.lim ck) fun F h1 h2 h3=> ?_
 refine IK C.G F h1 h2 h3 cx hlen (fun W s vals kvs _ hv hk=> ?_) hw
 obtain rfl:kvs=[]:=hk
 exact⟨vals,BindsTo.of_eq (hb vals (by(rw [hv.length,hlen];rfl))),hv⟩
end
theorem JE(P:Params):∀vals:List Value,vals.length=P3.length->bindArgs (f3 (KK P) 154) ⟨vals,[]⟩=pure (P3.zip vals):=fun vals h=>by
 refine f8 (ND h) fun a ee1=> ?_
 subst ee1
 kernel_rfl
theorem Me(P:Params):∀vals:List Value,vals.length=U3.length->bindArgs (f3 (KK P) 147) ⟨vals,[]⟩=pure (U3.zip vals):=fun vals h=>by
 refine I9 (IB h) fun a b ee2=> ?_
 subst ee2
 kernel_rfl
theorem LF(P:Params):∀vals:List Value,vals.length=X1.length->bindArgs (f3 (KK P) 161) ⟨vals,[]⟩=pure (X1.zip vals):=fun vals h=>by
 refine I9 (IB h) fun a b ee2=> ?_
 subst ee2
 kernel_rfl
theorem PZ(P:Params):∀vals:List Value,vals.length=w9.length->bindArgs (f3 (KK P) 133) ⟨vals,[]⟩=pure (w9.zip vals):=fun vals h=>by
 refine I9 (IB h) fun a b ee2=> ?_
 subst ee2
 kernel_rfl
theorem WE(P:Params):∀vals:List Value,vals.length=r7.length->bindArgs (f3 (KK P) 140) ⟨vals,[]⟩=pure (r7.zip vals):=fun vals h=>by
 refine Ll (TO h) fun a b c ee3=> ?_
 subst ee3
 kernel_rfl
theorem Gh(P:Params):∀vals:List Value,vals.length=U6.length->bindArgs (f3 (KK P) 38) ⟨vals,[]⟩=pure (U6.zip vals):=fun vals h=>by
 refine Ll (TO h) fun a b c ee3=> ?_
 subst ee3
 kernel_rfl
theorem LQ(P:Params):∀vals:List Value,vals.length=U5.length->bindArgs (f3 (KK P) 45) ⟨vals,[]⟩=pure (U5.zip vals):=fun vals h=>by
 refine UL (aD h) fun a b c d e f ee6=> ?_
 subst ee6
 kernel_rfl
theorem Hv(P:Params):∀vals:List Value,vals.length=s9.length->bindArgs (f3 (KK P) 52) ⟨vals,[]⟩=pure (s9.zip vals):=fun vals h=>by
 refine I9 (IB h) fun a b ee2=> ?_
 subst ee2
 kernel_rfl
theorem GV(P:Params):∀vals:List Value,vals.length=s8.length->bindArgs (f3 (KK P) 59) ⟨vals,[]⟩=pure (s8.zip vals):=fun vals h=>by
 refine I9 (IB h) fun a b ee2=> ?_
 subst ee2
 kernel_rfl
theorem Gx(P:Params):∀vals:List Value,vals.length=I2.length->bindArgs (f3 (KK P) 66) ⟨vals,[]⟩=pure (I2.zip vals):=fun vals h=>by
 refine I9 (IB h) fun a b ee2=> ?_
 subst ee2
 kernel_rfl
theorem J4(P:Params):∀vals:List Value,vals.length=D4.length->bindArgs (f3 (KK P) 73) ⟨vals,[]⟩=pure (D4.zip vals):=fun vals h=>by
 refine I9 (IB h) fun a b ee2=> ?_
 subst ee2
 kernel_rfl
theorem JN(P:Params):∀vals:List Value,vals.length=P5.length->bindArgs (f3 (KK P) 168) ⟨vals,[]⟩=pure (P5.zip vals):=fun vals h=>by
 refine f8 (ND h) fun a ee1=> ?_
 subst ee1
 kernel_rfl
theorem Gr(P:Params):∀vals:List Value,vals.length=H6.length->bindArgs (f3 (KK P) 175) ⟨vals,[]⟩=pure (H6.zip vals):=fun vals h=>by
 refine f8 (ND h) fun a ee1=> ?_
 subst ee1
 kernel_rfl
mutual
theorem VR.ofK{W W':Wd}(h:∀a o,W.K a=some o->o.cls= .type "tuple"->W'.K a=some o):∀{a:AV}{v:Value},m8 0 a=true->VR W a v->VR W' a v
 | .none,_,_,e=>e
 | .bool _,_,_,e=>e
 | .int _,_,_,e=>e
 | .str _,_,_,e=>e
 | .raw _,_,_,e=>e
 | .lst k,_,hb,_=>by unfold m8 at hb;simp at hb
 | .tup vs,_,hb,⟨a,o,arr,e,g,t,r⟩=>⟨a,o,arr,e,h _ _ g t.1,t,l5.ofK h (by unfold m8 at hb;exact hb) r⟩
theorem l5.ofK{W W':Wd}(h:∀a o,W.K a=some o->o.cls= .type "tuple"->W'.K a=some o):∀{as:List AV}{vs:List Value},l8 0 as=true->l5 W as vs->l5 W' as vs
 | [],_,_,e=>e
 |a::r,_,hb,⟨v,t,e,g,hr⟩=>by
  unfold l8 at hb
  simp only [Bool.and_eq_true]at hb
  exact⟨v,t,e,VR.ofK h hb.1 g,l5.ofK h hb.2 hr⟩
end
theorem Spec.frame{B:Bs}(hpins:B.pins=[]){n:Nat}{f:Value}{args:List AV}{ls:Ls}{Q:AV->Ls->Prop}(hb:l8 0 args=true)(c:Spec B n f args [] [] fun v _=>m8 0 v=true∧Q v ls):Spec B n f args [] ls Q:=by
 intro W s vals kvs hR hv hk
 obtain rfl:kvs=[]:=hk
 have hlist:∀a∈W.ρ,∃vals,s.heap.PlainList a vals:=fun a ha=>by
  obtain⟨k,hk,e⟩:=getElem_of_mem ha
  have hk':k<ls.length:=by rw [←hR.len];exact hk
  refine a9 (hR.lists k a ls[k] (by(rw [getElem?_eq_getElem hk,e];rfl)) (getElem?_eq_getElem hk')) fun vals h1 _=> ?_
  exact⟨_,h1⟩
 have z:RL B ⟨fun a=>if a∈W.ρ then s.heap.get? a else W.K a,[]⟩ [] s:={
  base:=fun a o e=>by
   have:=hR.base a o e
   show(if a∈W.ρ then _ else W.K a)=_
   rw [if_neg (fun hm=>by rw [hR.off a hm]at this;exact on this)];exact this
  keep:=fun a o e=>by
   change(if a∈W.ρ then _ else W.K a)=_ at e
   split at e
   ·exact e
   ·exact hR.keep _ _ e
  len:=rfl
  off:=fun a ha=>by cases ha
  nd:=List.nodup_nil
  lists:=fun k a vs h=>by simp at h
  gens:=hR.gens
  os:=hR.os
  tabs:=fun c P q hm=>by
   refine B2 (hR.tabs c P q hm) fun a1 a2 rr3=> ?_
   obtain⟨ps,a3,a4,a5⟩:=rr3
   refine⟨?_,fun h=>(by cases h),ps,a3,a4,fun pos c' e=> ?_⟩
   ·show(if P∈W.ρ then _ else W.K P)=_
    rw [if_neg a2];exact a1
   ·refine DX (a5 pos c' e) fun a o vs t e1 e2 r=> ?_
    refine⟨a,o,vs,t,e1,?_,r⟩
    show(if a∈W.ρ then _ else W.K a)=_
    rw [if_neg (fun hm=>by rw [hR.off a hm]at e2;exact on e2)];exact e2
  pins:=fun k a hm=>by rw [hpins]at hm;cases hm}
 have hv':=l5.ofK (W':=⟨fun a=>if a∈W.ρ then s.heap.get? a else W.K a,[]⟩) (fun a o e _=>by
  show(if a∈W.ρ then _ else W.K a)=_
  rw [if_neg (fun hm=>by rw [hR.off a hm]at e;exact on e)];exact e) hb hv
 refine b7 (c _ s vals [] z hv' rfl) fun k1 k2=> ?_
 refine⟨k1,fun A E Z hA hZ=>k2 A E Z hA fun a s' W' b ls' hl r hv ⟨hb',hq⟩=> ?_⟩
 have kept:∀a∈W.ρ,W'.K a=s.heap.get? a∧s'.heap.get? a=s.heap.get? a:=fun a ha=>by
  refine I9 (hlist a ha) fun vals n hx=> ?_
  have e1:(Wd.mk (fun a=>if a∈W.ρ then s.heap.get? a else W.K a) []).K a=some _:=(if_pos ha).trans hx
  have e2:=hl.1 _ _ e1
  exact⟨e2.trans hx.symm,(r.keep _ _ e2).trans hx.symm⟩
 have nl:∀a∈W.ρ,∀o,W'.K a=some o->o.cls= .type "list":=fun a ha o e=>by
  refine I9 (hlist a ha) fun vals n hx=> ?_
  rw [(kept a ha).1,hx]at e
  (replace e:=Option.some.inj e;subst e);rfl
 have le:W.le ⟨fun a=>if a∈W.ρ then none else W'.K a,W.ρ⟩:=⟨fun a o e=>by
  show(if a∈W.ρ then _ else W'.K a)=_
  rw [if_neg (fun hm=>by rw [hR.off a hm]at e;exact on e)]
  refine hl.1 _ _ ?_
  show(if a∈W.ρ then _ else W.K a)=_
  rw [if_neg (fun hm=>by rw [hR.off a hm]at e;exact on e)];exact e,[],by simp⟩
 refine hZ a s' ⟨fun a=>if a∈W.ρ then none else W'.K a,W.ρ⟩ b ls le ?_ ?_ hq
 ·exact {
   base:=fun a o e=>le.1 _ _ (hR.base a o e)
   keep:=fun a o e=>by
    change(if a∈W.ρ then _ else W'.K a)=_ at e
    split at e
    ·exact on e
    ·exact r.keep _ _ e
   len:=hR.len
   off:=fun a ha=>if_pos ha
   nd:=hR.nd
   lists:=fun k a vs h1 h2=>by
    refine a9 (hR.lists k a vs h1 h2) fun vals h3 h4=> ?_
    refine⟨vals,?_,h4.mono le⟩
    obtain⟨n,h3⟩:=h3
    exact⟨n,((kept a (mem_of_getElem? h1)).2).trans h3⟩
   gens:=r.gens
   os:=r.os
   tabs:=fun c P q hm=>by
    refine B2 (r.tabs c P q hm) fun a1 a2 rr10=> ?_
    obtain⟨ps,a3,a4,a5⟩:=rr10
    refine⟨?_,(hR.tabs c P q hm).2.1,ps,a3,a4,fun pos c' e=> ?_⟩
    ·show(if P∈W.ρ then _ else W'.K P)=_
     split
     ·rfl
     ·exact a1
    ·refine DX (a5 pos c' e) fun a o vs t e1 e2 r'=> ?_
     refine⟨a,o,vs,t,e1,?_,r'⟩
     show(if a∈W.ρ then _ else W'.K a)=_
     rw [if_neg (fun hm=>by have:=nl a hm o e2;rw [r'.1]at this;injection this with e;exact absurd e (by decide))]
     exact e2
   pins:=fun k a hm=>by rw [hpins]at hm;cases hm}
 ·refine VR.ofK (W:=W') (fun a o e ht=> ?_) hb' hv
  show(if a∈W.ρ then _ else W'.K a)=_
  rw [if_neg (fun hm=>by have:=nl a hm o e;rw [ht]at this;injection this with e;exact absurd e (by decide))]
  exact e
noncomputable def k9(d:Nat)(b:Bool):Str:=⟨(List.replicate d 46++[if b then 65 else 97,46]).toArray⟩
theorem j8(d:Nat)(b:Bool):(k9 d b).length=d+2:=by simp [k9,Str.length]
theorem Str.ext'{x y:Str}(h:x.cps.toList=y.cps.toList):x=y:=by
 cases x;cases y;simp only [Str.mk.injEq];exact Array.toList_inj.mp h
theorem FT(c:Array Nat):∀(n:Nat)(acc:Array Nat),((List.replicate n c).foldl (· ++ ·) acc).toList=acc.toList++(List.replicate n c.toList).flatten
 |0,acc=>by simp
 |n+1,acc=>by
  (rw [replicate_succ,foldl_cons];rewrite [FT c n];rw [replicate_succ,flatten_cons,Array.toList_append,append_assoc];rfl)
set_option tactic.hygienic true in
theorem HQ(n:Nat):(Txt.mul "." (n:Int)).cps.toList=List.replicate n 46:=by
 unfold Txt.mul
 split
 ·next h=>
  have:n=0:=by lia
  subst this;rfl
 ·split
  ·next h=>
   have:n=1:=by
    rcases(Bool.or_eq_true _ _).mp h with h |h
    ·have:=eq_of_beq h;lia
    ·exact absurd h (by decide)
   subst this;rfl
  ·show((List.replicate (n:Int).toNat (Str.ofString ".").cps).foldl (· ++ ·) #[]).toList=_
   rw [FT,show(Str.ofString ".").cps.toList=[46] by decide]
   simp
theorem Dk{n:Nat}(h:n<=100):MulOk "." (n:Int):=by
 unfold MulOk
 have e:(Str.ofString ".").length=1:=by decide
 refine⟨by simp;lia,fun h1 h2=> ?_,fun h1 h2=> ?_⟩
 ·rw [e]
  have:(1:Int)<=(2^63-1)/(n:Int):=by
   refine Int.le_ediv_of_mul_le (by lia) ?_
   lia
  exact aW ‹_›
 ·rw [e];unfold Builtin.Str.tooLong sizeLine;simp;exact u2 ‹_› rfl
noncomputable def Qp:AV->Option Int
 | .int i=>some i
 |_=>none
noncomputable def QK(o:HC)(a b:Int):Option AV:=match o with
 | .add=>some (.int (a+b))
 | .sub=>some (.int (a-b))
 | .and=>some (.int (Builtin.bitAnd a b))
 | .or=>some (.int (Builtin.bitOr a b))
 | .xor=>some (.int (Builtin.bitXor a b))
 | .mod=>if b=0 then none else some (.int (a.fmod b))
 |_=>none
noncomputable def aV(vars:List (Option AV))(f:Ex->Option AV)(e:Ex):Option AV:=match e with
 | .var i=>(vars[i]?).bind id
 | .glob v=>some (.raw v)
 | .none=>some .none
 | .bool b=>some (.bool b)
 | .int i=>some (.int i)
 | .str x=>some (.str x)
 | .bin o l r=>(f l).bind fun a=>(Qp a).bind fun a=>(f r).bind fun b=>(Qp b).bind fun b=>QK o a b
 | .neg x=>(f x).bind fun a=>(Qp a).bind fun a=>some (.int (-a))
 |_=>none
noncomputable def pN(vars:List (Option AV))(n:Nat):Ex->Option AV:=n.rec (fun _=>none) fun _ f=>aV vars f
noncomputable def pE(vars:List (Option AV)):Ex->Option AV:=pN vars 9
noncomputable def Xe(vars:List (Option AV)):Bp->Option (List AV)
 | .nil=>some []
 | .cons e r=>(pE vars e).bind fun v=>(Xe vars r).bind fun vs=>some (v::vs)
theorem Ev{a:AV}{i:Int}(h:Qp a=some i):a= .int i:=by
 cases a<;>(first |exact on h | (replace h:=Option.some.inj h;subst h))
 rfl
@[reducible] def PX(a b:Int)(ls:Ls)(Q:AV->Ls->Prop):Prop:=∀{o:HC}{v:AV}(h:QK o a b=some v)(q:Q v ls),O8 o (.int a) (.int b) ls Q
noncomputable def AX:Uc:=ec fun u=>PX (u.i 0) (u.i 1) (u.l 0) u.q
theorem Yq:PX (AX.i 0) (AX.i 1) (AX.l 0) AX.q:=fun{o}{v} h q=>by
 cases o with
 |mod=>
  by_cases h0:(AX.i 1)=0
  ·rw [show QK .mod (AX.i 0) (AX.i 1)=none from if_pos h0]at h;exact on h
  ·rw [show QK .mod (AX.i 0) (AX.i 1)=some (.int ((AX.i 0).fmod (AX.i 1)))from if_neg h0]at h
   (replace h:=Option.some.inj h;subst h);exact⟨h0,q⟩
 |_=>(first | (replace h:=Option.some.inj h;subst h) |exact on h)<;>exact q
theorem SU{a b:Int}{ls:Ls}{Q:AV->Ls->Prop}:PX a b ls Q:=by with_unfolding_all exact hk (q:=fun u:Uc=>PX (u.i 0) (u.i 1) (u.l 0) u.q) Yq (.mk AX.b AX.p AX.f Q AX.v [ls] [] [a,b] [] [] [] [] [] [] [] [] [] [] [] [])
section
variable{B:Bs}{n:Nat}{σ:St}
theorem Yk{f:Ex->Option AV}(hf:∀e v(Q:AV->St->Prop),f e=some v->Q v σ->t9 B n e σ Q)(e:Ex)(v:AV)(Q:AV->St->Prop)(h:aV σ.vars f e=some v)(q:Q v σ):t9 B n e σ Q:=by
 cases e with
 |var i=>
  obtain⟨a,h1,h2⟩:=Option.bind_eq_some_iff.mp h
  exact P1 (h1.trans (congrArg some h2)) q
 |glob=>(replace h:=Option.some.inj h;subst h);exact JH q
 |none=>(replace h:=Option.some.inj h;subst h);exact F4 q
 |bool=>(replace h:=Option.some.inj h;subst h);exact TB q
 |int=>(replace h:=Option.some.inj h;subst h);exact P7 q
 |str=>(replace h:=Option.some.inj h;subst h);exact Sj q
 |bin o l r=>
  obtain⟨x,hx,h⟩:=Option.bind_eq_some_iff.mp h
  obtain⟨a,ha,h⟩:=Option.bind_eq_some_iff.mp h
  obtain⟨y,hy,h⟩:=Option.bind_eq_some_iff.mp h
  obtain⟨b,hb,h⟩:=Option.bind_eq_some_iff.mp h
  rw [Ev ha]at hx
  rw [Ev hb]at hy
  exact Id (hf _ _ _ hx (hf _ _ _ hy (SU (Q:=fun v ls=>Q v ⟨σ.vars,ls⟩) h q)))
 |neg x=>
  obtain⟨y,hx,h⟩:=Option.bind_eq_some_iff.mp h
  obtain⟨a,ha,h⟩:=Option.bind_eq_some_iff.mp h
  rw [Ev ha]at hx
  (replace h:=Option.some.inj h;subst h)
  exact BU (hf _ _ _ hx q)
 |_=>exact on h
theorem ZR:∀(k:Nat)(e:Ex)(v:AV)(Q:AV->St->Prop),pN σ.vars k e=some v->Q v σ->t9 B n e σ Q:=fun k=>by
 induction k with
 |zero=>intro _ _ _ h;exact on h
 |succ k ih=>exact Yk ih
theorem R8{e:Ex}{v:AV}{Q:AV->St->Prop}(h:pE σ.vars e=some v)(q:Q v σ):t9 B n e σ Q:=ZR 9 e v Q h q
theorem Gs:∀{es:Bp}{vs:List AV}{Q:List AV->St->Prop},Xe σ.vars es=some vs->Q vs σ->AU B n es σ Q
 | .nil,_,Q,h,q=>by(replace h:=Option.some.inj h;subst h);exact Ce q
 | .cons e r,_,Q,h,q=>by
  obtain⟨x,hx,h⟩:=Option.bind_eq_some_iff.mp h
  obtain⟨xs,hs,h⟩:=Option.bind_eq_some_iff.mp h
  (replace h:=Option.some.inj h;subst h)
  exact G3 (R8 hx (Gs hs q))
theorem YU{l r:Ex}{o:HE}{a b:AV}{t:Bool}{R':Bool->St->Prop}(h1:pE σ.vars l=some a)(h2:pE σ.vars r=some b)(h3:Bm σ.lists o a b=some t)(q:R' t σ):DR B n (.cmp l o r) σ R':=Eh (R8 h1 (R8 h2 (b8 h3 q)))
theorem XF{u:Value}{args:Bp}{vs:List AV}{Q:AV->St->Prop}(h:Xe σ.vars args=some vs)(q:Spec B n u vs [] σ.lists fun v ls=>Q v ⟨σ.vars,ls⟩):t9 B n (.call (.glob u) args) σ Q:=EX (Gs h q)
theorem WU{o:Ex}{name:Str}{args:Bp}{a:AV}{id:String}{b:Bool}{vs:List AV}{Q:AV->St->Prop}(h1:pE σ.vars o=some a)(hm:DH a name=some (id,b))(h:Xe σ.vars args=some vs)(q:Spec B n (.builtin id) (a::vs) [] σ.lists fun v ls=>Q v ⟨σ.vars,ls⟩):t9 B n (.meth o name args) σ Q:=SW (R8 h1 (Pw hm (Gs h q)))
theorem XO{v i:Ex}{a b:AV}{Q:AV->St->Prop}(h1:pE σ.vars v=some a)(h2:pE σ.vars i=some b)(q:D9 (fun x=>Q x σ) (t8 σ.lists a b)):t9 B n (.item v i) σ Q:=Bf (R8 h1 (R8 h2 q))
theorem ZW{o:HC}{l r:Ex}{a b:AV}{Q:AV->St->Prop}(h1:pE σ.vars l=some a)(h2:pE σ.vars r=some b)(q:O8 o a b σ.lists fun v ls=>Q v ⟨σ.vars,ls⟩):t9 B n (.bin o l r) σ Q:=Id (R8 h1 (R8 h2 q))
theorem Yr{i:Nat}{e:Ex}{v:AV}{F:Fl->St->Prop}(h:pE σ.vars e=some v)(q:F .next ⟨R5 σ.vars i v,σ.lists⟩)(hn:Do e=false):GD B n (.asg i e) σ F:=DE (R8 h q) hn
theorem ZE{e:Ex}{v:AV}{F:Fl->St->Prop}(h:pE σ.vars e=some v)(q:F (.ret v) σ)(hn:K4 e=false):GD B n (.ret e) σ F:=VW (R8 h q) hn
end
section
variable{B:Bs}{n:Nat}{σ:St}{ls:Ls}{Q:AV->Ls->Prop}{a b:Int}{F:Fl->St->Prop}
theorem aZ(h:Q (.int (a+b)) ls):O8 .add (.int a) (.int b) ls Q:=h
theorem bG(h:Q (.int (a-b)) ls):O8 .sub (.int a) (.int b) ls Q:=h
theorem u4(hm:IntMulOk a b)(h:Q (.int (a*b)) ls):O8 .mul (.int a) (.int b) ls Q:=⟨hm,h⟩
set_option tactic.hygienic true in
theorem Jv(h0:b≠0)(hp:b.natAbs<2^9000)(h:Q (.int (a.fdiv b)) ls):O8 .fdiv (.int a) (.int b) ls Q:=by
 refine⟨h0,?_,h⟩
 unfold Builtin.divisionGoesByPylong
 rewrite [Bool.and_eq_false_iff]
 refine .inl (decide_eq_false ?_)
 dsimp only
 split
 ·lia
 ·next hy=>
  have:b.natAbs≠0:=by simpa using hy
  have:=(Nat.log2_lt this).mpr hp
  lia
theorem Uq{x:Nat}(h:x<=1000000000):x<2^9000:=Nat.lt_of_lt_of_le (show x<2^30 by exact u3 ‹_› rfl) (Nat.pow_le_pow_right (by decide) (by decide))
theorem Rb(h0:b≠0)(hp:b.natAbs<=1000000000)(h:Q (.int (a.fdiv b)) ls):O8 .fdiv (.int a) (.int b) ls Q:=Jv h0 (Uq hp) h
theorem aI(h0:b≠0)(h:Q (.int (a.fmod b)) ls):O8 .mod (.int a) (.int b) ls Q:=⟨h0,h⟩
theorem Fx(h0:0<=b)(hb:(Builtin.Int.intBits a:Int)*b<=2^27)(h:Q (.int (a^b.toNat)) ls):O8 .pow (.int a) (.int b) ls Q:=⟨h0,hb,h⟩
theorem Y7(h0:0<=b)(hb:(Builtin.Int.intBits a:Int)+b<=2^27)(h:Q (.int (a*2^b.toNat)) ls):O8 .shl (.int a) (.int b) ls Q:=⟨h0,hb,h⟩
theorem Bv(h0:0<=b)(h:Q (.int (a.fdiv (2^b.toNat))) ls):O8 .shr (.int a) (.int b) ls Q:=⟨h0,h⟩
theorem bI(h:Q (.int (Builtin.bitAnd a b)) ls):O8 .and (.int a) (.int b) ls Q:=h
theorem cJ(h:Q (.int (Builtin.bitOr a b)) ls):O8 .or (.int a) (.int b) ls Q:=h
theorem aO(h:Q (.int (Builtin.bitXor a b)) ls):O8 .xor (.int a) (.int b) ls Q:=h
theorem Ae{x y:Str}(hl:x.length+y.length<=sizeLine)(h:Q (.str (x++y)) ls):O8 .add (.str x) (.str y) ls Q:=⟨rfl,hl,h⟩
theorem GT{x:Str}(hl:MulOk x a)(h:Q (.str (Txt.mul x a)) ls):O8 .mul (.str x) (.int a) ls Q:=⟨rfl,hl,h⟩
theorem Bn{i j:Nat}{xs ys:List AV}(hi:ls[i]? =some xs)(hj:ls[j]? =some ys)(hl:xs.length+ys.length<=1000000)(h:Q (.lst ls.length) (ls++[xs++ys])):O8 .add (.lst i) (.lst j) ls Q:=⟨rfl,b8 hi (b8 hj ⟨hl,h⟩)⟩
theorem Er{i:Nat}{xs:List AV}(hi:ls[i]? =some xs)(hl:xs.length*a.toNat<=1000000)(h1: -1000000<=a)(h2:a<=1000000)(h:Q (.lst ls.length) (ls++[(List.replicate a.toNat xs).flatten])):O8 .mul (.lst i) (.int a) ls Q:=⟨rfl,b8 hi ⟨hl,h1,h2,h⟩⟩
theorem CB{Q:Int->St->Prop}(h:Q a σ):IE Q (.int a) σ:=h
theorem Yl{Q:St->Prop}(h:Q σ):OL Q .none σ:=h
theorem ZZ{x y:Nat}{u v:AV}(h:F .next ⟨R5 (R5 σ.vars x u) y v,σ.lists⟩):Mm x y F (.tup [u,v]) σ:=h
theorem L9{v:AV}{L:Ls}{vs:List (Option AV)}(hb:m8 0 v=true)(hk:Fa ls L)(h:Q v (L.take ls.length)):D8 ls Q (.ret v) ⟨vs,L⟩:=by
 unfold D8 Qe
 cases v with
 |lst k=>unfold m8 at hb;simp at hb
 |_=>exact⟨hb,hk,h⟩
theorem m9{v:AV}{vs:List (Option AV)}(hb:m8 0 v=true)(h:Q v ls):D8 ls Q (.ret v) ⟨vs,ls⟩:=L9 hb (Fa.refl _) (by rw [take_length];exact h)
theorem CU(ls M:Ls):Fa ls (ls++M):=fun k l hk h=>by
 rw [getElem?_append_left hk]at h;exact .inl h
theorem RE{vs:List (Option AV)}{M:Ls}{k:Nat}{x:List AV}(hx:(ls++M)[k]? =some x)(hk:ls.length<=k)(hb:l8 ls.length x=true)(h:Q (.lst ls.length) (ls++[x])):D8 ls Q (.ret (.lst k)) ⟨vs,ls++M⟩:=
 ⟨hk,x,hx,hb,CU _ _,by rw [take_left' rfl];exact h⟩
end
theorem FN{ls:Ls}{o:HE}{a b:AV}{t:Bool}{Q:Bool->Prop}(e:Bm ls o a b=some t)(h:Q t):D9 Q (Bm ls o a b):=b8 e h
theorem Qt{ls:Ls}{a:AV}{t:Bool}{Q:Bool->Prop}(e:O5 ls a=some t)(h:Q t):D9 Q (O5 ls a):=b8 e h
theorem Xo{k:Nat}{q:Prop}(h:Nat.ble k 1000=true)(hq:q):Nat.ble k 1000=true∧q:=⟨h,hq⟩
section
variable{B:Bs}{P:Params}(C:Ctx B P){n:Nat}{ls:Ls}{Q:AV->Ls->Prop}
include C
theorem C3{x:Str}(hx:x.length<=1000000)(hq:Q (.int ((x.length:Int)-2)) ls):Spec B (n+1) (.ref 154) [.str x] [] ls Q:=by
 refine y7 C (Gl P) (GX P) rfl (JE P) ?_
 unfold CF
 change d9 _ _ _ ⟨[some (.str x)],ls⟩ _
 walk_at "#W1,!"
 refine o0 (by exact u3 ‹_› rfl) ?_
 walk_at "&!]h"
 exact m9 rfl hq
theorem NH{z:Str}(hz:z="."∨z="a"∨z="A"){Q':AV->Ls->Prop}(hq':Q' (.str (if z="." then"." else"a")) ls):Spec B n (.builtin "str.lower") [.str z] [] ls Q':=by
 rcases hz with rfl |rfl |rfl
 ·exact EP (y:=".") (by kernel_rfl) (by kernel_rfl) hq'
 ·exact EP (y:="a") (by kernel_rfl) (by kernel_rfl) hq'
 ·exact EP (y:="a") (by kernel_rfl) (by kernel_rfl) hq'
theorem QJ{x y:Str}{r:Int}(h:(x="."∨x="a"∨x="A")∧(y="."∨y="a"∨y="A"))(hr:r=if x=y then 0 else if x="."∨y="." then 2 else 1)(hq:Q (.int r) ls):Spec B (n+1) (.ref 133) [.str x,.str y] [] ls Q:=by
 refine y7 C (Y1 P) (Y2 P) rfl (PZ P) ?_
 unfold I4
 change d9 _ _ _ ⟨[some (.str x),some (.str y)],ls⟩ _
 walk_at "#XH"
 by_cases e:x=y
 ·rw [if_pos (by rw [e];exact beq_self_eq_true y)]
  walk_at "#Ohh"
  rw [if_pos e]at hr
  subst hr
  exact m9 rfl hq
 ·rw [if_neg (by rw [beq_eq_false_iff_ne.mpr e];exact Bool.false_ne_true)]
  rw [if_neg e]at hr
  walk_at "$k#XI-!"
  refine NH C h.1 ?_
  walk_at "-!"
  refine NH C h.2 ?_
  walk_at "f"
  have hc:((if x="." then(".":Str)else"a")==(if y="." then(".":Str)else"a"))= !decide (x="."∨y="."):=by
   by_cases e1:x="."<;>by_cases e2:y="."
   ·exact absurd (e1.trans e2.symm) e
   ·rw [if_pos e1,if_neg e2,decide_eq_true (.inl e1)];rfl
   ·rw [if_neg e1,if_pos e2,decide_eq_true (.inr e2)];rfl
   ·rw [if_neg e1,if_neg e2,decide_eq_false (fun h=>h.elim e1 e2)];rfl
  rw [hc]
  by_cases e3:x="."∨y="."
  ·rw [if_pos e3]at hr
   rw [decide_eq_true e3,if_neg (by decide)]
   walk_at "$k#Oh"
   subst hr
   exact m9 rfl hq
  ·rw [if_neg e3]at hr
   rw [decide_eq_false e3,if_pos (by decide)]
   walk_at "#Ohh"
   subst hr
   exact m9 rfl hq
end
theorem Str.append_list(x y:Str):(x++y).cps.toList=x.cps.toList++y.cps.toList:=by
 show(x.cps++y.cps).toList=_
 (rw [Array.toList_append];rfl)
theorem Str.length_list(x:Str):x.length=x.cps.toList.length:=by exact rfl
noncomputable def E4(c m:Nat):Nat:=if c%7=0 then 0 else c%7+m
noncomputable def P0(c:Nat):Bool:=c/7%2==1
theorem So(ls:Ls)(b:Bool):t8 ls (.str "aA") (.int (if b then 1 else 0))=some (.str ⟨#[if b then 65 else 97]⟩):=by cases b<;>rfl
theorem HW(d:Nat)(b:Bool):Txt.mul "." (d:Int)++(⟨#[if b then 65 else 97]⟩:Str)++(Str.ofString ".")=k9 d b:=by
 refine Str.ext' ?_
 rw [Str.append_list,Str.append_list,HQ]
 simp [k9]
 rfl
theorem Z9(d:Nat):(Txt.mul "." (d:Int)).length=d:=by rw [Str.length_list,HQ];simp
section
variable{B:Bs}{P:Params}(C:Ctx B P){n:Nat}{ls:Ls}{Q:AV->Ls->Prop}
include C
@[reducible] def XC(B:Bs)(P:Params)(n:Nat)(ls:Ls)(Q:AV->Ls->Prop)(c m:Nat):Prop:=∀(C:Ctx B P)(hm:m<=3)(hq:Q (.str (k9 (E4 c m) (P0 c))) ls),Spec B (n+1) (.ref 147) [.int c,.int m] [] ls Q
noncomputable def Y4:Uc:=ec fun u=>XC u.b u.p (u.n 0) (u.l 0) u.q (u.n 1) (u.n 2)
omit C in
theorem cW:XC Y4.b Y4.p (Y4.n 0) (Y4.l 0) Y4.q (Y4.n 1) (Y4.n 2):=by
 intro C hm hq
 refine y7 C (Ip Y4.p) (Iw Y4.p) rfl (Me Y4.p) ?_
 have h1:(((Y4.n 1):Int)).fmod 7=(((Y4.n 1)%7:Nat):Int):=by rw [Int.fmod_eq_emod_of_nonneg _ (by decide)];lia
 have h2:((((Y4.n 1):Int)).fdiv 7).fmod 2=if P0 (Y4.n 1)then 1 else 0:=by
  rw [Int.fmod_eq_emod_of_nonneg _ (by decide),Int.fdiv_eq_ediv_of_nonneg _ (by decide)]
  unfold P0
  rcases Nat.mod_two_eq_zero_or_one ((Y4.n 1)/7)with h |h<;>simp [h]<;>lia
 have fin:∀d:Nat,d<=9->d=E4 (Y4.n 1) (Y4.n 2)->d9 Y4.b (Y4.n 0) (.cons (.ret (.bin .add (.bin .add (.bin .mul (.str ".") (.var 2)) (.item (.str "aA") (.bin .mod (.bin .fdiv (.var 0) (.int 7)) (.int 2)))) (.str "."))) .nil)
   ⟨[some (.int (Y4.n 1)),some (.int (Y4.n 2)),some (.int d)],(Y4.l 0)⟩ (D8 (Y4.l 0) Y4.q):=fun d hd e=>by
  walk_at "#W110!"
  refine GT (Dk (by exact u2 ‹_› rfl)) ?_
  walk_at "3(1!0!b&!a"
  refine b8 (a:= .str ⟨#[if P0 (Y4.n 1)then 65 else 97]⟩) (by rw [h2];exact So (Y4.l 0) _) ?_
  refine Ae ?_ ?_
  ·rw [Z9];unfold sizeLine;simp [Str.length];exact u2 ‹_› rfl
  walk_at "(!"
  refine Ae ?_ ?_
  ·rw [Str.length_append,Z9];unfold sizeLine;simp [Str.length];rw [show(Str.ofString ".").cps.size=1 by decide];lia
  walk_at "h"
  refine m9 rfl ?_
  rw [HW,e];exact hq
 unfold Ey
 change d9 _ _ _ ⟨[some (.int (Y4.n 1)),some (.int (Y4.n 2)),none],(Y4.l 0)⟩ _
 walk_at "#N!k#XH"
 rw [h1]
 by_cases h0:(Y4.n 1)%7=0
 ·rw [if_neg (by simp [h0])]
  walk_at "$k"
  exact fin _ (by exact e6 ‹_› rfl) (by unfold E4;rw [if_pos h0];exact h0)
 ·rw [if_pos (by simp;lia)]
  walk_at ""
  refine c0 ?_
  walk_at "N!k$k"
  rw [show(((Y4.n 1)%7:Nat):Int)+((Y4.n 2):Int)=(((Y4.n 1)%7+(Y4.n 2):Nat):Int) by lia]
  exact fin _ (by lia) (by unfold E4;(rw [if_neg h0];rfl))
omit C in
theorem Ft{B:Bs}{P:Params}{n:Nat}{ls:Ls}{Q:AV->Ls->Prop}{c m:Nat}:XC B P n ls Q c m:=by with_unfolding_all exact hk (q:=fun u:Uc=>XC u.b u.p (u.n 0) (u.l 0) u.q (u.n 1) (u.n 2)) cW (.mk B P Y4.f Q Y4.v [ls] [n,c,m] [] [] [] [] [] [] [] [] [] [] [] [] [])
omit C in
theorem RG(L:Ls)(d:Nat)(b:Bool):t8 L (.str (k9 d b)) (.int (-2))=some (.str ⟨#[if b then 65 else 97]⟩):=by
 unfold t8
 dsimp only
 rw [if_pos (by decide),j8]
 unfold seqIndex?
 have h1:(-2:Int)+((d+2:Nat):Int)=(d:Int):=by lia
 simp only [show((-2:Int)<0) by decide,if_true,h1]
 have h2:(List.replicate d 46++[if b then 65 else 97,46])[d]? =some (if b then 65 else 97):=by
  rw [getElem?_append_right (by simp)];simp
 simp [k9]
 rw [if_pos (by lia)]
 simp
noncomputable def S5(d e:Nat)(b c:Bool):Int:=2*((d:Int)-e).natAbs+if b=c then 0 else 1
@[reducible] def XM(B:Bs)(P:Params)(n:Nat)(ls:Ls)(Q:AV->Ls->Prop)(d e:Nat)(b c:Bool):Prop:=∀(C:Ctx B P)(hd:d<=100)(he:e<=100)(hq:Q (.int (S5 d e b c)) ls),Spec B (n+1) (.ref 161) [.str (k9 d b),.str (k9 e c)] [] ls Q
noncomputable def O9:Uc:=ec fun u=>XM u.b u.p (u.n 0) (u.l 0) u.q (u.n 1) (u.n 2) (u.c 0) (u.c 1)
omit C in
theorem bT:XM O9.b O9.p (O9.n 0) (O9.l 0) O9.q (O9.n 1) (O9.n 2) (O9.c 0) (O9.c 1):=by
 intro C hd he hq
 refine y7 C (Ii O9.p) (IL O9.p) rfl (LF O9.p) ?_
 unfold Em
 change d9 _ _ _ ⟨[some (.str (k9 (O9.n 1) (O9.c 0))),some (.str (k9 (O9.n 2) (O9.c 1)))],(O9.l 0)⟩ _
 walk_at "#W11&4!D1,!"
 refine o0 (by rw [j8];exact aJ ‹_› rfl) ?_
 walk_at ",!"
 refine o0 (by rw [j8];exact aJ ‹_› rfl) ?_
 walk_at "]B!"
 refine Td ?_
 walk_at ""
 refine u4 (IntMulOk.of_left (by decide)) ?_
 walk_at "4!D2.!"
 refine b8 (RG (O9.l 0) (O9.n 1) (O9.c 0)) ?_
 walk_at ".!"
 refine b8 (RG (O9.l 0) (O9.n 2) (O9.c 1)) ?_
 walk_at "fB!"
 refine Hy ?_
 walk_at "[h"
 refine m9 rfl ?_
 have e1:(2*(if(((k9 (O9.n 1) (O9.c 0)).length:Nat):Int)-((k9 (O9.n 2) (O9.c 1)).length:Nat)<0 then -((((k9 (O9.n 1) (O9.c 0)).length:Nat):Int)-((k9 (O9.n 2) (O9.c 1)).length:Nat))else(((k9 (O9.n 1) (O9.c 0)).length:Nat):Int)-((k9 (O9.n 2) (O9.c 1)).length:Nat))+if(({cps:= #[if(O9.c 0)=true then 65 else 97]}:Str) !={cps:= #[if(O9.c 1)=true then 65 else 97]})=true then 1 else 0)=S5 (O9.n 1) (O9.n 2) (O9.c 0) (O9.c 1):=by
  unfold S5
  rw [j8,j8]
  congr 1
  ·split<;>lia
  ·cases(O9.c 0)<;>cases(O9.c 1)<;>decide
 rw [e1];exact hq
omit C in
theorem Gb{B:Bs}{P:Params}{n:Nat}{ls:Ls}{Q:AV->Ls->Prop}{d e:Nat}{b c:Bool}:XM B P n ls Q d e b c:=by with_unfolding_all exact hk (q:=fun u:Uc=>XM u.b u.p (u.n 0) (u.l 0) u.q (u.n 1) (u.n 2) (u.c 0) (u.c 1)) bT (.mk B P O9.f Q O9.v [ls] [n,d,e] [] [] [] [] [] [] [] [] [b,c] [] [] [] [])
end
set_option tactic.hygienic true in
theorem SZ{x y:Int}(h:y.natAbs<2^9000):Builtin.divisionGoesByPylong x y=false:=by
 unfold Builtin.divisionGoesByPylong
 rewrite [Bool.and_eq_false_iff]
 refine .inl (decide_eq_false ?_)
 dsimp only
 split
 ·lia
 ·next hy=>
  have:y.natAbs≠0:=by simpa using hy
  have:=(Nat.log2_lt this).mpr h
  lia
theorem o6{x:Int}{m:Nat}(h0:0<=x)(h:x<2^m):Builtin.Int.intBits x<=m:=by
 rewrite [intBits_le_iff]
 have h1:((x.natAbs:Nat):Int)=x:=by lia
 have h2:((2^m:Nat):Int)=2^m:=by exact rfl
 lia
theorem I1{x:Int}{m:Nat}(h0:0<=x)(h:Builtin.Int.intBits x<=m):x<2^m:=by
 rw [intBits_le_iff]at h
 have h1:((x.natAbs:Nat):Int)=x:=by lia
 have h2:((2^m:Nat):Int)=2^m:=by exact rfl
 lia
section
variable{B:Bs}{n:Nat}{ls:Ls}{Q:AV->Ls->Prop}
theorem LZ{a b:Int}(h0:b≠0)(hb:b.natAbs<2^9000)(hq:Q (.tup [.int (a.fdiv b),.int (a.fmod b)]) ls):Spec B n (.builtin "divmod") [.int a,.int b] [] ls Q:= .pos fun W s vals hR hv=>by
 refine o4 hv fun v t ee2 ee3 rr1=> ?_
 clear hv
 subst ee2
 obtain⟨u,rfl⟩:=ee3
 obtain⟨v',t',rfl,⟨u',rfl⟩,rfl⟩:=rr1
 refine⟨f4 _ _,fun A E Z hA hZ=>divmod_int h0 ?_ (.inl (SZ hb))⟩
 refine E6 (hR.newTup (s':={s with toks:=s.toks+1+1,heap:=s.heap.push {cls:= .type "tuple",data:= .seq #[.int (a.fdiv b) s.toks,.int (a.fmod b) (s.toks+1)]}}) (vs:=[.int (a.fdiv b),.int (a.fmod b)]) ⟨_,_,rfl,⟨_,rfl⟩,_,_,rfl,⟨_,rfl⟩,rfl⟩ rfl rfl rfl) fun W' hl r hv=> ?_
 exact hZ _ _ W' _ ls hl r hv hq
end
section
variable{B:Bs}{P:Params}(C:Ctx B P){k:Nat}{ls:Ls}{Q:AV->Ls->Prop}
include C
theorem CQ{a b:Int}{n:Nat}(ha:0<=a)(hb:0<b)(hb2:b<2^n)(hn:n<=8000)(hab:a<2^(n+4000))(hq:Q (.tup [.int (a/b),.int (a%b)]) ls):Spec B (k+1) (.ref 38) [.int a,.int b,.int n] [] ls Q:=by
 refine y7 C (CP P) (Cy P) rfl (Gh P) ?_
 unfold AZ
 change d9 _ _ _ ⟨[some (.int a),some (.int b),some (.int n),none,none,none,none,none,none,none,none],ls⟩ _
 walk_at "#XI1-!"
 refine Dn ?_
 walk_at "%!]&!f"
 have hbits:=o6 ha hab
 rw [if_pos (by simp;lia)]
 walk_at "#W,!"
 have hb3:b.natAbs<2^9000:=by
  have h1:b.natAbs<2^n:=intBits_le_iff.mp (o6 (Int.le_of_lt hb) hb2)
  exact Nat.lt_of_lt_of_le h1 (Nat.pow_le_pow_right (by decide) (by exact u2 ‹_› rfl))
 refine LZ (Int.ne_of_gt hb) hb3 ?_
 walk_at "hh"
 refine m9 rfl ?_
 rw [Int.fdiv_eq_ediv_of_nonneg _ (Int.le_of_lt hb),Int.fmod_eq_emod_of_nonneg _ (Int.le_of_lt hb)]
 exact hq
end
theorem A8{m n:Nat}(h:m<=n):(2:Int)^m<=2^n:=by
 have e1:((2^m:Nat):Int)=2^m:=by exact rfl
 have e2:((2^n:Nat):Int)=2^n:=by exact rfl
 have:=Nat.pow_le_pow_right (n:=2) (by decide) h
 lia
theorem G4{N b q r:Int}(h:q*b+r=N)(h0:0<=r)(h1:r<b):q=N/b∧r=N%b:=by
 have hb:0<b:=by exact z7 ‹_› ‹_›
 have e1:N/b=q:=by
  rw [←h,Int.add_comm,Int.add_mul_ediv_right _ _ (Int.ne_of_gt hb),Int.ediv_eq_zero_of_lt h0 h1];lia
 have e2:N%b=r:=by
  (rw [←h,Int.add_comm,Int.add_mul_emod_self_right,Int.emod_eq_of_lt h0 h1];rfl)
 exact⟨e1.symm,e2.symm⟩
theorem CS{x y:Int}{n:Nat}(hx:0<=x)(hy:0<=y)(hy2:y<2^n):Builtin.bitOr (x*2^n) y=x*2^n+y:=by
 refine f8 (Int.eq_ofNat_of_zero_le hx) fun a ee1=> ?_
 subst ee1
 refine f8 (Int.eq_ofNat_of_zero_le hy) fun b ee1=> ?_
 subst ee1
 have h2:b<2^n:=by
  have:((2^n:Nat):Int)=2^n:=by exact rfl
  lia
 have e:((a:Int)*2^n)=((a*2^n:Nat):Int):=by exact rfl
 rw [e,bitOr_and,bitAnd_pp (by exact c1) (by assumption)]
 have e3:((a*2^n:Nat):Int).toNat&&&(b:Int).toNat=0:=by
  simp only [Int.toNat_natCast]
  apply Nat.eq_of_testBit_eq
  intro i
  rw [Nat.testBit_and,Nat.zero_testBit,←Nat.shiftLeft_eq,Nat.testBit_shiftLeft]
  by_cases hi:i<n
  ·simp;lia
  ·have:b.testBit i=false:=Nat.testBit_lt_two_pow (Nat.lt_of_lt_of_le h2 (Nat.pow_le_pow_right (by decide) (by exact n1 ‹_›)))
   rw [this];simp
 rw [e3];lia
section
variable{B:Bs}{P:Params}(C:Ctx B P){k:Nat}{ls:Ls}{Q:AV->Ls->Prop}
include C
omit C in
theorem Kv{a12 a3 b b1 b2 n N:Int}(hb:0<b){F:Fl->St->Prop}:∀(j:Nat)(q r:Int),r<b-> -(j*b)<=r->q*b+r=N->F .next ⟨[some (.int a12),some (.int a3),some (.int b),some (.int b1),some (.int b2),some (.int n),some (.int (N/b)),some (.int (N%b))],ls⟩->
  A9 (DR B k (.cmp (.var 7) .lt (.int 0))) (d9 B k (.cons (.aug 6 .sub (.int 1)) (.cons (.aug 7 .add (.var 2)) .nil))) (j+1) ⟨[some (.int a12),some (.int a3),some (.int b),some (.int b1),some (.int b2),some (.int n),some (.int q),some (.int r)],ls⟩ F
 |0,q,r,h1,h2,h3,hF=>by
  unfold A9
  walk_at "H!"
  rw [if_neg (by simp;lia)]
  refine b7 (G4 h3 (by lia) h1) fun e1 e2=> ?_
  rw [e1,e2];exact hF
 |j+1,q,r,h1,h2,h3,hF=>by
  unfold A9
  walk_at "H"
  by_cases hr:r<0
  ·rw [if_pos (by simp [hr])]
   walk_at "#T&c!]k#T%c![k$!"
   refine Kv hb j (q-1) (r+b) (by lia) ?_ ?_ hF
   ·have:((j+1:Nat):Int)*b=(j:Int)*b+b:=by push_cast;(rw [Int.add_mul,Int.one_mul];rfl)
    lia
   ·rw [←h3,Int.sub_mul,Int.one_mul];lia
  ·rw [if_neg (by simp [hr])]
   refine b7 (G4 h3 (by exact z1 ‹_›) h1) fun e1 e2=> ?_
   rw [e1,e2];exact hF
@[reducible] def Xc(B:Bs)(P:Params)(k:Nat)(ls:Ls)(Q:AV->Ls->Prop)(a12 a3 b b1 b2:Int)(n:Nat):Prop:=∀(C:Ctx B P)(hn1:1<=n)(hn:n<=4000)(hb:b=b1*2^n+b2)(h2:0<=b2)(h2':b2<2^n)(h1:0<b1)(h1':b1<2^n)(ha:0<=a12)(hab:a12<b)(h3:0<=a3)(h3':a3<2^n)(hq:Q (.tup [.int ((a12*2^n+a3)/b),.int ((a12*2^n+a3)%b)]) ls),Spec B (k+2) (.ref 45) [.int a12,.int a3,.int b,.int b1,.int b2,.int n] [] ls Q
noncomputable def j4:Uc:=ec fun u=>Xc u.b u.p (u.n 0) (u.l 0) u.q (u.i 0) (u.i 1) (u.i 2) (u.i 3) (u.i 4) (u.n 1)
omit C in
theorem cA:Xc j4.b j4.p (j4.n 0) (j4.l 0) j4.q (j4.i 0) (j4.i 1) (j4.i 2) (j4.i 3) (j4.i 4) (j4.n 1):=fun C hn1 hn hb h2 h2' h1 h1' ha hab h3 h3' hq=>by
 have hX:(0:Int)<2^(j4.n 1):=Int.pow_pos (by decide)
 have hb0:0<(j4.i 2):=by
  have:0<(j4.i 3)*2^(j4.n 1):=Int.mul_pos h1 hX
  lia
 have hb1:(j4.i 3)*2^(j4.n 1)<=(2^(j4.n 1)-1)*2^(j4.n 1):=Int.mul_le_mul_of_nonneg_right (by exact Yf ‹_›) (Int.le_of_lt hX)
 have hXX:(2:Int)^(j4.n 1)*2^(j4.n 1)=2^(2*(j4.n 1)):=by rw [←Int.pow_add];congr 1;lia
 have hsub:((2:Int)^(j4.n 1)-1)*2^(j4.n 1)=2^(2*(j4.n 1))-2^(j4.n 1):=by(rw [Int.sub_mul,Int.one_mul,hXX];rfl)
 have hb2n:(j4.i 2)<2^(2*(j4.n 1)):=by lia
 refine y7 C (IN j4.p) (Jb j4.p) rfl (LQ j4.p) ?_
 have fin:∀q r:Int,0<=q->q<2^(j4.n 1)->0<=r->r<2^(2*(j4.n 1))->q*(j4.i 3)+r=(j4.i 0)->r*2^(j4.n 1)+(j4.i 1)-q*(j4.i 4)<(j4.i 2)->
   d9 j4.b ((j4.n 0)+1) (.cons (.asg 7 (.bin .sub (.bin .or (.bin .shl (.var 7) (.var 5)) (.var 1)) (.bin .mul (.var 6) (.var 4))))
 (.cons (.while (.cmp (.var 7) .lt (.int 0)) (.cons (.aug 6 .sub (.int 1))
 (.cons (.aug 7 .add (.var 2))
 .nil)))
 (.cons (.ret (.tup (.cons (.var 6) (.cons (.var 7) .nil))))
 .nil))) ⟨[some (.int (j4.i 0)),some (.int (j4.i 1)),some (.int (j4.i 2)),some (.int (j4.i 3)),some (.int (j4.i 4)),some (.int (j4.n 1)),some (.int q),some (.int r)],(j4.l 0)⟩ (D8 (j4.l 0) j4.q):=fun q r q0 q1 r0 r1 e1 e2=>by
  walk_at "#Q1!10!"
  refine Y7 (by exact c1) ?_ ?_
  ·have:=o6 r0 r1;lia
  walk_at "%!_0!"
  refine u4 (IntMulOk.of_le (o6 q0 q1) (o6 h2 h2') (by lia)) ?_
  walk_at "]k#"
  rw [Int.toNat_natCast,CS r0 h3 h3']
  have hqb:q*(j4.i 4)<=(2^(j4.n 1)-1)*2^(j4.n 1):=by
   refine Int.le_trans (Int.mul_le_mul_of_nonneg_left (Int.le_of_lt h2') q0) (Int.mul_le_mul_of_nonneg_right (by exact Yf ‹_›) (Int.le_of_lt hX))
  have hrx:0<=r*2^(j4.n 1):=Int.mul_nonneg r0 (Int.le_of_lt hX)
  refine X2 ((2^(2*(j4.n 1)):Nat)+1) ?_
  refine Kv (N:=(j4.i 0)*2^(j4.n 1)+(j4.i 1)) hb0 (2^(2*(j4.n 1))) _ _ e2 ?_ ?_ ?_
  ·have e3:((2^(2*(j4.n 1)):Nat):Int)=2^(2*(j4.n 1)):=by simp
   have e4:(2:Int)^(2*(j4.n 1))*1<=2^(2*(j4.n 1))*(j4.i 2):=Int.mul_le_mul_of_nonneg_left (by lia) (Int.le_of_lt (Int.pow_pos (by decide)))
   rw [e3];lia
  ·rw [←e1,hb,Int.mul_add,Int.add_mul,Int.mul_assoc];lia
  ·walk_at "k#W8Bih"
   exact m9 rfl hq
 unfold El
 change d9 _ _ _ ⟨[some (.int (j4.i 0)),some (.int (j4.i 1)),some (.int (j4.i 2)),some (.int (j4.i 3)),some (.int (j4.i 4)),some (.int (j4.n 1)),none,none],(j4.l 0)⟩ _
 walk_at "#XI0!"
 refine Bv (by exact c1) ?_
 walk_at "%!f"
 rw [Int.toNat_natCast,Int.fdiv_eq_ediv_of_nonneg _ (Int.le_of_lt hX)]
 have hdm:=Int.emod_add_mul_ediv (j4.i 0) (2^(j4.n 1))
 have hm0:=Int.emod_nonneg (j4.i 0) (Int.ne_of_gt hX)
 have hm1:=Int.emod_lt_of_pos (j4.i 0) hX
 by_cases e:(j4.i 0)/2^(j4.n 1)=(j4.i 3)
 ·rw [if_pos (by simp [e])]
  walk_at "#S8D10!"
  refine Y7 (by exact c1) ?_ ?_
  ·have:Builtin.Int.intBits 1=1:=by decide
   lia
  walk_at "&!]D11%0!"
  refine Y7 (by exact c1) ?_ ?_
  ·have:=o6 (Int.le_of_lt h1) h1';lia
  walk_at "]%![Bie!k$k"
  rw [Int.toNat_natCast,Int.one_mul]
  have e1:2^(j4.n 1)*(j4.i 3)=(j4.i 3)*2^(j4.n 1):=Int.mul_comm _ _
  rw [e,e1]at hdm
  refine fin _ _ (by exact Yf ‹_›) (by lia) (by lia) ?_ ?_ ?_
  ·have:(2:Int)^(j4.n 1)+2^(j4.n 1)<=2^(2*(j4.n 1)):=by
    rw [←hXX]
    have h2n:(2:Int)<=2^(j4.n 1):=by
     have:(2:Int)^1<=2^(j4.n 1):=A8 hn1
     (refine dB ‹_› ?_;simp)
    have:=Int.mul_le_mul_of_nonneg_right h2n (Int.le_of_lt hX)
    lia
   lia
  ·rw [Int.sub_mul,Int.one_mul];lia
  ·have hlow:(j4.i 0)-(j4.i 3)*2^(j4.n 1)+1<=(j4.i 4):=by lia
   have:=Int.mul_le_mul_of_nonneg_right (show(j4.i 0)-(j4.i 3)*2^(j4.n 1)+(j4.i 3)<=(j4.i 4)-1+(j4.i 3) by lia) (Int.le_of_lt hX)
   have e2:((j4.i 4)-1+(j4.i 3))*2^(j4.n 1)=(j4.i 4)*2^(j4.n 1)-2^(j4.n 1)+(j4.i 3)*2^(j4.n 1):=by(rw [Int.add_mul,Int.sub_mul,Int.one_mul];rfl)
   have e3:(2^(j4.n 1)-1)*(j4.i 4)=(j4.i 4)*2^(j4.n 1)-(j4.i 4):=by(rw [Int.sub_mul,Int.one_mul,Int.mul_comm];rfl)
   lia
 ·rw [if_neg (by simp [e])]
  have hlt:(j4.i 0)/2^(j4.n 1)<(j4.i 3):=by
   have:(j4.i 0)/2^(j4.n 1)<(j4.i 3)+1:=Int.ediv_lt_of_lt_mul hX (by rw [Int.add_mul,Int.one_mul];lia)
   lia
  have hlt2:(j4.i 0)<(j4.i 3)*2^(j4.n 1):=by
   have:=Int.mul_le_mul_of_nonneg_left (show(j4.i 0)/2^(j4.n 1)+1<=(j4.i 3) by lia) (Int.le_of_lt hX)
   rw [Int.mul_add,Int.mul_one,Int.mul_comm _ (j4.i 3)]at this
   lia
  walk_at "#S,!"
  refine CQ C ha h1 h1' (by exact u2 ‹_› rfl) ?_ ?_
  ·refine Int.lt_of_lt_of_le (Int.lt_trans hab hb2n) (A8 (by lia))
  walk_at "e!k$k"
  have q0:0<=(j4.i 0)/(j4.i 3):=Int.ediv_nonneg ha (Int.le_of_lt h1)
  have r0:=Int.emod_nonneg (j4.i 0) (Int.ne_of_gt h1)
  have r1:=Int.emod_lt_of_pos (j4.i 0) h1
  have hd:=Int.emod_add_mul_ediv (j4.i 0) (j4.i 3)
  have hq1:(j4.i 0)/(j4.i 3)<2^(j4.n 1):=Int.ediv_lt_of_lt_mul h1 (by rw [Int.mul_comm];exact hlt2)
  refine fin _ _ q0 hq1 r0 ?_ ?_ ?_
  ·refine Int.lt_of_lt_of_le (Int.lt_trans r1 h1') (A8 (by lia))
  ·rw [Int.mul_comm];lia
  ·have:=Int.mul_le_mul_of_nonneg_right (show(j4.i 0)%(j4.i 3)+1<=(j4.i 3) by lia) (Int.le_of_lt hX)
   rw [Int.add_mul,Int.one_mul]at this
   have:0<=(j4.i 0)/(j4.i 3)*(j4.i 4):=Int.mul_nonneg q0 h2
   lia
omit C in
theorem NP{B:Bs}{P:Params}{k:Nat}{ls:Ls}{Q:AV->Ls->Prop}{a12 a3 b b1 b2:Int}{n:Nat}:Xc B P k ls Q a12 a3 b b1 b2 n:=by with_unfolding_all exact hk (q:=fun u:Uc=>Xc u.b u.p (u.n 0) (u.l 0) u.q (u.i 0) (u.i 1) (u.i 2) (u.i 3) (u.i 4) (u.n 1)) cA (.mk B P j4.f Q j4.v [ls] [k,n] [a12,a3,b,b1,b2] [] [] [] [] [] [] [] [] [] [] [] [])
end
@[reducible] def Qk(A b h:Int):Prop:=∀(hb:0<b)(hh:0<h)(hA:0<=A),((A/h/h*h+A/h%h)/b)*h+((A/h/h*h+A/h%h)%b*h+A%h)/b=A/b∧((A/h/h*h+A/h%h)%b*h+A%h)%b=A%b
noncomputable def f0:Uc:=ec fun u=>Qk (u.i 0) (u.i 1) (u.i 2)
theorem Yw:Qk (f0.i 0) (f0.i 1) (f0.i 2):=fun hb hh hA=>by
 have e1:(f0.i 0)/(f0.i 2)/(f0.i 2)*(f0.i 2)+(f0.i 0)/(f0.i 2)%(f0.i 2)=(f0.i 0)/(f0.i 2):=by
  have:=Int.emod_add_mul_ediv ((f0.i 0)/(f0.i 2)) (f0.i 2)
  rw [Int.mul_comm]at this;lia
 rw [e1]
 have e2:=Int.emod_add_mul_ediv ((f0.i 0)/(f0.i 2)) (f0.i 1)
 have e3:=Int.emod_add_mul_ediv (f0.i 0) (f0.i 2)
 have e4:=Int.emod_add_mul_ediv ((f0.i 0)/(f0.i 2)%(f0.i 1)*(f0.i 2)+(f0.i 0)%(f0.i 2)) (f0.i 1)
 have r0:=Int.emod_nonneg ((f0.i 0)/(f0.i 2)%(f0.i 1)*(f0.i 2)+(f0.i 0)%(f0.i 2)) (Int.ne_of_gt hb)
 have r1:=Int.emod_lt_of_pos ((f0.i 0)/(f0.i 2)%(f0.i 1)*(f0.i 2)+(f0.i 0)%(f0.i 2)) hb
 have key:((f0.i 0)/(f0.i 2)/(f0.i 1)*(f0.i 2)+((f0.i 0)/(f0.i 2)%(f0.i 1)*(f0.i 2)+(f0.i 0)%(f0.i 2))/(f0.i 1))*(f0.i 1)+((f0.i 0)/(f0.i 2)%(f0.i 1)*(f0.i 2)+(f0.i 0)%(f0.i 2))%(f0.i 1)=(f0.i 0):=by
  have e5:(f0.i 0)/(f0.i 2)/(f0.i 1)*(f0.i 2)*(f0.i 1)=((f0.i 1)*((f0.i 0)/(f0.i 2)/(f0.i 1)))*(f0.i 2):=by(rewrite [Int.mul_comm (f0.i 1)];rw [Int.mul_assoc,Int.mul_assoc];rewrite [Int.mul_comm (f0.i 2)];rfl)
  have e6:((f0.i 0)/(f0.i 2)%(f0.i 1)*(f0.i 2)+(f0.i 0)%(f0.i 2))/(f0.i 1)*(f0.i 1)=(f0.i 1)*(((f0.i 0)/(f0.i 2)%(f0.i 1)*(f0.i 2)+(f0.i 0)%(f0.i 2))/(f0.i 1)):=Int.mul_comm _ _
  have e7:(f0.i 0)/(f0.i 2)*(f0.i 2)=(f0.i 2)*((f0.i 0)/(f0.i 2)):=Int.mul_comm _ _
  have e8:(f0.i 0)/(f0.i 2)*(f0.i 2)=((f0.i 0)/(f0.i 2)%(f0.i 1)+(f0.i 1)*((f0.i 0)/(f0.i 2)/(f0.i 1)))*(f0.i 2):=by(rw [e2];rfl)
  rw [Int.add_mul]at e8
  rw [Int.add_mul,e5,e6]
  lia
 exact G4 key r0 r1
theorem DY{A b h:Int}:Qk A b h:=by with_unfolding_all exact Mine.hk (q:=fun u:Uc=>Qk (u.i 0) (u.i 1) (u.i 2)) Yw (.mk f0.b f0.p f0.f f0.q f0.v [] [] [A,b,h] [] [] [] [] [] [] [] [] [] [] [] [])
theorem OM{n:Nat}(h:1<=n):(2:Int)^n=2*2^(n-1):=by
 cases n with
 |zero=>cases h
 |succ m=>(rw [Nat.add_sub_cancel,Int.pow_succ,Int.mul_comm];rfl)
theorem Ek{h:Nat}:(2:Int)^h*2^h=2^(2*h):=by rw [←Int.pow_add];congr 1;lia
theorem NV{A b:Int}{h:Nat}(hb:0<b)(hA:0<=A):Builtin.bitOr (A/2^h/b*2^h) ((A/2^h%b*2^h+A%2^h)/b)=A/b:=by
 have hX:(0:Int)<2^h:=Int.pow_pos (by decide)
 obtain⟨t1,t2⟩:=DY (A:=A) (b:=b) (h:=2^h) hb hX hA
 have e1:A/2^h/2^h*2^h+A/2^h%2^h=A/2^h:=by
  have:=Int.emod_add_mul_ediv (A/2^h) (2^h)
  rw [Int.mul_comm]at this;lia
 rw [e1]at t1
 have r0:=Int.emod_nonneg (A/2^h) (Int.ne_of_gt hb)
 have r1:=Int.emod_lt_of_pos (A/2^h) hb
 have a0:=Int.emod_nonneg A (Int.ne_of_gt hX)
 have a1:=Int.emod_lt_of_pos A hX
 (rewrite [CS];rw [t1];rfl)
 ·exact Int.ediv_nonneg (Int.ediv_nonneg hA (Int.le_of_lt hX)) (Int.le_of_lt hb)
 ·exact Int.ediv_nonneg (Int.add_nonneg (Int.mul_nonneg r0 (Int.le_of_lt hX)) a0) (Int.le_of_lt hb)
 ·refine Int.ediv_lt_of_lt_mul hb ?_
  have:=Int.mul_le_mul_of_nonneg_right (show A/2^h%b+1<=b by lia) (Int.le_of_lt hX)
  rw [Int.add_mul,Int.one_mul]at this
  rewrite [Int.mul_comm (2^h)]
  exact Om ‹_› ‹_›
theorem ID{A b:Int}{h m:Nat}(hb:0<b)(hA:0<=A)(hm:A<2^m):Builtin.Int.intBits (A/2^h/b)<=m:=by
 have hX:(0:Int)<2^h:=Int.pow_pos (by decide)
 refine o6 (Int.ediv_nonneg (Int.ediv_nonneg hA (Int.le_of_lt hX)) (Int.le_of_lt hb)) ?_
 have h1:A/2^h<=A:=Int.ediv_le_self _ hA
 have h2:A/2^h/b<=A/2^h:=Int.ediv_le_self _ (Int.ediv_nonneg hA (Int.le_of_lt hX))
 lia
section
variable{B:Bs}{P:Params}(C:Ctx B P){k:Nat}{ls:Ls}{Q:AV->Ls->Prop}
include C
@[reducible] def Py(B:Bs)(P:Params)(k:Nat)(ls:Ls)(A b:Int)(h:Nat)(pad:Int)(F:Fl->St->Prop):Prop:=∀(C:Ctx B P)(hA:0<=A)(hh:1<=h)(hh2:h<=4000)(hb:2^(2*h-1)<=b)(hb2:b<2^(2*h))(hab:A<b*2^(2*h))(hF:∀x4 x5 x6 x7 x8 EZ:Option AV,d9 B (k+2) (.cons (.ite (.var 3) (.cons (.aug 9 .shr (.int 1)) .nil) .nil)
   (.cons (.ret (.tup (.cons (.bin .or (.bin .shl (.var 8) (.var 4)) (.var 10)) (.cons (.var 9) .nil)))) .nil))
   ⟨[some (.int A),some (.int b),some (.int (2*h:Nat)),some (.int pad),some (.int h),x5,x6,x7,some (.int (A/2^h/b)),some (.int (A%b)),some (.int ((A/2^h%b*2^h+A%2^h)/b))],ls⟩ F),d9 B (k+2) (.cons (.asg 4 (.bin .shr (.var 2) (.int 1)))
 (.cons (.asg 5 (.bin .sub (.bin .shl (.int 1) (.var 4)) (.int 1)))
 (.cons (.unp 6 7 (.tup (.cons (.bin .shr (.var 1) (.var 4)) (.cons (.bin .and (.var 1) (.var 5)) .nil))))
 (.cons (.unp 8 9 (.call (.glob (.ref 45)) (.cons (.bin .shr (.var 0) (.var 2)) (.cons (.bin .and (.bin .shr (.var 0) (.var 4)) (.var 5)) (.cons (.var 1) (.cons (.var 6) (.cons (.var 7) (.cons (.var 4) .nil))))))))
 (.cons (.unp 10 9 (.call (.glob (.ref 45)) (.cons (.var 9) (.cons (.bin .and (.var 0) (.var 5)) (.cons (.var 1) (.cons (.var 6) (.cons (.var 7) (.cons (.var 4) .nil))))))))
 (.cons (.ite (.var 3) (.cons (.aug 9 .shr (.int 1)) .nil) .nil)
 (.cons (.ret (.tup (.cons (.bin .or (.bin .shl (.var 8) (.var 4)) (.var 10)) (.cons (.var 9) .nil)))) .nil)))))))
   ⟨[some (.int A),some (.int b),some (.int (2*h:Nat)),some (.int pad),none,none,none,none,none,none,none],ls⟩ F
noncomputable def l7:Uc:=ec fun u=>Py u.b u.p (u.n 0) (u.l 0) (u.i 0) (u.i 1) (u.n 1) (u.i 2) u.f
omit C in
theorem Zz:Py l7.b l7.p (l7.n 0) (l7.l 0) (l7.i 0) (l7.i 1) (l7.n 1) (l7.i 2) l7.f:=fun C hA hh hh2 hb hb2 hab hF=>by
 have hX:(0:Int)<2^(l7.n 1):=Int.pow_pos (by decide)
 have hX2:(0:Int)<2^(2*(l7.n 1)):=Int.pow_pos (by decide)
 have hb0:0<(l7.i 1):=Int.lt_of_lt_of_le (Int.pow_pos (by decide)) hb
 have hmod:=Int.emod_add_mul_ediv (l7.i 1) (2^(l7.n 1))
 have hm0:=Int.emod_nonneg (l7.i 1) (Int.ne_of_gt hX)
 have hm1:=Int.emod_lt_of_pos (l7.i 1) hX
 have hb1:0<(l7.i 1)/2^(l7.n 1):=by
  have h1:(2:Int)^(l7.n 1)<=2^(2*(l7.n 1)-1):=A8 (by lia)
  have:1<=(l7.i 1)/2^(l7.n 1):=Int.le_ediv_of_mul_le hX (by lia)
  lia
 have hb1':(l7.i 1)/2^(l7.n 1)<2^(l7.n 1):=Int.ediv_lt_of_lt_mul hX (by rw [Ek];exact hb2)
 have hbe:(l7.i 1)=(l7.i 1)/2^(l7.n 1)*2^(l7.n 1)+(l7.i 1)%2^(l7.n 1):=by rw [Int.mul_comm];lia
 have ha0:=Int.emod_nonneg (l7.i 0) (Int.ne_of_gt hX)
 have ha1:=Int.emod_lt_of_pos (l7.i 0) hX
 have hc0:=Int.emod_nonneg ((l7.i 0)/2^(l7.n 1)) (Int.ne_of_gt hX)
 have hc1:=Int.emod_lt_of_pos ((l7.i 0)/2^(l7.n 1)) hX
 have hs:((2*(l7.n 1):Nat):Int).fdiv (2^(1:Int).toNat)=((l7.n 1):Int):=by
  rw [show(2:Int)^(1:Int).toNat=2 by decide,Int.fdiv_eq_ediv_of_nonneg _ (by decide)];lia
 walk_at "#Q0!"
 refine Bv (by exact c1) ?_
 walk_at "k#Q1!0!"
 rw [hs]
 walk_at ""
 refine Y7 (by exact c1) ?_ ?_
 ·have:Builtin.Int.intBits 1=1:=by decide
  lia
 walk_at "&!]k#S8D0!"
 refine Bv (by exact c1) ?_
 walk_at "Bie!k#S4D0!"
 simp only [Int.toNat_natCast,Int.one_mul,W.kbt_mask,Int.fdiv_eq_ediv_of_nonneg _ (Int.le_of_lt hX)]
 refine Bv (by exact c1) ?_
 walk_at "D10!"
 refine Bv (by exact c1) ?_
 walk_at "%!^B!"
 simp only [Int.toNat_natCast,W.kbt_mask,Int.fdiv_eq_ediv_of_nonneg _ (Int.le_of_lt hX),Int.fdiv_eq_ediv_of_nonneg _ (Int.le_of_lt hX2)]
 have Zs:(l7.i 0)/2^(2*(l7.n 1))=(l7.i 0)/2^(l7.n 1)/2^(l7.n 1):=by
  (rw [←Ek,Int.ediv_ediv_of_nonneg (Int.le_of_lt hX)];rfl)
 obtain⟨t1,t2⟩:=DY (A:=(l7.i 0)) (b:=(l7.i 1)) (h:=2^(l7.n 1)) hb0 hX hA
 have e1:(l7.i 0)/2^(l7.n 1)/2^(l7.n 1)*2^(l7.n 1)+(l7.i 0)/2^(l7.n 1)%2^(l7.n 1)=(l7.i 0)/2^(l7.n 1):=by
  have:=Int.emod_add_mul_ediv ((l7.i 0)/2^(l7.n 1)) (2^(l7.n 1))
  rw [Int.mul_comm]at this;lia
 rw [e1]at t1 t2
 refine NP (k:=(l7.n 0)) C hh hh2 hbe hm0 hm1 hb1 hb1' (Int.ediv_nonneg hA (Int.le_of_lt hX2)) (Int.ediv_lt_of_lt_mul hX2 hab) hc0 hc1 ?_
 rw [Zs,e1]
 walk_at "e!k#S,!"
 rw [W.kbt_mask]
 refine NP (k:=(l7.n 0)) C hh hh2 hbe hm0 hm1 hb1 hb1' (Int.emod_nonneg _ (Int.ne_of_gt hb0)) (Int.emod_lt_of_pos _ hb0) ha0 ha1 ?_
 walk_at "e!k"
 rw [t2]
 exact hF none _ _ _ none none
omit C in
theorem FI{B:Bs}{P:Params}{k:Nat}{ls:Ls}{A b:Int}{h:Nat}{pad:Int}{F:Fl->St->Prop}:Py B P k ls A b h pad F:=by with_unfolding_all exact hk (q:=fun u:Uc=>Py u.b u.p (u.n 0) (u.l 0) (u.i 0) (u.i 1) (u.n 1) (u.i 2) u.f) Zz (.mk B P F l7.q l7.v [ls] [k,h] [A,b,pad] [] [] [] [] [] [] [] [] [] [] [] [])
@[reducible] def Xg(B:Bs)(P:Params)(k:Nat)(ls:Ls)(Q:AV->Ls->Prop)(a b:Int):Prop:=∀(C:Ctx B P){n:Nat}(ha:0<=a)(hb:2^(n-1)<=b)(hb2:b<2^n)(hn1:1<=n)(hn:n<=8000)(hab:a<b*2^n)(hq:Q (.tup [.int (a/b),.int (a%b)]) ls),Spec B (k+3) (.ref 38) [.int a,.int b,.int n] [] ls Q
noncomputable def U1:Uc:=ec fun u=>Xg u.b u.p (u.n 0) (u.l 0) u.q (u.i 0) (u.i 1)
omit C in
theorem cB:Xg U1.b U1.p (U1.n 0) (U1.l 0) U1.q (U1.i 0) (U1.i 1):=fun C{n} ha hb hb2 hn1 hn hab hq=>by
 have hb0:0<(U1.i 1):=Int.lt_of_lt_of_le (Int.pow_pos (by decide)) hb
 by_cases hsm:(U1.i 0)<2^(n+4000)
 ·exact(CQ (k:=(U1.n 0)) C ha hb0 hb2 hn hsm hq).mono (by exact J6 rfl)
 have hnb:n≥4000:=by
  refine Decidable.by_contra fun hlt=>hsm ?_
  have h1:(U1.i 1)*2^n<=2^n*2^n:=Int.mul_le_mul_of_nonneg_right (Int.le_of_lt hb2) (Int.le_of_lt (Int.pow_pos (by decide)))
  have h2:(2:Int)^n*2^n<=2^(n+4000):=by rw [←Int.pow_add];exact A8 (by lia)
  lia
 refine y7 C (CP U1.p) (Cy U1.p) rfl (Gh U1.p) ?_
 unfold AZ
 change d9 _ _ _ ⟨[some (.int (U1.i 0)),some (.int (U1.i 1)),some (.int n),none,none,none,none,none,none,none,none],(U1.l 0)⟩ _
 walk_at "#XI1-!"
 refine Dn ?_
 walk_at "%!]&!f"
 have hbits:n+4000<Builtin.Int.intBits (U1.i 0):=by
  refine Decidable.by_contra fun h=>hsm (I1 ha (by exact n1 ‹_›))
 rw [if_neg (by simp;lia)]
 walk_at "$k#N!k#XK"
 rw [show Builtin.bitAnd (n:Int) 1=(n:Int)%2 from bitAnd_m1 _]
 have abit:Builtin.Int.intBits (U1.i 0)<=2*n:=by
  refine o6 ha (Int.lt_trans hab ?_)
  rw [←Ek]
  exact Int.mul_lt_mul_of_pos_right hb2 (Int.pow_pos (by decide))
 have b2:Builtin.Int.intBits (U1.i 1)<=n:=o6 (Int.le_of_lt hb0) hb2
 by_cases hodd:n%2=1
 ·have ep:((n:Int))%2=1:=by lia
  rw [ep]
  walk_at ""
  rw [if_pos (by decide)]
  walk_at "#T&c!"
  refine Y7 (by exact c1) (by lia) ?_
  walk_at "k#T&c!"
  refine Y7 (by exact c1) (by lia) ?_
  walk_at "k"
  with_reducible refine c0 ?_
  walk_at "T&c![k$k"
  obtain⟨h,hh⟩:∃h,n+1=2*h:=⟨(n+1)/2,by lia⟩
  clear hodd ep
  have h1:1<=h:=by lia
  rw [show(2:Int)^(1:Int).toNat=2 by decide,show((n:Nat):Int)+1=(2*h:Nat)from congrArg Nat.cast hh]
  have p1:=OM hn1
  have p2:(2:Int)^(2*h)=2*2^n:=by(rw [←hh,Int.pow_succ,Int.mul_comm];rfl)
  have e0:2*h-1=n:=by(rw [←hh,Nat.add_sub_cancel];rfl)
  have h2:h<=4000:=by lia
  refine FI C (by lia) h1 h2 (by rw [e0,p1];lia) (by lia) ?_ fun _ x5 x6 x7 _ _=> ?_
  ·rw [p2]
   have e:(U1.i 1)*2*(2*2^n)=2*(2*((U1.i 1)*2^n)):=by
    (rw [Int.mul_assoc,Int.mul_left_comm];rewrite [←Int.mul_assoc 2 2,Int.mul_left_comm (U1.i 1)])
    lia
   rw [e]
   have:0<=(U1.i 1)*2^n:=Int.mul_nonneg (Int.le_of_lt hb0) (Int.le_of_lt (Int.pow_pos (by decide)))
   lia
  walk_at "#XK"
  rw [if_pos (by decide)]
  walk_at "#T&c!"
  refine Bv (by exact c1) ?_
  walk_at "k$k#W8D10!"
  rw [show(2:Int)^(1:Int).toNat=2 by decide,Int.fdiv_eq_ediv_of_nonneg _ (by decide)]
  have abit2:Builtin.Int.intBits ((U1.i 0)*2/2^h/((U1.i 1)*2))<=2*n+1:=by
   refine ID (by lia) (by lia) ?_
   have:=I1 ha abit
   rw [Int.pow_succ]
   lia
  refine Y7 (by exact c1) (by lia) ?_
  walk_at "%!_Bih"
  rw [Int.toNat_natCast,NV (by lia) (by lia)]
  refine m9 rfl ?_
  have e1:(U1.i 0)*2/((U1.i 1)*2)=(U1.i 0)/(U1.i 1):=Int.mul_ediv_mul_of_pos_left _ _ (by decide)
  have e2:(U1.i 0)*2%((U1.i 1)*2)/2=(U1.i 0)%(U1.i 1):=by
   (rewrite [Int.mul_comm (U1.i 0),Int.mul_comm (U1.i 1)];rw [Int.mul_emod_mul_of_pos _ _ (by decide)]);lia
  rw [e1,e2]
  exact hq
 ·have ep:((n:Int))%2=0:=by lia
  rw [ep]
  walk_at ""
  rw [if_neg (by decide)]
  walk_at "$k"
  obtain⟨h,rfl⟩:∃h,n=2*h:=⟨n/2,by lia⟩
  refine FI C ha (by lia) (by lia) hb hb2 hab fun _ x5 x6 x7 _ _=> ?_
  walk_at "#XK"
  rw [if_neg (by decide)]
  walk_at "$k#W8D10!"
  have abit2:Builtin.Int.intBits ((U1.i 0)/2^h/(U1.i 1))<=2*(2*h):=ID hb0 ha (I1 ha abit)
  refine Y7 (by exact c1) (by lia) ?_
  walk_at "%!_Bih"
  rw [Int.toNat_natCast,NV hb0 ha]
  exact m9 rfl hq
omit C in
theorem SM{B:Bs}{P:Params}{k:Nat}{ls:Ls}{Q:AV->Ls->Prop}{a b:Int}:Xg B P k ls Q a b:=by with_unfolding_all exact Mine.hk (q:=fun u:Uc=>Xg u.b u.p (u.n 0) (u.l 0) u.q (u.i 0) (u.i 1)) cB (.mk B P U1.f Q U1.v [ls] [k] [a,b] [] [] [] [] [] [] [] [] [] [] [] [])
end
theorem JX{ps:List Str}{vs:List Value}(hn:ps.Nodup)(hl:vs.length=ps.length){i:Nat}{x:Str}{v:Value}(h1:ps[i]? =some x)(h2:vs[i]? =some v):(ps.zip vs).reverse.lookup x=some v:=by
 refine N3 ?_ ?_
 ·rw [map_reverse,List.map_fst_zip (by exact bD ‹_›)]
  exact List.pairwise_reverse.mpr (List.Pairwise.imp Ne.symm hn)
 ·rewrite [mem_reverse]
  refine mem_of_getElem? (i:=i) ?_
  rewrite [List.getElem?_zip_eq_some]
  exact⟨h1,h2⟩
section
variable{B:Bs}{n:Nat}{G:List (Str×Value)}
@[reducible] def Xb(B:Bs)(n:Nat)(G:List (Str×Value))(f:Addr)(fd:FuncData)(body:List Stmt)(params loc fre:List Str)(args:List AV)(ls:Ls)(bnd fvs:List AV)(Q:AV->Ls->Prop):Prop:=∀(hG:i7 B G)(F:Jm B f fd body)(hcell:∀x∈fd.scope.names,x.2≠ .cell)(hnd:(params++loc++fre).Nodup){xs:o7}(hkind:∀x∈params,fd.scope.names.lookup x=some .local)(chk:l9 G (params++loc++fre) false fd.scope body xs=true){kw:List (Str×AV)}(hlen:bnd.length=params.length)(hbind:∀W s vals kvs,RL B W ls s->l5 W args vals->l5 W (kw.map (·.2)) kvs->∃vs,BindsTo s fd ⟨vals,(kw.map (·.1)).zip kvs⟩ (params.zip vs)∧l5 W bnd vs)(hfre:∀W s,RL B W ls s->∀(i:Nat) x av,fre[i]? =some x->fvs[i]? =some av->∃v c,VR W av v∧fd.scope.names.lookup x=some .free∧fd.closure.lookup x=some c∧∃o,B.eB.get? c=some o∧o.data= .cell (some v))(hclo:∀x c,(x,c)∈fd.closure->∃o v,B.eB.get? c=some o∧o.data= .cell v)(hwp:d9 B n xs ⟨bnd.map some++List.replicate loc.length none++fvs.map some,ls⟩ (D8 ls Q)),Spec B (n+1) (.ref f) args kw ls Q
noncomputable def G1:Ue:=ee fun u=>Xb u.b (u.n 0) (u.g 0) (u.n 1) (u.fd 0) (u.bd 0) (u.z 0) (u.z 1) (u.z 2) (u.m 0) (u.l 0) (u.m 1) (u.m 2) (u.q 0)
theorem dP:Xb G1.b (G1.n 0) (G1.g 0) (G1.n 1) (G1.fd 0) (G1.bd 0) (G1.z 0) (G1.z 1) (G1.z 2) (G1.m 0) (G1.l 0) (G1.m 1) (G1.m 2) (G1.q 0):=fun hG F hcell hnd{xs} hkind chk{kw} hlen hbind hfre hclo hwp=>by
 intro W s vals kvs hR hv hk
 refine a9 (F.obj) fun o hob hod=> ?_
 have ho:=hR.keep _ _ (hR.base _ _ hob)
 refine⟨fun a e=>by cases e;exact⟨o,(G1.fd 0),ho,hod⟩,fun A E Z hA hZ=>wpAny_call ?_⟩
 refine a9 (hbind W s vals kvs hR hv hk) fun vs hbs hvs=> ?_
 have hold:∀b o,G1.b.eB.get? b=some o->s.heap.get? b=some o:=fun b o e=>hR.keep _ _ (hR.base _ _ e)
 refine codeAny_call_function (by have:=hA.1;lia) ho hod F.co F.gen F.body (F.code.keeps hold) (hbs _ _ _ _ ?_)
 refine wpAny_newFunctionEnv hcell (fun x hx=>hkind x.1 (of_mem_zip hx).1) (fun h' hns hsb=> ?_) F.kind
 have hkp:∀b o,s.heap.get? b=some o->h'.get? b=some o:=fun b o e=>by
  rw [hsb.2 b (Nat.ne_of_lt (Heap.lt_size e))]
  exact Heap.get?_push_of_some _ e
 have hlim:h'.NoLimit:=(F.lim.keeps hold).keeps hkp
 refine⟨hlim,codeAny_func ?_⟩
 have dT:RL G1.b W (G1.l 0) {s with heap:=h',toks:=s.toks+((G1.z 0).zip vs).length}:=hR.keepAll hkp rfl rfl
 have nocell:∀x,(newEnv (G1.fd 0).scope s.heap.objs.size (G1.fd 0).globals (G1.fd 0).closure ((G1.fd 0).qualname++".<locals>.") (some (G1.n 1)) (G1.fd 0).code none (G1.fd 0).builtins).kindOf x≠some .cell:=fun x e=>hcell _ (mem_of_lookup (show(G1.fd 0).scope.names.lookup x=some .cell from e)) rfl
 have hvl:vs.length=(G1.z 0).length:=by(rw [hvs.length,hlen];rfl)
 have hf:R G1.b W ⟨newEnv (G1.fd 0).scope s.heap.objs.size (G1.fd 0).globals (G1.fd 0).closure ((G1.fd 0).qualname++".<locals>.") (some (G1.n 1)) (G1.fd 0).code none (G1.fd 0).builtins,(G1.z 0)++(G1.z 1)++(G1.z 2),false⟩ ⟨(G1.m 1).map some++List.replicate (G1.z 1).length none++(G1.m 2).map some,(G1.l 0)⟩ {s with heap:=h',toks:=s.toks+((G1.z 0).zip vs).length}:=by
  refine⟨dT,F.kind,F.glob,F.blt,fun a ha=> ?_,fun hm=>(by cases hm),hnd,fun x y c _ _ h _=>absurd h (nocell x),fun x c _ h=>(by exact ft h),fun x c hm _=> ?_,fun x h=>(by exact ft h),_,hns,fun i y av e1 e2=> ?_⟩
  ·rcases mem_cons.mp ha with rfl |ha
   ·exact hR.fresh (Nat.le_refl _)
   ·cases ha
  ·refine o1 (hclo x c hm) fun o v h1 h2=> ?_
   exact⟨o,v,hR.base _ _ h1,h2⟩
  ·change((G1.z 0)++(G1.z 1)++(G1.z 2))[i]? =some y at e1
   change((G1.m 1).map some++List.replicate (G1.z 1).length none++(G1.m 2).map some)[i]? =_ at e2
   by_cases hi:i<(G1.z 0).length
   ·rw [append_assoc,getElem?_append_left hi]at e1
    rw [append_assoc,getElem?_append_left (by simpa [hlen]using hi),getElem?_map]at e2
    refine a9 (Option.map_eq_some_iff.mp e2) fun b eb e2=> ?_
    (replace e2:=(Option.some.inj e2).symm;subst e2)
    refine a9 (hvs.get i eb) fun v ev hv=> ?_
    have hndp:(G1.z 0).Nodup:=by rw [append_assoc]at hnd;exact(nodup_append.mp hnd).1
    exact⟨v,hv,.inl ⟨hkind y (mem_of_getElem? e1),JX hndp hvl e1 ev⟩⟩
   ·by_cases hi2:i<((G1.z 0)++(G1.z 1)).length
    ·exfalso
     rw [getElem?_append_left (by simp [hlen]at hi2 ⊢;assumption),getElem?_append_right (by simpa [hlen]using hi),List.getElem?_replicate]at e2
     split at e2<;>(first |exact on e2 |cases e2)
    ·rw [getElem?_append_right (Nat.not_lt.mp hi2)]at e1
     rw [getElem?_append_right (by simp [hlen]at hi2 ⊢;assumption),getElem?_map]at e2
     refine a9 (Option.map_eq_some_iff.mp e2) fun b eb e2=> ?_
     (replace e2:=(Option.some.inj e2).symm;subst e2)
     have el:((G1.m 1).map some++List.replicate (G1.z 1).length none:List (Option AV)).length=((G1.z 0)++(G1.z 1)).length:=by simp [hlen]
     rw [el]at eb
     refine RK (hfre W s hR _ y av e1 eb) fun v c h1 h2 h3 rr7=> ?_
     obtain⟨o,h4,h5⟩:=rr7
     exact⟨v,h1,.inr ⟨.inr h2,c,h3,o,hkp _ _ (hold _ _ h4),h5⟩⟩
 refine R9 hG xs chk hwp W _ _ _ _ hA.deeper hf fun fl s'' W' fv eG hl hr hfl hq=> ?_
 cases fv with
 |next=>
  rw [show fl=_ from hfl]
  refine r5 (V7 hR hr.rl hl (av:= .none) (v:= .none) rfl hq) fun W'' av' L' h1 h2 h3 h4=> ?_
  exact hZ _ _ W'' _ _ h1 h2 h3 h4
 |ret v=>
  refine a9 hfl fun u ee1 hu=> ?_
  clear hfl
  subst ee1
  refine r5 (V7 hR hr.rl hl hu hq) fun W'' av' L' h1 h2 h3 h4=> ?_
  exact hZ _ _ W'' _ _ h1 h2 h3 h4
 |brk=>exact hq.elim
 |cont=>exact hq.elim
theorem NM{B:Bs}{n:Nat}{G:List (Str×Value)}{f:Addr}{fd:FuncData}{body:List Stmt}{params loc fre:List Str}{args:List AV}{ls:Ls}{bnd fvs:List AV}{Q:AV->Ls->Prop}:Xb B n G f fd body params loc fre args ls bnd fvs Q:=by with_unfolding_all exact hk (q:=fun u:Ue=>Xb u.b (u.n 0) (u.g 0) (u.n 1) (u.fd 0) (u.bd 0) (u.z 0) (u.z 1) (u.z 2) (u.m 0) (u.l 0) (u.m 1) (u.m 2) (u.q 0)) dP (.mk B [] [] [] [] [] [] [] [n,f] [] [] [] [] [] [ls] [] [args,bnd,fvs] [] [G] [params,loc,fre] [] [] [] [] [Q] [body] [fd] [] [] [] [] [] [] [] [] [] [] G1.pr [] [])
end
structure Hn(B:Bs):Prop where
 ns:∃mg,B.eB.Ns mainGlobals mg∧∃bm ob,mg "__builtins__"=some (.ref bm)∧bm≠builtinsNs∧B.eB.get? bm=some ob∧ob.cls= .type "module"∧ob.dict=some builtinsNs∧ob.data= .plain
theorem KO{h:Heap}{c P:Addr}{ps:Array Value}(x:h.IsCode c P ps):TriplesOk ps.toList∧c≠P:=by
 obtain⟨_,_,_,_,_,_,_,_,_,_,_,_,_,_,_,_,_,_,r⟩:=x
 exact r.2
set_option tactic.hygienic true in
theorem Je(pos:Pos)(a b:Int)(c x:Value)(l:List Value)(h:TriplesOk l)(e:codeAmong pos (l++[rawInt a,rawInt b,c])=some x):codeAmong pos l=some x∨x=c:=by
 fun_induction TriplesOk l with
 |case1=>
  simp only [nil_append,rawInt,codeAmong]at e
  split at e
  ·(replace e:=Option.some.inj e;subst e);exact .inr rfl
  ·exact on e
 |case2 i t j u v rest ih=>
  simp only [cons_append,codeAmong]at e ⊢
  split at e
  ·next hh=>rw [if_pos hh];exact .inl e
  ·next hh=>rw [if_neg hh];exact ih h e
 |case3=>exact h.elim
structure Ur(B:Bs)(name qual:Str)(params:Arguments)(body:List Stmt)(scope:Scope)(clos:List (Str×Addr))(P:Addr)(W:Wd)(s:Shared)(W':Wd)(s':Shared)(F0:Addr)(fd:FuncData):Prop where
 le:W.le W'
 rho:W'.ρ=W.ρ
 old:∀a o,a≠P->s.heap.get? a=some o->s'.heap.get? a=some o
 same:∀a,a<s.heap.objs.size->W'.K a=W.K a
 fn:∃o,W'.K F0=some o∧o.data= .func fd
 shape:∃doc pm cv ctv,fd=fnX name qual params body scope clos .none .none doc pm none cv ctv∧∃c' o vs t,cv= .ref c'∧W'.K c'=some o∧o.data= .fields vs∧vs[1]? =some (.str qual t)
section
variable{B:Bs}{n:Nat}{W:Wd}{ls:Ls}{s:Shared}{A:Around}{E:Value->Shared->Prop}
theorem Nw(hR:RL B W ls s){t0 fo:Obj}{fd:FuncData}{name qual:Str}{params:Arguments}{body:List Stmt}{scope:Scope}{clos:List (Str×Addr)}{P:Addr}(q1:fo.isFreed=false)(q2:fo.data= .func fd)(q3:∀vs,fo.cls= .none->fo.data≠ .fields vs)
  (hs:∃doc pm cv ctv,fd=fnX name qual params body scope clos .none .none doc pm none cv ctv∧∃c' o vs t,cv= .ref c'∧W.K c'=some o∧o.data= .fields vs∧vs[1]? =some (.str qual t)):
  ∃W',RL B W' ls {s with heap:=(s.heap.push t0).push fo}∧Ur B name qual params body scope clos P W s W' {s with heap:=(s.heap.push t0).push fo} (s.heap.push t0).objs.size fd:=by
 have hk:∀b o,s.heap.get? b=some o->((s.heap.push t0).push fo).get? b=some o:=fun b o e=>Heap.get?_push_of_some _ (Heap.get?_push_of_some _ e)
 have hR':=hR.keepAll (s':={s with heap:=(s.heap.push t0).push fo}) hk rfl rfl
 have hsz:s.heap.objs.size<=(s.heap.push t0).objs.size:=by rw [Heap.size_push];exact EW
 refine b7 (hR.fresh hsz) fun f1 f2=> ?_
 refine b7 (hR'.addK (a:=(s.heap.push t0).objs.size) (o:=fo) (Heap.get?_push_size _ q1) f1 f2 q3) fun r1 r2=> ?_
 refine BQ hs fun doc pm cv ctv e0 rr3=> ?_
 clear hs
 obtain⟨c',o,vs,t,e1,e2,e3,e4⟩:=rr3
 refine⟨_,r1,r2,rfl,fun a o _ e=>hk a o e,fun b hb=> ?_,⟨_,if_pos rfl,q2⟩,doc,pm,cv,ctv,e0,c',o,vs,t,e1,r2.1 _ _ e2,e3,e4⟩
 show(if b=_ then _ else W.K b)=_
 (rw [if_neg (by exact UA ‹_› ‹_›)];rfl)
@[reducible] def XG(B:Bs)(W:Wd)(ls:Ls)(s:Shared)(A:Around)(E:Value->Shared->Prop)(env:Env)(c:Addr)(name qual:Str)(params:Arguments)(body:List Stmt)(scope:Scope)(clos:List (Str×Addr))(pos:Pos)(firstLine:Nat)(Z:Value->Shared->Prop):Prop:=∀(D:Hn B)(hR:RL B W ls s){P:Addr}(hcl:closureFor scope env=pure clos)(hne:clos.isEmpty=false)(hge0:env.globals=mainGlobals)(hbl:env.builtins=builtinsNs)(hcode:env.code= .ref c)(htab:(c,P,qual)∈B.tabs)(huniq:∀fA eR dS,(fA,eR,dS)∈B.tabs->eR=P->dS=qual)(hdoc:docOf body=none)(hZ:∀W' s' F0 fd,RL B W' ls s'->Ur B name qual params body scope clos P W s W' s' F0 fd->Z (.ref F0) s'),wpAny (model B.prog B.w) A (makeFunction name qual params (.stmts body) scope env [] [] [] pos firstLine) Z E s
noncomputable def B1:Ue:=ee fun u=>XG u.b (u.w 0) (u.l 0) (u.s 0) (u.A 0) (u.e 0) (u.env 0) (u.n 0) (u.t 0) (u.t 1) (u.ag 0) (u.bd 0) (u.sc 0) (u.cl 0) (u.p 0) (u.n 1) (u.e 1)
set_option tactic.hygienic true in
theorem cU:XG B1.b (B1.w 0) (B1.l 0) (B1.s 0) (B1.A 0) (B1.e 0) (B1.env 0) (B1.n 0) (B1.t 0) (B1.t 1) (B1.ag 0) (B1.bd 0) (B1.sc 0) (B1.cl 0) (B1.p 0) (B1.n 1) (B1.e 1):=fun D hR{P} hcl hne hge0 hbl hcode htab huniq hdoc hZ=>by
 refine a9 (D.ns) fun mg hg rr4=> ?_
 obtain⟨bm,ob,hbm,hne0,hbo,hcls,hdict,hdata⟩:=rr4
 have hg':=hg.keeps hR.old
 have hbo':=hR.old _ _ hbo
 refine B2 (hR.tabs (B1.n 0) P (B1.t 1) htab) fun a1 a2 rr5=> ?_
 obtain⟨ps,a3,a4,a5⟩:=rr5
 have hgP:mainGlobals≠P:=fun q=>by
  refine Fo hg' fun o es ep e hd _=> ?_
  clear hg'
  rw [q,a4.2]at e;(replace e:=Option.some.inj e;subst e);exact T6 (·.ctorIdx) hd rfl
 have hbP:bm≠P:=fun q=>by
  rw [q,a4.2]at hbo';(replace hbo':=Option.some.inj hbo';subst hbo');exact T6 (·.ctorIdx) hcls rfl
 rw [makeFunction_eq]
 simp only [List.zip_nil_right,List.filterMap_nil,List.isEmpty_nil,if_true,pure_bind]
 unfold makeTail
 rw [hcl,hge0]
 refine wpAny_bind (wpAny_pure ?_)
 rw [hne]
 simp only [Bool.false_eq_true,if_false]
 refine wpAny_bind (wpAny_newTextTuple ?_)
 have kp:∀oT:Obj,∀b o,(B1.s 0).heap.get? b=some o->((B1.s 0).heap.push oT).get? b=some o:=fun oT b o e=>Heap.get?_push_of_some _ e
 cases hnf:codeAmong (B1.p 0) ps.toList with
 |some cv=>
  refine wpAny_bind (wpAny_functionCode_hit hcode (a3.keeps (kp _)) hnf ?_)
  refine wpAny_bind (wpAny_builtinsFor (hg'.push _) hbm hne0 (Heap.get?_push_of_some _ hbo') hcls hdict hdata ?_)
  refine wpAny_bind (wpAny_nsGet (hg'.push _) ?_)
  rw [hdoc]
  refine wpAny_bind (wpAny_pure (wpAny_newObj_type ?_ (by size_fits)))
  refine Fj (a5 (B1.p 0) cv hnf) fun a o vs t e1 e2 e3 e4 e5=> ?_
  refine a9 (Nw (P:=P) hR (t0:={cls:= .type "tuple",data:= .seq (((B1.cl 0).mergeSort fun a b=>a.1.cps.toList<=b.1.cps.toList).map (.ref ·.2)).toArray}) (fo:={cls:= .type "function",data:= .func (fnX (B1.t 0) (B1.t 1) (B1.ag 0) (B1.bd 0) (B1.sc 0) (B1.cl 0) .none .none .none ((mg "__name__").getD .none) none cv (.ref (B1.s 0).heap.objs.size))}) rfl rfl (fun vs h=>by exact T6 (·.ctorIdx) h rfl) ⟨_,_,_,_,rfl,a,o,vs,t,e1,e2,e4,e5⟩) fun W' r m=> ?_
  exact hZ _ _ _ _ r m
 |none=>
  refine wpAny_bind (wpAny_functionCodeX hcode (a3.keeps (kp _)) (a4.keeps (kp _)) hnf fun c' h' tk hx hge hlt hok hrec htb htb'=> ?_)
  have hx':Heap.ExtBut P (B1.s 0).heap h':=fun b o hb' e=>hx b o hb' (Heap.get?_push_of_some _ e)
  have hge':(B1.s 0).heap.objs.size<=c':=Nat.le_trans (by rw [Heap.size_push];exact EW) hge
  refine wpAny_bind (wpAny_builtinsFor (hg'.extBut hx' hgP) hbm hne0 (hx' _ _ hbP hbo') hcls hdict hdata ?_)
  refine wpAny_bind (wpAny_nsGet (hg'.extBut hx' hgP) ?_)
  rw [hdoc]
  refine wpAny_bind (wpAny_pure (wpAny_newObj_type ?_ (by size_fits)))
  refine FH hrec fun iQ oc vs t e2 hoc hd hv=> ?_
  clear hrec
  cases e2
  have hcc:oc.cls= .type "code":=by
   refine FD htb' fun P' _ _ ee3 _=> ?_
   clear htb'
   refine o4 ee3 fun o' vs' g1 g2 _=> ?_
   clear ee3
   rw [hoc]at g1;(replace g1:=Option.some.inj g1;subst g1);exact g2
  refine b7 (hR.fresh hge') fun f1 f2=> ?_
  have hF:(B1.s 0).heap.objs.size<=h'.objs.size:=by exact t6 ‹_› ‹_›
  refine b7 (hR.fresh hF) fun g1 g2=> ?_
  have hcF:c'≠h'.objs.size:=by exact n4 ‹_›
  have key:∀(fo:Obj)(fd:FuncData),fo.isFreed=false->fo.data= .func fd->(∃doc pm ctv,fd=fnX (B1.t 0) (B1.t 1) (B1.ag 0) (B1.bd 0) (B1.sc 0) (B1.cl 0) .none .none doc pm none (.ref c') ctv)->∃W',RL B1.b W' (B1.l 0) {(B1.s 0)with heap:=h'.push fo,toks:=tk}∧Ur B1.b (B1.t 0) (B1.t 1) (B1.ag 0) (B1.bd 0) (B1.sc 0) (B1.cl 0) P (B1.w 0) (B1.s 0) W' {(B1.s 0)with heap:=h'.push fo,toks:=tk} h'.objs.size fd:=by
   intro fo fd q1 q2 hh_ex
   refine Ll hh_ex fun doc pm ctv e0=> ?_
   clear hh_ex
   have hk:∀(fo:Obj) b o,b≠P->(B1.s 0).heap.get? b=some o->(h'.push fo).get? b=some o:=fun fo b o hb e=>Heap.get?_push_of_some _ (hx' b o hb e)
   have hle:∀fo:Obj,(B1.w 0).le ⟨fun a=>if a=c' then some oc else if a=h'.objs.size then some fo else(B1.w 0).K a,(B1.w 0).ρ⟩:=fun fo=>⟨fun b o e=>by
    show(if b=c' then _ else if b=h'.objs.size then _ else(B1.w 0).K b)=_
    rw [if_neg (fun q=>by rw [q,f1]at e;exact on e),if_neg (fun q=>by rw [q,g1]at e;exact on e)];exact e,[],by simp⟩
   refine⟨⟨fun a=>if a=c' then some oc else if a=h'.objs.size then some fo else(B1.w 0).K a,(B1.w 0).ρ⟩,?_,hle _,rfl,fun a o ha e=>hk _ a o ha e,fun b hb=> ?_,⟨_,by
     show(if _=c' then _ else if _=_ then _ else _)=_
     (rw [if_neg (Ne.symm hcF),if_pos rfl];rfl),q2⟩,doc,pm,_,ctv,e0,c',oc,vs,t,rfl,if_pos rfl,hd,hv⟩
   ·refine⟨fun a o e=>(hle _).1 _ _ (hR.base a o e),fun a o e=> ?_,hR.len,fun a ha=> ?_,hR.nd,fun k a vs h1 h2=> ?_,hR.gens,hR.os,fun fA eR dS hm=> ?_,hR.pins⟩
    ·change(if a=c' then _ else if a=h'.objs.size then _ else(B1.w 0).K a)=_ at e
     split at e
     ·next q=>(replace e:=Option.some.inj e;subst e);rw [q];exact Heap.get?_push_of_some _ hoc
     ·split at e
      ·next q=>(replace e:=Option.some.inj e;subst e);rw [q];exact Heap.get?_push_size _ q1
      ·exact hk _ a o (fun q=>by rw [q,a1]at e;exact on e) (hR.keep _ _ e)
    ·show(if a=c' then _ else if a=h'.objs.size then _ else(B1.w 0).K a)=_
     rw [if_neg (fun(q:a=c')=>f2 (q▸ha)),if_neg (fun(q:a=h'.objs.size)=>g2 (q▸ha))];exact hR.off a ha
    ·refine a9 (hR.lists k a vs h1 h2) fun vals ee1 h4=> ?_
     refine f8 ee1 fun m h3=> ?_
     clear ee1
     exact⟨vals,⟨m,hk _ _ _ (fun q=>a2 (q▸mem_of_getElem? h1)) h3⟩,h4.mono (hle _)⟩
    ·refine B2 (hR.tabs fA eR dS hm) fun b1 b2 rr11=> ?_
     obtain⟨eT,b3,b4,b5⟩:=rr11
     have hP1:eR≠c':=Nat.ne_of_lt (Nat.lt_of_lt_of_le (Heap.lt_size b4.2) hge')
     have hP2:eR≠h'.objs.size:=Nat.ne_of_lt (Nat.lt_of_lt_of_le (Heap.lt_size b4.2) hF)
     have offK:(if eR=c' then some oc else if eR=h'.objs.size then some fo else(B1.w 0).K eR)=none:=by
      rw [if_neg hP1,if_neg hP2];exact b1
     by_cases hPP:eR=P
     ·subst hPP
      have hq:=huniq _ _ _ hm rfl
      subst hq
      have hpe:eT=ps:=by
       have:=b4.2
       rw [a4.2]at this
       cases this;rfl
      subst hpe
      have hcP:fA≠eR:=by
       exact(KO b3).2
      have hH:=CodeHd.of b3 b4
      have hH':CodeHd (h'.push fo) fA eR:=by
       refine Wq hH fun o vs file tf flags tg inF text tt e r=> ?_
       clear hH
       exact⟨o,vs,file,tf,flags,tg,inF,text,tt,hk _ _ _ hcP e,r⟩
      have htr:TriplesOk eT.toList:=by
       exact(KO b3).1
      have hlst:(eT++ #[rawInt (B1.p 0).line,rawInt (B1.p 0).col,Value.ref c']).toList=eT.toList++[rawInt (B1.p 0).line,rawInt (B1.p 0).col,.ref c']:=by simp
      have hPt:=Heap.get?_push_of_some fo htb.2
      refine⟨offK,b2,eT++ #[rawInt (B1.p 0).line,rawInt (B1.p 0).col,.ref c'],hH'.code hPt (by rw [hlst];exact TriplesOk_snoc _ _ _ _ htr),hH'.tab hPt,fun fU gH e=> ?_⟩
      rw [hlst]at e
      rcases Je _ _ _ _ _ _ htr e with e |rfl
      ·refine DX (b5 fU gH e) fun a o vs t e1 e2 r=> ?_
       exact⟨a,o,vs,t,e1,(hle _).1 _ _ e2,r⟩
      ·exact⟨c',oc,vs,t,rfl,if_pos rfl,hcc,hd,hv⟩
     ·have hcP:fA≠P:=fun q=>by
       refine b7 b4 fun ee0 _=> ?_
       clear b4
       obtain⟨o,vs,e1,e2,_⟩:=ee0
       rw [q,a4.2]at e1;(replace e1:=Option.some.inj e1;subst e1);exact T6 (·.ctorIdx) e2 rfl
      refine⟨offK,b2,eT,(b3.extBut hx' hcP hPP).keeps fun b o e=>Heap.get?_push_of_some _ e,(b4.extBut hx' hcP hPP).keeps fun b o e=>Heap.get?_push_of_some _ e,fun fU gH e=> ?_⟩
      refine DX (b5 fU gH e) fun a o vs t e1 e2 r=> ?_
      exact⟨a,o,vs,t,e1,(hle _).1 _ _ e2,r⟩
   ·show(if b=c' then _ else if b=h'.objs.size then _ else(B1.w 0).K b)=_
    (rw [if_neg (by exact UA ‹_› ‹_›),if_neg (by exact UA ‹_› ‹_›)];rfl)
  refine a9 (key {cls:= .type "function",data:= .func (fnX (B1.t 0) (B1.t 1) (B1.ag 0) (B1.bd 0) (B1.sc 0) (B1.cl 0) .none .none .none ((mg "__name__").getD .none) none (.ref c') (.ref (B1.s 0).heap.objs.size))} _ rfl rfl ⟨_,_,_,rfl⟩) fun W' r m=> ?_
  exact hZ _ _ _ _ r m
theorem WD{B:Bs}{W:Wd}{ls:Ls}{s:Shared}{A:Around}{E:Value->Shared->Prop}{env:Env}{c:Addr}{name qual:Str}{params:Arguments}{body:List Stmt}{scope:Scope}{clos:List (Str×Addr)}{pos:Pos}{firstLine:Nat}{Z:Value->Shared->Prop}:XG B W ls s A E env c name qual params body scope clos pos firstLine Z:=by with_unfolding_all exact hk (q:=fun u:Ue=>XG u.b (u.w 0) (u.l 0) (u.s 0) (u.A 0) (u.e 0) (u.env 0) (u.n 0) (u.t 0) (u.t 1) (u.ag 0) (u.bd 0) (u.sc 0) (u.cl 0) (u.p 0) (u.n 1) (u.e 1)) cU (.mk B [W] [] [] [s] [A] [E,Z] [] [c,firstLine] [scope] [pos] [] [] [name,qual] [ls] [] [] [] [] [] [] [] [env] [] [] [body] [] [] [params] [clos] [] [] [] [] [] [] [] B1.pr [] [])
end
noncomputable def ZL(W:Wd)(h:Heap):Heap:=hideAll h ((List.range h.objs.size).filter fun a=>(W.K a).isNone)
theorem Rd{W:Wd}{h:Heap}(hk:∀a o,W.K a=some o->h.get? a=some o){a:Addr}{o:Obj}(e:W.K a=some o):(ZL W h).get? a=some o:=
 hideAll_get _ (hk a o e) fun hm=>by
  have:=(List.mem_filter.mp hm).2
  rw [e]at this;exact ft this
theorem Tr{W:Wd}{h:Heap}(hk:∀a o,W.K a=some o->h.get? a=some o){a:Addr}{o:Obj}(e:(ZL W h).get? a=some o):W.K a=some o:=by
 have e1:=of_hideAll _ e
 cases q:W.K a with
 |none=>
  have hm:a∈(List.range h.objs.size).filter fun a=>(W.K a).isNone:=List.mem_filter.mpr ⟨mem_range.mpr (Heap.lt_size e1),by rw [q];rfl⟩
  have e2:=hideAll_none _ (h:=h) hm
  have e':(hideAll h ((List.range h.objs.size).filter fun a=>(W.K a).isNone)).get? a=some o:=e
  rw [e2]at e';exact on e'
 |some o'=>
  have:=hk a o' q
  rw [e1]at this;(replace this:=Option.some.inj this;subst this);rfl
noncomputable def Bs.re(B:Bs)(W:Wd)(h:Heap):Bs:={B with eB:=ZL W h,pins:=(List.range W.ρ.length).zip W.ρ}
theorem Rs{l:List Addr}{k:Nat}{a:Addr}(h:(k,a)∈(List.range l.length).zip l):l[k]? =some a:=by
 refine f8 (List.mem_iff_getElem?.mp h) fun i hi=> ?_
 rw [List.getElem?_zip_eq_some]at hi
 refine b7 hi fun h1 h2=> ?_
 clear hi
 rw [getElem?_range (List.getElem?_eq_some_iff.mp h2).1]at h1
 (replace h1:=Option.some.inj h1;subst h1);exact h2
theorem PS{l:List Addr}{k:Nat}{a:Addr}(h:l[k]? =some a):(k,a)∈(List.range l.length).zip l:=by
 refine mem_of_getElem? (i:=k) ?_
 rewrite [List.getElem?_zip_eq_some]
 exact⟨by(rw [getElem?_range (List.getElem?_eq_some_iff.mp h).1];rfl),h⟩
section
variable{B:Bs}{n:Nat}{W:Wd}{C:FC}{σ:St}{ls:Ls}{s:Shared}{A:Around}{E:Value->Shared->Prop}
theorem RL.re(h:RL B W ls s):RL (B.re W s.heap) W ls s:=
 ⟨fun a o e=>Tr h.keep e,h.keep,h.len,h.off,h.nd,h.lists,h.gens,h.os,h.tabs,fun k a hm=>Rs hm⟩
theorem RL.back{g:Heap}{p:List (Nat×Addr)}(h:RL {B with eB:=g,pins:=p} W ls s)(hb:∀a o,B.eB.get? a=some o->g.get? a=some o)(hp:∀k a,(k,a)∈B.pins->W.ρ[k]? =some a):RL B W ls s:=
 ⟨fun a o e=>h.base _ _ (hb a o e),h.keep,h.len,h.off,h.nd,h.lists,h.gens,h.os,h.tabs,hp⟩
noncomputable def Dm:AV->Bool
 | .int _=>true
 | .raw _=>true
 | .lst _=>true
 |_=>false
theorem Nu{dX:Wd}{h:Heap}{av:AV}{v:Value}(hp:Dm av=true)(hv:VR dX av v){eE:Wd}{L:Ls}{dY:Shared}(h2:RL (B.re dX h) eE L dY):VR eE av v:=by
 cases av with
 |int i=>exact hv
 |raw u=>exact hv
 |lst k=>
  refine a9 hv fun a e g=> ?_
  clear hv
  exact⟨a,e,h2.pins k a (PS g)⟩
 |none=>exact ft hp
 |bool b=>exact ft hp
 |str x=>exact ft hp
 |tup vs=>exact ft hp
theorem FR.seal{W:Wd}(h:R B W C σ s)(hm:C.mine=true)(hall:∀x c,(x,c)∈C.env.cells->C.env.kindOf x=some .cell):
  ∃W',W.le W'∧W'.ρ=W.ρ∧R B W' {C with mine:=false} σ s∧∀x c,(x,c)∈C.env.cells->W'.K c=s.heap.get? c:=by
 have hS:N6 B W (C0 C) s:=⟨fun a ha=>h.fr.off a (.tail _ ha),fun a ha=>(h.fr.own (B:=B)).obj a (.tail _ ha)⟩
 have inS:∀x c,(x,c)∈C.env.cells->(W.frz (C0 C) s.heap).K c=s.heap.get? c:=fun x c hc=>if_pos (o8 hm hc (hall x c hc))
 refine⟨W.frz (C0 C) s.heap,E0 hS,rfl,⟨Gq hS h.rl,h.fr.kind,h.fr.glob,h.fr.blt,fun a ha=> ?_,fun hm=>(by cases hm),h.fr.gnd,h.fr.inj,fun x c _ hf=>(by exact ft hf),fun x c hc _=> ?_,fun x hf=>(by exact ft hf),?_⟩,inS⟩
 ·rcases mem_cons.mp ha with rfl |ha
  ·refine b7 (h.fr.off C.env.locals (.head _)) fun h1 h2=> ?_
   refine⟨?_,h2⟩
   show(if C.env.locals∈C0 C then _ else _)=_
   rw [if_neg h.fr.nd];exact h1
  ·cases ha
 ·refine o1 (h.fr.isCell x c hc hm (hall x c hc)) fun v o ho hd=> ?_
  exact⟨o,v,(inS x c hc).trans ho,hd⟩
 ·refine a9 (h.fr.ns) fun m hns hv=> ?_
  refine⟨m,hns,fun i x av e1 e2=> ?_⟩
  refine a9 (hv i x av e1 e2) fun v g b=> ?_
  exact⟨v,g.mono (E0 hS),b⟩
structure Ws(B B':Bs)(C:FC)(σ:St)(F0:Addr)(fd:FuncData)(body:List Stmt)(scope:Scope)(clos:List (Str×Addr)):Prop where
 base:∀a o,B.eB.get? a=some o->B'.eB.get? a=some o
 fn:Jm B' F0 fd body
 fds:fd.scope=scope
 clo:∀x c,(x,c)∈fd.closure->∃o v,B'.eB.get? c=some o∧o.data= .cell v
 fre:∀(x:Str)(j:Nat)(av:AV),C.Γ[j]? =some x->σ.vars[j]? =some (some av)->Dm av=true->C.env.kindOf x=some .cell->∀W s L,RL B' W L s->∃v c,VR W av v∧fd.closure.lookup x=some c∧∃o,B'.eB.get? c=some o∧o.data= .cell (some v)
theorem NQ(D:Hn B)(hlim:B.eB.NoLimit)(hR:R B W C σ s)(hm:C.mine=true)(hall:∀x c,(x,c)∈C.env.cells->C.env.kindOf x=some .cell){c P:Addr}{name qual:Str}{params:Arguments}{body:List Stmt}{scope:Scope}{clos:List (Str×Addr)}{pos:Pos}{i:Nat}
  (hq:qualnameIn C.env name name=qual) (hcl:closureFor scope C.env=pure clos) (hne:clos.isEmpty=false) (hcs:∀x c,(x,c)∈clos->(x,c)∈C.env.cells) (hlk:∀x,C.env.kindOf x=some .cell->clos.lookup x=C.env.cells.lookup x) (hcode:C.env.code= .ref c) (htab:(c,P,qual)∈B.tabs)
  (huniq:∀fA eR dS,(fA,eR,dS)∈B.tabs->eR=P->dS=qual) (hdoc:docOf body=none) (hd0:params.defaults=[]) (hk0:params.kw_defaults=[]) (ha:annTrees params none C.env=[]) (hown:A1 C.Γ C.env.scope C.mine name i=true)
  (hk:scope.kind= .function) (hco:scope.isCoroutine=false) (hgen:scope.isGenerator=false) (hnd:(scope.names.map (·.1)).Nodup)
  {Z:Flow->Shared->Prop} (hZ:∀fK eB W' s' F0 doc pm cv ctv,W.le W'->R (B.re fK eB) W' {C with mine:=false} (σ.setv i (.raw (.ref F0))) s'->Ws B (B.re fK eB) C (σ.setv i (.raw (.ref F0))) F0 (fnX name qual params body scope clos .none .none doc pm none cv ctv) body scope clos->Z .next s'):
  wpAny (model B.prog B.w) A (exec (.FunctionDef name params body [] none [] scope none name pos) C.env) Z E s:=by
 refine nestDef_K hd0 hk0 ha ?_
 rw [hq]
 refine WD D hR.rl hcl hne hR.fr.glob hR.fr.blt hcode htab huniq hdoc fun dX dR F0 fd dT M=> ?_
 have hoffP:∀a∈d5 C,a≠P:=fun a ha q=>by
  refine E6 ((hR.fr.own (B:=B)).obj a ha) fun o ho _ h2=> ?_
  refine B2 (hR.rl.tabs c P qual htab) fun _ _ rr9=> ?_
  obtain⟨ps,_,a4,_⟩:=rr9
  rw [q,a4.2]at ho;(replace ho:=Option.some.inj ho;subst ho)
  exact h2.elim (fun h=>h _ rfl) fun h=>h.2 rfl
 have hown0:∀a∈d5 C,∃o,s.heap.get? a=some o:=fun a ha=>by
  refine a9 ((hR.fr.own (B:=B)).obj a ha) fun o ho _=> ?_
  exact⟨o,ho⟩
 have iK:FR dX C σ.vars dR.heap:=hR.fr.stay M.le (fun a ha=>by
  refine f8 (hown0 a ha) fun o ho=> ?_
  refine b7 (hR.fr.off a ha) fun h1 h2=> ?_
  exact⟨(M.same a (Heap.lt_size ho)).trans h1,by rw [M.rho];exact h2⟩) (fun a ha=>by
   refine f8 (hown0 a ha) fun o ho=> ?_
   rw [ho];exact M.old a o (hoffP a ha) ho) hR.rl.keep (fun a o e=>dT.keep _ _ (M.le.1 _ _ e))
 refine T4 (⟨dT,iK⟩:R B dX C σ dR) hown (av:= .raw (.ref F0)) rfl fun dY eA=> ?_
 refine FD (FR.seal eA hm hall) fun eE hl2 hrho eK hcells=> ?_
 refine BQ (M.shape) fun doc pm cv ctv ee4 rr15=> ?_
 subst ee4
 obtain⟨c',oc,vs,t,e1,e2,e3,e4⟩:=rr15
 refine a9 (M.fn) fun fo g1 g2=> ?_
 have gr:=fun{a o}=>Rd (W:=eE) (h:=dY.heap) eK.rl.keep (a:=a) (o:=o)
 refine hZ eE dY.heap eE dY F0 doc pm cv ctv (Wd.le_trans M.le hl2) ⟨eK.rl.re,eK.fr⟩ ⟨fun a o e=>gr (eK.rl.base _ _ e),⟨⟨fo,gr (hl2.1 _ _ g1),g2⟩,⟨c',oc,vs,t,e1,gr (hl2.1 _ _ e2),e3,e4⟩,hlim.keeps fun a o e=>gr (eK.rl.base _ _ e),rfl,rfl,rfl,hk,hco,hgen,hnd⟩,rfl,fun x c hc=> ?_,fun x j av h1 h2 hp hkx eZ eJ L r=> ?_⟩
 ·have hc':=hcs x c hc
  refine o1 (eA.fr.isCell x c hc' hm (hall x c hc')) fun v o ho hd=> ?_
  exact⟨o,v,gr ((hcells x c hc').trans ho),hd⟩
 ·refine a9 (eK.fr.ns) fun m hns hv=> ?_
  refine a9 (hv j x av h1 h2) fun v hvr hb=> ?_
  rcases hb with⟨h3,_⟩ |⟨_,fA,h4,o,h5,h6⟩
  ·rw [show({C with mine:=false}:FC).env=C.env from rfl,hkx]at h3;cases h3
  ·exact⟨v,fA,Nu hp hvr r,(hlk x hkx).trans h4,o,gr ((hcells x fA (j3 h4)).trans h5),h6⟩
end
theorem LX{x b c:Int}(hb:0<b):x%(b*c)/b=x/b%c:=by
 rw [Int.emod_def x (b*c),Int.emod_def (x/b) c,Int.ediv_ediv_of_nonneg (Int.le_of_lt hb)]
 have e:x-b*c*(x/(b*c))=x+b*(-(c*(x/(b*c)))):=by rw [Int.mul_neg,Int.mul_assoc];lia
 rw [e,Int.add_mul_ediv_left _ _ (Int.ne_of_gt hb)];lia
noncomputable def F5(n:Nat):Nat->Int->List Int
 |0,_=>[]
 |c+1,x=>x%2^n::F5 n c (x/2^n)
theorem I5(n:Nat):∀(c:Nat)(x:Int),(F5 n c x).length=c
 |0,_=>rfl
 |c+1,x=>by simp [F5,I5 n c]
theorem EC(n:Nat):∀(c d:Nat)(x:Int),F5 n (c+d) x=F5 n c (x%2^(c*n))++F5 n d (x/2^(c*n))
 |0,d,x=>by simp [F5]
 |c+1,d,x=>by
  have hp:(0:Int)<2^n:=Int.pow_pos (by decide)
  have e:(2:Int)^((c+1)*n)=2^n*2^(c*n):=by rw [←Int.pow_add];congr 1;rw [Nat.succ_mul];exact Pq
  rw [show c+1+d=(c+d)+1 by exact VN]
  simp only [F5,cons_append]
  rw [EC n c d (x/2^n),e,Int.ediv_ediv_of_nonneg (Int.le_of_lt hp)]
  congr 1
  ·(rw [Int.emod_emod_of_dvd _ (Int.dvd_mul_right _ _)];rfl)
  ·congr 2
   (rw [LX hp];rfl)
theorem PC{x:Int}(hx:0<=x)(s:Nat):Builtin.bitXor x (x/2^s*2^s)=x%2^s:=by
 have hp:(0:Int)<2^s:=Int.pow_pos (by decide)
 have e1:=Int.emod_add_mul_ediv x (2^s)
 have e2:x/2^s*2^s=2^s*(x/2^s):=Int.mul_comm _ _
 have h0:0<=x/2^s*2^s:=Int.mul_nonneg (Int.ediv_nonneg hx (Int.le_of_lt hp)) (Int.le_of_lt hp)
 have key:Builtin.bitAnd x (x/2^s*2^s)=x/2^s*2^s:=by
  obtain⟨a,rfl⟩:=Int.eq_ofNat_of_zero_le hx
  rw [bitAnd_pp hx h0]
  have e3:((a:Int)/2^s*2^s)=((a/2^s*2^s:Nat):Int):=by exact rfl
  rw [e3]
  simp only [Int.toNat_natCast]
  congr 1
  apply Nat.eq_of_testBit_eq
  intro i
  rw [Nat.testBit_and,←Nat.shiftLeft_eq,←Nat.shiftRight_eq_div_pow,Nat.testBit_shiftLeft,Nat.testBit_shiftRight]
  by_cases hi:s<=i
  ·simp [hi,Nat.add_sub_cancel' hi]
  ·simp;lia
 rw [bitXor_and,key];lia
noncomputable section
noncomputable def f7(K:Frag)(f:Addr)(i:Nat):Stmt:=((i6 K f)[i]?).getD (.Pass default)
noncomputable def Dc:Stmt->Arguments
 | .FunctionDef _ a _ _ _ _ _ _ _ _=>a
 |_=>default
noncomputable def P8:Stmt->List Stmt
 | .FunctionDef _ _ b _ _ _ _ _ _ _=>b
 |_=>[]
noncomputable def o3:Stmt->Scope
 | .FunctionDef _ _ _ _ _ _ s _ _ _=>s
 |_=>default
noncomputable def WA:Stmt->Pos
 | .FunctionDef _ _ _ _ _ _ _ _ _ p=>p
 |_=>default
end
noncomputable def WO:List Str:=(["x","L","R"]:List Str)++(["mid","shift","upper","lower"]:List Str)++(["a_digits","inner","n"]:List Str)
noncomputable def JI:o7:= .cons (.ite (.cmp (.bin .add (.var 1) (.int 1)) .eq (.var 2)) (.cons (.seti (.var 7) (.var 1) (.var 0)) (.cons (.ret .none) .nil)) .nil)
 (.cons (.asg 3 (.bin .shr (.bin .add (.var 1) (.var 2)) (.int 1)))
 (.cons (.asg 4 (.bin .mul (.bin .sub (.var 3) (.var 1)) (.var 9)))
 (.cons (.asg 5 (.bin .shr (.var 0) (.var 4)))
 (.cons (.asg 6 (.bin .xor (.var 0) (.bin .shl (.var 5) (.var 4))))
 (.cons (.expr (.call (.var 8) (.cons (.var 6) (.cons (.var 1) (.cons (.var 3) .nil)))))
 (.cons (.expr (.call (.var 8) (.cons (.var 5) (.cons (.var 3) (.cons (.var 2) .nil))))) .nil))))))
noncomputable def Rt:o7:= .cons (.ite (.var 0) (.cons (.expr (.call (.var 3) (.cons (.var 0) (.cons (.int 0) (.cons (.call (.glob (.builtin "len")) (.cons (.var 2) .nil)) .nil)))))
 .nil) .nil)
 (.cons (.ret (.var 2))
 .nil)
theorem VA(P:Params):f7 (KK P) 52 1= .FunctionDef "inner" (Dc (f7 (KK P) 52 1)) (P8 (f7 (KK P) 52 1)) [] none [] (o3 (f7 (KK P) 52 1)) none "inner" (WA (f7 (KK P) 52 1)):=by kernel_rfl
theorem VU(P:Params):l9 GL (s9++B4) false (f3 (KK P) 52).scope ((i6 (KK P) 52).drop 2) Rt=true:=by kernel_rfl
theorem RF(P:Params):l9 GL WO false (o3 (f7 (KK P) 52 1)) (P8 (f7 (KK P) 52 1)) JI=true:=by kernel_rfl
theorem Ib(L c':Nat):((L:Int)+((L+(c'+1):Nat):Int)).fdiv (2^(1:Int).toNat)=((L+(c'+1)/2:Nat):Int):=by
 rw [show(2:Int)^(1:Int).toNat=2 by decide,Int.fdiv_eq_ediv_of_nonneg _ (by decide)];lia
@[reducible] def QX(c':Nat):Prop:=∀{G:Prop}(h:¬c'=0)(k:∀c1 d1,(c'+1)/2=c1->c'+1=c1+d1->0<c1->0<d1->G),G
noncomputable def Gw:Uc:=ec fun u=>QX (u.n 0)
theorem YK:QX (Gw.n 0):=fun{G} h k=>k (((Gw.n 0)+1)/2) ((Gw.n 0)+1-((Gw.n 0)+1)/2) rfl (by exact ZN) (by lia) (by lia)
theorem Ec{c':Nat}:QX c':=by with_unfolding_all exact Mine.hk (q:=fun u:Uc=>QX (u.n 0)) YK (.mk Gw.b Gw.p Gw.f Gw.q Gw.v [] [c'] [] [] [] [] [] [] [] [] [] [] [] [] [])
noncomputable def Bb(xs:List AV)(L c:Nat)(ds:List Int):List AV:=xs.take L++ds.map .int++xs.drop (L+c)
theorem Pm{xs:List AV}{L c:Nat}{ds:List Int}(h:L+c<=xs.length)(hd:ds.length=c):(Bb xs L c ds).length=xs.length:=by
 simp [Bb,hd];exact ZV ‹_›
theorem MB{xs:List AV}{L c d:Nat}{ds es:List Int}(h:L+(c+d)<=xs.length)(hd:ds.length=c):Bb (Bb xs L c ds) (L+c) d es=Bb xs L (c+d) (ds++es):=by
 unfold Bb
 have e1:(xs.take L++ds.map AV.int).length=L+c:=by simp [hd];lia
 rw [List.take_append_of_le_length (by exact bD ‹_›),←e1,take_length]
 rw [drop_append,e1]
 have e2:(xs.take L++ds.map AV.int).drop (L+c+d)=[]:=drop_eq_nil_of_le (by lia)
 rw [e2,nil_append,drop_drop,map_append]
 simp [append_assoc]
 congr 1
 lia
theorem MV{xs:List AV}{L:Nat}{x:Int}(h:L<xs.length):xs.set L (.int x)=Bb xs L 1 [x]:=by
 unfold Bb
 rw [List.set_eq_take_append_cons_drop,if_pos h]
 simp
theorem G9(n:Nat):∀l:List AV,l8 n l=true↔∀a∈l,m8 n a=true
 | []=>by unfold l8;simp
 |a::r=>by
  unfold l8
  (rw [Bool.and_eq_true];rewrite [G9 n r])
  simp
theorem Aw(n:Nat)(i:Int):m8 n (.int i)=true:=rfl
theorem Be{xs:List AV}{L c:Nat}{ds:List Int}(h:l8 0 xs=true):l8 0 (Bb xs L c ds)=true:=by
 rw [G9]at h ⊢
 intro a ha
 unfold Bb at ha
 rcases mem_append.mp ha with ha |ha
 ·rcases mem_append.mp ha with ha |ha
  ·exact h a (mem_of_mem_take ha)
  ·obtain⟨i,_,rfl⟩:=mem_map.mp ha;rfl
 ·exact h a (List.mem_of_mem_drop ha)
theorem IT{ls:Ls}{k:Nat}{x:List AV}(hx:l8 0 x=true):Fa ls (ls.set k x):=fun j l hj h=>by
 by_cases e:k=j
 ·subst e
  rw [getElem?_set_self hj]at h
  (replace h:=Option.some.inj h;subst h);exact .inr hx
 ·rw [getElem?_set_ne e]at h;exact .inl h
theorem Rv{ls:Ls}{Q:AV->Ls->Prop}{vs:List (Option AV)}{k:Nat}{x:List AV}(hx:l8 0 x=true)(h:Q .none (ls.set k x)):D8 ls Q (.ret .none) ⟨vs,ls.set k x⟩:=
 L9 rfl (IT hx) (by rw [take_of_length_le (by simp)];exact h)
theorem GF{ls:Ls}{Q:AV->Ls->Prop}{vs:List (Option AV)}{k:Nat}{x:List AV}(hx:l8 0 x=true)(h:Q .none (ls.set k x)):D8 ls Q .next ⟨vs,ls.set k x⟩:=
 L9 (v:= .none) rfl (IT hx) (by rw [take_of_length_le (by simp)];exact h)
structure Uw(B':Bs)(F0:Addr)(fd:FuncData)(body:List Stmt)(ps fre:List Str)(fvs:List AV):Prop where
 fn:Jm B' F0 fd body
 cells:∀x∈fd.scope.names,x.2≠ .cell
 kinds:∀x∈ps,fd.scope.names.lookup x=some .local
 bind:∀vals:List Value,vals.length=ps.length->bindArgs fd ⟨vals,[]⟩=pure (ps.zip vals)
 fres:∀W s L,RL B' W L s->∀(i:Nat) x av,fre[i]? =some x->fvs[i]? =some av->∃v c,VR W av v∧fd.scope.names.lookup x=some .free∧fd.closure.lookup x=some c∧∃o,B'.eB.get? c=some o∧o.data= .cell (some v)
 clo:∀x c,(x,c)∈fd.closure->∃o v,B'.eB.get? c=some o∧o.data= .cell v
theorem Uw.call{B':Bs}{n:Nat}{G:List (Str×Value)}(hG:i7 B' G){F0:Addr}{fd:FuncData}{body:List Stmt}{ps loc fre:List Str}{fvs:List AV}(I:Uw B' F0 fd body ps fre fvs)(hnd:(ps++loc++fre).Nodup){xs:o7}
  (chk:l9 G (ps++loc++fre) false fd.scope body xs=true) {args:List AV} {ls:Ls} (hlen:args.length=ps.length) {Q:AV->Ls->Prop}
  (hwp:d9 B' n xs ⟨args.map some++List.replicate loc.length none++fvs.map some,ls⟩ (D8 ls Q)):Spec B' (n+1) (.ref F0) args [] ls Q:=
 NM hG I.fn I.cells hnd I.kinds chk hlen (fun W s vals kvs _ hv hk=>by
  obtain rfl:kvs=[]:=hk
  exact⟨vals,BindsTo.of_eq (I.bind vals (by(rw [hv.length,hlen];rfl))),hv⟩) (fun W s h=>I.fres W s ls h) I.clo hwp
section
variable{B':Bs}(hG:i7 B' GL){P:Params}{F0:Addr}{fd:FuncData}{k n:Nat}
include hG
theorem Zw(I:Uw B' F0 fd (P8 (f7 (KK P) 52 1)) (["x","L","R"]:List Str) (["a_digits","inner","n"]:List Str) [.lst k,.raw (.ref F0),.int n])(hsc:fd.scope=o3 (f7 (KK P) 52 1))(hn2:n<=100000)(N:Nat):
  ∀(c:Nat),0<c->c<=1000->∀(x:Int)(L:Nat)(ls:Ls)(xs:List AV),0<=x->x<2^(c*n)->ls[k]? =some xs->l8 0 xs=true->L+c<=xs.length->xs.length<=1000->∀Q:AV->Ls->Prop,Q .none (ls.set k (Bb xs L c (F5 n c x)))->
   Spec B' (N+c) (.ref F0) [.int x,.int L,.int ((L+c:Nat):Int)] [] ls Q:=by
 intro c
 induction c using Nat.strongRecOn with
 |_ c ih=>
 intro hc hc2 x L ls xs hx0 hx1 hk hpl hL hxl Q hq
 obtain⟨c',rfl⟩:∃c',c=c'+1:=⟨c-1,by exact aP ‹_›⟩
 refine I.call (n:=N+c') (loc:=(["mid","shift","upper","lower"]:List Str)) hG (by decide+kernel) (xs:=JI) (by rw [hsc];exact RF P) rfl ?_
 unfold JI
 change d9 _ _ _ ⟨[some (.int x),some (.int L),some (.int ((L+(c'+1):Nat):Int)),none,none,none,none,some (.lst k),some (.raw (.ref F0)),some (.int n)],ls⟩ _
 walk_at "#XH"
 by_cases h1:c'=0
 ·subst h1
  rw [if_pos (by simp)]
  walk_at "#Z%%%!"
  rw [hk]
  refine⟨by exact c1,by lia,by exact u2 ‹_› rfl,?_⟩
  walk_at "k#Vhh"
  have e:F5 n 1 x=[x]:=by
   simp only [F5]
   (rw [Int.emod_eq_of_lt hx0 (by simpa using hx1)];rfl)
  rw [Int.toNat_natCast,MV (by exact YI ‹_›)]
  rw [e]at hq
  exact Rv (Be hpl) hq
 ·rw [if_neg (by simp;lia)]
  walk_at "$k#Q0!"
  refine Bv (by exact c1) ?_
  walk_at "k#Q0!"
  rw [Ib]
  refine Ec h1 fun c1 d1 hc1 h2 q1 q2=> ?_
  rw [hc1]
  clear hc1 h1
  have es:((L+c1:Nat):Int)-(L:Int)=(c1:Int):=by lia
  rw [es]
  refine u4 (IntMulOk.of_left (intBits_le_64 (by lia) (by lia))) ?_
  walk_at "k#Q0!"
  have ecn:(c1:Int)*(n:Int)=((c1*n:Nat):Int):=by exact rfl
  have hcn:c1*n<=1000*100000:=Nat.mul_le_mul (by lia) hn2
  rw [ecn]
  have hp:(0:Int)<2^(c1*n):=Int.pow_pos (by decide)
  refine Bv (by lia) ?_
  walk_at "k#Q1!%0!"
  rw [Int.toNat_natCast,Int.fdiv_eq_ediv_of_nonneg _ (Int.le_of_lt hp)]
  have hu0:0<=x/2^(c1*n):=Int.ediv_nonneg hx0 (Int.le_of_lt hp)
  have hu1:x/2^(c1*n)<2^(d1*n):=by
   refine Int.ediv_lt_of_lt_mul hp ?_
   (rw [←Int.pow_add,←Nat.add_mul];rewrite [Nat.add_comm d1];rw [←h2]);exact hx1
  have hd:d1*n<=1000*100000:=Nat.mul_le_mul (by lia) hn2
  refine Y7 (by lia) ?_ ?_
  ·have:=o6 hu0 hu1
   have:(c1*n+d1*n:Nat)<=100000000+100000:=by
    rw [←Nat.add_mul,←h2]
    have:=Nat.mul_le_mul (show c'+1<=1001 by exact u2 ‹_› rfl) hn2
    assumption
   lia
  walk_at "`k#U'B!"
  (rw [Int.toNat_natCast];rewrite [PC hx0])
  have hl0:=Int.emod_nonneg x (Int.ne_of_gt hp)
  have hl1:=Int.emod_lt_of_pos x hp
  refine(ih c1 (by lia) (by assumption) (by lia) (x%2^(c1*n)) L ls xs hl0 hl1 hk hpl (by lia) hxl _ ?_).mono (by lia)
  walk_at "dk#U'B!"
  have hlen1:(Bb xs L c1 (F5 n c1 (x%2^(c1*n)))).length=xs.length:=Pm (by lia) (I5 _ _ _)
  rw [show((L+(c'+1):Nat):Int)=((L+c1+d1:Nat):Int) by lia]
  refine(ih d1 (by lia) (by assumption) (by lia) (x/2^(c1*n)) (L+c1) _ (Bb xs L c1 (F5 n c1 (x%2^(c1*n)))) hu0 hu1 (getElem?_set_self (List.getElem?_eq_some_iff.mp hk).1) (Be hpl) (by lia) (by exact e8 ‹_› ‹_› rfl) _ ?_).mono (by lia)
  walk_at "dk$"
  rw [List.set_set,MB (by lia) (I5 _ _ _),←EC,←h2]
  exact GF (Be hpl) hq
end
structure CtxD(B:Bs)(P:Params):Prop extends Ctx B P where
 D:Hn B
 tabs:B.tabs=[(51,47,Str.ofString "_int2digits.<locals>.inner"),(58,54,Str.ofString "_digits2int.<locals>.inner")]
theorem i7.re{B:Bs}{G:List (Str×Value)}(h:i7 B G){W:Wd}{g:Heap}(hb:∀a o,B.eB.get? a=some o->(B.re W g).eB.get? a=some o):i7 (B.re W g) G:=fun x v e=>by
 rcases h x v e with⟨mg,h1,h2⟩ |⟨mg,mb,h1,h2,h3,h4⟩
 ·exact .inl ⟨mg,h1.keeps hb,h2⟩
 ·exact .inr ⟨mg,mb,h1.keeps hb,h2,h3.keeps hb,h4⟩
theorem IF{fd:FuncData}{L f:Addr}(hnd:(fd.scope.names.map (·.1)).Nodup):∀x c,(x,c)∈(callEnvC fd L f).cells->(callEnvC fd L f).kindOf x=some .cell:=fun x c hm=>by
 rcases H7 (show(x,c)∈cellsFrom (L+1) fd.scope.names []from hm)with hm |hm
 ·cases hm
 ·exact N3 hnd hm
theorem RC(P:Params):i6 (KK P) 52=f7 (KK P) 52 0::f7 (KK P) 52 1::(i6 (KK P) 52).drop 2:=by kernel_rfl
theorem Uv(P:Params):Bh GL (s9++B4) true (f3 (KK P) 52).scope (f7 (KK P) 52 0) (.asg 2 (.bin .mul (.list (.cons (.int 0) .nil)) (.bin .fdiv (.bin .sub (.bin .add (.meth (.var 0) "bit_length" .nil) (.var 1)) (.int 1)) (.var 1))))=true:=by kernel_rfl
noncomputable def EJ(L:Addr):List (Str×Addr):=[(Str.ofString "n",L+1),(Str.ofString "inner",L+1+1+1),(Str.ofString "a_digits",L+1+1)]
theorem Lb(P:Params)(L:Addr):(callEnvC (f3 (KK P) 52) L 52).cells=[(Str.ofString "inner",L+1+1+1),(Str.ofString "a_digits",L+1+1),(Str.ofString "n",L+1)]:=by kernel_rfl
theorem QT(P:Params)(L:Addr):closureFor (o3 (f7 (KK P) 52 1)) (callEnvC (f3 (KK P) 52) L 52)=pure (EJ L):=by kernel_rfl
theorem Tq(P:Params)(L:Addr):qualnameIn (callEnvC (f3 (KK P) 52) L 52) "inner" "inner"=Str.ofString "_int2digits.<locals>.inner":=by kernel_rfl
theorem Ud(P:Params)(L:Addr):(callEnvC (f3 (KK P) 52) L 52).code= .ref 51:=by kernel_rfl
theorem Wg(P:Params):docOf (P8 (f7 (KK P) 52 1))=none:=by kernel_rfl
theorem YJ(P:Params):(Dc (f7 (KK P) 52 1)).defaults=[]:=by kernel_rfl
theorem ZC(P:Params):(Dc (f7 (KK P) 52 1)).kw_defaults=[]:=by kernel_rfl
theorem UI(P:Params)(env:Env):annTrees (Dc (f7 (KK P) 52 1)) none env=[]:=by kernel_rfl
theorem Wy(P:Params):A1 (s9++B4) (f3 (KK P) 52).scope true "inner" 3=true:=by kernel_rfl
theorem YF(P:Params):((o3 (f7 (KK P) 52 1)).kind== .function&& !(o3 (f7 (KK P) 52 1)).isCoroutine&& !(o3 (f7 (KK P) 52 1)).isGenerator&&decide (((o3 (f7 (KK P) 52 1)).names.map (·.1)).Nodup)&&(o3 (f7 (KK P) 52 1)).names.all (fun x=>x.2 != .cell)&&WO.take 3==(["x","L","R"]:List Str)&&(WO.take 3).all (fun x=>(o3 (f7 (KK P) 52 1)).names.lookup x==some .local)&&(WO.drop 7).all (fun x=>(o3 (f7 (KK P) 52 1)).names.lookup x==some .free))=true:=by kernel_rfl
theorem Tv(P:Params)(cl:List (Str×Addr))(doc pm cv ctv:Value):∀vals:List Value,vals.length=3->bindArgs (fnX "inner" (Str.ofString "_int2digits.<locals>.inner") (Dc (f7 (KK P) 52 1)) (P8 (f7 (KK P) 52 1)) (o3 (f7 (KK P) 52 1)) cl .none .none doc pm none cv ctv) ⟨vals,[]⟩=pure ((["x","L","R"]:List Str).zip vals):=fun vals h=>by
 refine Ll (TO h) fun a b c ee3=> ?_
 subst ee3
 kernel_rfl
theorem ZI(P:Params)(L:Addr)(x:Str):(EJ L).lookup x=(callEnvC (f3 (KK P) 52) L 52).cells.lookup x:=by
 rw [Lb]
 unfold EJ
 simp only [lookup_cons,List.lookup_nil]
 by_cases h1:x=Str.ofString "n"
 ·subst h1
  simp only [beq_self_eq_true,show((Str.ofString "n")==(Str.ofString "inner"))=false by decide+kernel,show((Str.ofString "n")==(Str.ofString "a_digits"))=false by decide+kernel]
 ·(rw [beq_eq_false_iff_ne.mpr h1];rfl)
theorem Dt{α:Type}(x:α):∀m:Nat,(List.replicate m [x]).flatten=List.replicate m x
 |0=>rfl
 |m+1=>by rw [replicate_succ,flatten_cons,Dt x m,replicate_succ];rfl
theorem Le{b n m:Nat}(hn:1<=n)(hm:m=(b+n-1)/n):b<=m*n:=by
 have h1:=Nat.mod_lt (b+n-1) (show 0<n by lia)
 have h2:=Nat.div_add_mod (b+n-1) n
 rw [←hm,Nat.mul_comm]at h2
 lia
theorem Jq(m:Nat):l8 0 (List.replicate m (.int 0))=true:=by
 rewrite [G9]
 intro a ha
 rw [List.eq_of_mem_replicate ha];rfl
section
variable{B:Bs}{P:Params}(C:CtxD B P){K:Nat}{ls:Ls}{Q:AV->Ls->Prop}
include C
@[reducible] def Xn(B:Bs)(P:Params)(K:Nat)(ls:Ls)(Q:AV->Ls->Prop)(a:Int)(n m:Nat):Prop:=∀(C:CtxD B P)(ha:0<=a)(hn:1<=n)(hn2:n<=100000)(hm:m=(Builtin.Int.intBits a+n-1)/n)(hm2:m<=20)(hq:Q (.lst ls.length) (ls++[(F5 n m a).map .int])),Spec B (K+21) (.ref 52) [.int a,.int n] [] ls Q
noncomputable def r9:Uc:=ec fun u=>Xn u.b u.p (u.n 0) (u.l 0) u.q (u.i 0) (u.n 1) (u.n 2)
@[irreducible] noncomputable def K41.a:Int:=(r9.i 0)
omit C in
open K41 in
theorem dD:Xn r9.b r9.p (r9.n 0) (r9.l 0) r9.q a (r9.n 1) (r9.n 2):=fun C ha hn hn2 hm hm2 hq=>by
 intro W s vals kvs hR hv hk
 obtain rfl:kvs=[]:=hk
 refine BM (CC C.X C.lim (EN r9.p)) fun F h1 h2 h3=> ?_
 refine a9 (F.obj) fun o hob hod=> ?_
 have ho:=hR.keep _ _ (hR.base _ _ hob)
 refine⟨fun a e=>by cases e;exact⟨o,_,ho,hod⟩,fun A E Z hA hZ=>wpAny_call ?_⟩
 have hbs:=BindsTo.of_eq (s:=s) (Hv r9.p vals (by rw [hv.length];rfl))
 have hold:∀b o,r9.b.eB.get? b=some o->s.heap.get? b=some o:=fun b o e=>hR.keep _ _ (hR.base _ _ e)
 refine codeAny_call_function (by have:=hA.1;lia) ho hod F.co F.gen F.body (F.code.keeps hold) (hbs _ _ _ _ ?_)
 rw [h1]
 refine wpAny_newFunctionEnv_cells F.kind (fun x hx=> ?_) fun env he s' x=> ?_
 ·have hp:=(of_mem_zip hx).1
  rcases h3 x.1 hp with hk |hk
  ·exact .inl hk
  ·refine f8 (o9 (n:=s.heap.objs.size+1) (acc:=[]) (mem_of_lookup hk)) fun c hc=> ?_
   exact .inr ⟨hk,j0 hc⟩
 subst he
 have hlim:s'.heap.NoLimit:=(F.lim.keeps hold).keeps x.toInCall.keep
 refine⟨hlim,codeAny_func ?_⟩
 have hf:=S9 F h2 hR hv rfl h3 x
 rw [RC]
 have hA':Br ((r9.n 0)+20) (A.deeper (callEnvC (f3 (KK r9.p) 52) s.heap.objs.size 52)):=hA.deeper
 refine wpAny_execs_cons (Oq C.G _ (Uv r9.p) (Q:=fun fl σ=>fl= .next∧σ=⟨[some (.int a),some (.int (r9.n 1)),some (.lst ((r9.l 0).length+1)),none],(r9.l 0)++[[.int 0]]++[List.replicate (r9.n 2) (.int 0)]⟩) ?_ W s' _ _ _ hA' hf fun f dR dX fl dU dW dT hfl dS=> ?_)
 ·change GD _ _ _ ⟨[some (.int a),some (.int (r9.n 1)),none,none],(r9.l 0)⟩ _
  walk_at "Q1!9B!i1!11-!"
  refine Dn ?_
  walk_at "%![&!]%!"
  refine Rb (by lia) (by exact TA ‹_› rfl) ?_
  have em:((Builtin.Int.intBits a:Int)+((r9.n 1):Int)-1).fdiv ((r9.n 1):Int)=((r9.n 2):Int):=by
   rw [Int.fdiv_eq_ediv_of_nonneg _ (by exact c1),hm]
   have:(Builtin.Int.intBits a:Int)+((r9.n 1):Int)-1=((Builtin.Int.intBits a+(r9.n 1)-1:Nat):Int):=by exact TS ‹_›
   rw [this];simp
  rw [em]
  refine Er (xs:=[.int 0]) (by simp) (by simp;exact u2 ‹_› rfl) (by lia) (by lia) ?_
  rw [Int.toNat_natCast,Dt]
  exact⟨rfl,by simp [R5]⟩
 refine b7 dS fun ee0 ee1=> ?_
 clear dS
 subst ee0
 subst ee1
 rw [show f=_ from hfl]
 dsimp only
 refine wpAny_execs_cons ?_
 rw [VA]
 have hsc:=YF r9.p
 simp only [Bool.and_eq_true,beq_iff_eq,Bool.not_eq_true',decide_eq_true_eq,all_eq_true,bne_iff_ne]at hsc
 refine b7 hsc fun ee0 g8=> ?_
 clear hsc
 obtain⟨⟨⟨⟨⟨⟨g1,g2⟩,g3⟩,g4⟩,g5⟩,g6⟩,g7⟩:=ee0
 refine NQ (i:=3) C.D C.lim dT rfl (IF F.nd) (Tq r9.p _) (QT r9.p _) rfl (fun y c hm=> ?_) (fun y _=>ZI r9.p _ y) (Ud r9.p _) (by rw [C.tabs];exact .head _) (fun fA eR dS hm hP=> ?_) (Wg r9.p) (YJ r9.p) (ZC r9.p) (UI r9.p _) (Wy r9.p) g1 g2 g3 g4 fun fK eB eE dY F0 doc pm cv ctv eF eA I=> ?_
 ·show(y,c)∈(callEnvC (f3 (KK r9.p) 52) s.heap.objs.size 52).cells
  rw [Lb]
  unfold EJ at hm
  simp only [mem_cons,not_mem_nil,or_false]at hm ⊢
  rcases hm with h |h |h
  ·exact .inr (.inr h)
  ·exact .inl h
  ·exact .inr (.inl h)
 ·rw [C.tabs]at hm
  simp only [mem_cons,Prod.mk.injEq,not_mem_nil,or_false]at hm
  rcases hm with⟨_,h,h'⟩ |⟨_,h,h'⟩
  ·exact h'
  ·rw [hP]at h;exact absurd h (by decide)
 have hG':i7 (r9.b.re fK eB) GL:=C.G.re I.base
 have hfree:∀y∈(["a_digits","inner","n"]:List Str),(o3 (f7 (KK r9.p) 52 1)).names.lookup y=some .free:=fun y hy=>by
  exact g8 y hy
 have kc:∀(y:Str),(f3 (KK r9.p) 52).scope.names.lookup y=some .cell->(callEnvC (f3 (KK r9.p) 52) s.heap.objs.size 52).kindOf y=some .cell:=fun y h=>h
 have inn:Uw (r9.b.re fK eB) F0 (fnX "inner" (Str.ofString "_int2digits.<locals>.inner") (Dc (f7 (KK r9.p) 52 1)) (P8 (f7 (KK r9.p) 52 1)) (o3 (f7 (KK r9.p) 52 1)) (EJ s.heap.objs.size) .none .none doc pm none cv ctv) (P8 (f7 (KK r9.p) 52 1)) (["x","L","R"]:List Str) (["a_digits","inner","n"]:List Str) [.lst ((r9.l 0).length+1),.raw (.ref F0),.int (r9.n 1)]:={
  fn:=I.fn
  cells:=fun x hx=>by exact g5 x hx
  kinds:=fun x hx=>g7 x hx
  bind:=Tv r9.p _ doc pm cv ctv
  clo:=I.clo
  fres:=fun W s L hr i x av e1 e2=>by
   have key:∃j:Nat,(s9++B4)[j]? =some x∧(St.setv ⟨[some (.int a),some (.int (r9.n 1)),some (.lst ((r9.l 0).length+1)),none],(r9.l 0)++[[.int 0]]++[List.replicate (r9.n 2) (.int 0)]⟩ 3 (.raw (.ref F0))).vars[j]? =some (some av)∧Dm av=true∧(f3 (KK r9.p) 52).scope.names.lookup x=some .cell∧(o3 (f7 (KK r9.p) 52 1)).names.lookup x=some .free:=by
    match i,e1,e2 with
    |0,e1,e2=>(replace e1:=Option.some.inj e1;subst e1);(replace e2:=Option.some.inj e2;subst e2);exact⟨2,rfl,rfl,rfl,by kernel_rfl,by kernel_rfl⟩
    |1,e1,e2=>(replace e1:=Option.some.inj e1;subst e1);(replace e2:=Option.some.inj e2;subst e2);exact⟨3,rfl,rfl,rfl,by kernel_rfl,by kernel_rfl⟩
    |2,e1,e2=>(replace e1:=Option.some.inj e1;subst e1);(replace e2:=Option.some.inj e2;subst e2);exact⟨1,rfl,rfl,rfl,by kernel_rfl,by kernel_rfl⟩
    |i+3,e1,_=>simp at e1
   refine RT key fun j k1 k2 k3 k4 k5=> ?_
   clear key
   refine o4 (I.fre x j av k1 k2 k3 (kc x k4) W s L hr) fun v c q1 q2 q3=> ?_
   exact⟨v,c,q1,k5,q2,q3⟩}
 have hwp:d9 (r9.b.re fK eB) ((r9.n 0)+20) Rt ⟨[some (.int a),some (.int (r9.n 1)),some (.lst ((r9.l 0).length+1)),some (.raw (.ref F0))],(r9.l 0)++[[.int 0]]++[List.replicate (r9.n 2) (.int 0)]⟩ (D8 (r9.l 0) r9.q):=by
  have hL:((r9.l 0)++[[AV.int 0]]++[List.replicate (r9.n 2) (.int 0)])[(r9.l 0).length+1]? =some (List.replicate (r9.n 2) (.int 0)):=by
   rw [getElem?_append_right (by simp)];simp
  have fin:∀ds:List Int,ds=F5 (r9.n 1) (r9.n 2) a->D8 (r9.l 0) r9.q (.ret (.lst ((r9.l 0).length+1))) ⟨[some (.int a),some (.int (r9.n 1)),some (.lst ((r9.l 0).length+1)),some (.raw (.ref F0))],(r9.l 0)++([[.int 0]]++[ds.map .int])⟩:=fun ds e=>by
   refine RE (k:=(r9.l 0).length+1) (x:=ds.map .int) ?_ (by exact EW) ?_ (by rw [e];exact hq)
   ·rw [getElem?_append_right (by exact EW)];simp
   ·rewrite [G9]
    intro b hb
    obtain⟨i,_,rfl⟩:=mem_map.mp hb;rfl
  unfold Rt
  walk_at "#XK"
  by_cases ha0:a=0
  ·have hm0:(r9.n 2)=0:=by
    rw [hm,ha0,show Builtin.Int.intBits 0=0 by decide,Nat.zero_add]
    exact Nat.div_eq_of_lt (by exact x7 ‹_›)
   rw [if_neg (by simp [ha0])]
   walk_at "$k#Oh"
   have:=fin [] (by rw [hm0];rfl)
   rw [hm0]
   simpa using this
  ·rw [if_pos (by simp [ha0])]
   walk_at "#U'D%D&D,!"
   refine o5 hL (by simp;exact u3 ‹_› rfl) ?_
   walk_at "B!"
   have hb1:1<=Builtin.Int.intBits a:=by
    unfold Builtin.Int.intBits
    rw [if_neg (by simpa using ha0)];lia
   have hbm:=Le hn hm
   have hm1:0<(r9.n 2):=by
    rcases Nat.eq_zero_or_pos (r9.n 2)with h |h
    ·rw [h]at hbm;lia
    ·exact h
   rw [length_replicate]
   have e0:(((r9.n 2):Nat):Int)=((0+(r9.n 2):Nat):Int):=by lia
   rw [e0]
   refine(Zw hG' inn rfl hn2 (r9.n 0) (r9.n 2) hm1 (by exact u2 ‹_› rfl) a 0 _ _ ha (I1 ha hbm) hL (Jq (r9.n 2)) (by simp) (by simp;exact u2 ‹_› rfl) _ ?_).mono (by exact RD ‹_›)
   walk_at "dk$k#Oh"
   have e1:Bb (List.replicate (r9.n 2) (AV.int 0)) 0 (r9.n 2) (F5 (r9.n 1) (r9.n 2) a)=(F5 (r9.n 1) (r9.n 2) a).map AV.int:=by
    unfold Bb;simp
   have e2:((r9.l 0)++[[AV.int 0]]++[List.replicate (r9.n 2) (AV.int 0)]).set ((r9.l 0).length+1) ((F5 (r9.n 1) (r9.n 2) a).map AV.int)=(r9.l 0)++([[AV.int 0]]++[(F5 (r9.n 1) (r9.n 2) a).map AV.int]):=by
    rw [set_append_right _ _ (by simp)];simp
   rw [e1,e2]
   exact fin _ rfl
 refine R9 hG' Rt (C:=⟨callEnvC (f3 (KK r9.p) 52) s.heap.objs.size 52,s9++B4,false⟩) (VU r9.p) hwp eE dY _ _ _ hA' eA fun fl eJ eZ fv eP eQ eK eW eM=> ?_
 have hl3:W.le eZ:=Wd.le_trans dW (Wd.le_trans eF eQ)
 have back:RL r9.b eZ eP.lists eJ:=RL.back eK.rl I.base fun k a hm=>Wd.le_get hl3 (hR.pins k a hm)
 cases fv with
 |next=>
  rw [show fl=_ from eW]
  refine r5 (V7 hR back hl3 (av:= .none) (v:= .none) rfl eM) fun W'' av' L' h1 h2 h3 h4=> ?_
  exact hZ _ _ W'' _ _ h1 h2 h3 h4
 |ret v=>
  refine a9 eW fun u ee1 hu=> ?_
  clear eW
  subst ee1
  refine r5 (V7 hR back hl3 hu eM) fun W'' av' L' h1 h2 h3 h4=> ?_
  exact hZ _ _ W'' _ _ h1 h2 h3 h4
 |brk=>exact eM.elim
 |cont=>exact eM.elim
omit C in
theorem U4{B:Bs}{P:Params}{K:Nat}{ls:Ls}{Q:AV->Ls->Prop}{a:Int}{n m:Nat}:Xn B P K ls Q a n m:=by with_unfolding_all exact Mine.hk (q:=fun u:Uc=>Xn u.b u.p (u.n 0) (u.l 0) u.q (u.i 0) (u.n 1) (u.n 2)) dD (.mk B P r9.f Q r9.v [ls] [K,n,m] [a] [] [] [] [] [] [] [] [] [] [] [] [])
end
noncomputable def K0(n:Nat):List Int->Int
 | []=>0
 |d::r=>d+2^n*K0 n r
theorem CV(n:Nat):∀(a b:List Int),K0 n (a++b)=K0 n a+2^(a.length*n)*K0 n b
 | [],b=>by simp [K0]
 |d::r,b=>by
  have e:(2:Int)^((r.length+1)*n)=2^n*2^(r.length*n):=by rw [←Int.pow_add];congr 1;rw [Nat.succ_mul];exact Pq
  simp only [cons_append,K0,length_cons]
  rw [CV n r b,e,Int.mul_add,Int.mul_assoc];lia
theorem DK(n:Nat):∀(a:List Int),(∀d∈a,0<=d∧d<2^n)->0<=K0 n a∧K0 n a<2^(a.length*n)
 | [],_=>by simp [K0]
 |d::r,h=>by
  refine b7 (DK n r fun x hx=>h x (.tail _ hx)) fun h1 h2=> ?_
  refine b7 (h d (.head _)) fun h3 h4=> ?_
  have hp:(0:Int)<2^n:=Int.pow_pos (by decide)
  have e:(2:Int)^((r.length+1)*n)=2^n*2^(r.length*n):=by rw [←Int.pow_add];congr 1;rw [Nat.succ_mul];exact Pq
  simp only [K0,length_cons]
  rw [e]
  have h5:=Int.mul_le_mul_of_nonneg_left (show K0 n r+1<=2^(r.length*n) by lia) (Int.le_of_lt hp)
  rw [Int.mul_add,Int.mul_one]at h5
  have h6:=Int.mul_nonneg (Int.le_of_lt hp) h1
  lia
theorem MA(n:Nat)(d:Int):K0 n [d]=d:=by
 show d+2^n*0=d
 (rw [Int.mul_zero,Int.add_zero];rfl)
theorem BP{i len:Nat}(h:i<len):seqIndex? (i:Int) len=some i:=by
 unfold seqIndex?
 simp only [show¬((i:Int)<0) by lia,if_false,Int.toNat_natCast]
 (rw [if_pos (by simp;assumption)];rfl)
theorem s0{ls:Ls}{k i:Nat}{xs:List AV}{a:AV}(hk:ls[k]? =some xs)(hi:xs[i]? =some a)(hl:xs.length<=1000000):t8 ls (.lst k) (.int i)=some a:=by
 have hlt:=(List.getElem?_eq_some_iff.mp hi).1
 unfold t8
 dsimp only
 rw [if_pos (by lia),hk]
 show(seqIndex? (i:Int) xs.length).bind (xs[·]?)=_
 rw [BP hlt]
 exact hi
noncomputable def aN:List Str:=(["L","R"]:List Str)++(["mid","shift"]:List Str)++(["digits","inner","n"]:List Str)
noncomputable def JB:o7:= .cons (.ite (.cmp (.bin .add (.var 0) (.int 1)) .eq (.var 1)) (.cons (.ret (.item (.var 4) (.var 0))) .nil) .nil)
 (.cons (.asg 2 (.bin .shr (.bin .add (.var 0) (.var 1)) (.int 1)))
 (.cons (.asg 3 (.bin .mul (.bin .sub (.var 2) (.var 0)) (.var 6)))
 (.cons (.ret (.bin .add (.bin .shl (.call (.var 5) (.cons (.var 2) (.cons (.var 1) .nil))) (.var 3)) (.call (.var 5) (.cons (.var 0) (.cons (.var 2) .nil))))) .nil)))
theorem TN(P:Params):i6 (KK P) 59=f7 (KK P) 59 0::(i6 (KK P) 59).drop 1:=by kernel_rfl
theorem Wm(P:Params):f7 (KK P) 59 0= .FunctionDef "inner" (Dc (f7 (KK P) 59 0)) (P8 (f7 (KK P) 59 0)) [] none [] (o3 (f7 (KK P) 59 0)) none "inner" (WA (f7 (KK P) 59 0)):=by kernel_rfl
theorem Vb(P:Params):l9 GL (s8++B5) false (f3 (KK P) 59).scope ((i6 (KK P) 59).drop 1) H9=true:=by kernel_rfl
theorem QN(P:Params):l9 GL aN false (o3 (f7 (KK P) 59 0)) (P8 (f7 (KK P) 59 0)) JB=true:=by kernel_rfl
noncomputable def Es(L:Addr):List (Str×Addr):=[(Str.ofString "n",L+1+1),(Str.ofString "inner",L+1+1+1),(Str.ofString "digits",L+1)]
theorem Lc(P:Params)(L:Addr):(callEnvC (f3 (KK P) 59) L 59).cells=[(Str.ofString "inner",L+1+1+1),(Str.ofString "n",L+1+1),(Str.ofString "digits",L+1)]:=by kernel_rfl
theorem PK(P:Params)(L:Addr):closureFor (o3 (f7 (KK P) 59 0)) (callEnvC (f3 (KK P) 59) L 59)=pure (Es L):=by kernel_rfl
theorem TQ(P:Params)(L:Addr):qualnameIn (callEnvC (f3 (KK P) 59) L 59) "inner" "inner"=Str.ofString "_digits2int.<locals>.inner":=by kernel_rfl
theorem Uj(P:Params)(L:Addr):(callEnvC (f3 (KK P) 59) L 59).code= .ref 58:=by kernel_rfl
theorem WM(P:Params):docOf (P8 (f7 (KK P) 59 0))=none:=by kernel_rfl
theorem ZT(P:Params):(Dc (f7 (KK P) 59 0)).defaults=[]:=by kernel_rfl
theorem ZK(P:Params):(Dc (f7 (KK P) 59 0)).kw_defaults=[]:=by kernel_rfl
theorem UQ(P:Params)(env:Env):annTrees (Dc (f7 (KK P) 59 0)) none env=[]:=by kernel_rfl
theorem UT(P:Params):A1 (s8++B5) (f3 (KK P) 59).scope true "inner" 2=true:=by kernel_rfl
theorem YD(P:Params):((o3 (f7 (KK P) 59 0)).kind== .function&& !(o3 (f7 (KK P) 59 0)).isCoroutine&& !(o3 (f7 (KK P) 59 0)).isGenerator&&decide (((o3 (f7 (KK P) 59 0)).names.map (·.1)).Nodup)&&(o3 (f7 (KK P) 59 0)).names.all (fun x=>x.2 != .cell)&&(aN.take 2).all (fun x=>(o3 (f7 (KK P) 59 0)).names.lookup x==some .local))=true:=by kernel_rfl
theorem TK(P:Params)(cl:List (Str×Addr))(doc pm cv ctv:Value):∀vals:List Value,vals.length=2->bindArgs (fnX "inner" (Str.ofString "_digits2int.<locals>.inner") (Dc (f7 (KK P) 59 0)) (P8 (f7 (KK P) 59 0)) (o3 (f7 (KK P) 59 0)) cl .none .none doc pm none cv ctv) ⟨vals,[]⟩=pure ((["L","R"]:List Str).zip vals):=fun vals h=>by
 refine I9 (IB h) fun a b ee2=> ?_
 subst ee2
 kernel_rfl
theorem Yt(P:Params)(L:Addr)(x:Str):(Es L).lookup x=(callEnvC (f3 (KK P) 59) L 59).cells.lookup x:=by
 rw [Lc]
 unfold Es
 simp only [lookup_cons,List.lookup_nil]
 by_cases h1:x=Str.ofString "n"
 ·subst h1
  simp only [beq_self_eq_true,show((Str.ofString "n")==(Str.ofString "inner"))=false by decide+kernel]
 ·(rw [beq_eq_false_iff_ne.mpr h1];rfl)
section
variable{B':Bs}(hG:i7 B' GL){P:Params}{F0:Addr}{fd:FuncData}{k n:Nat}
include hG
theorem Zv(I:Uw B' F0 fd (P8 (f7 (KK P) 59 0)) (["L","R"]:List Str) (["digits","inner","n"]:List Str) [.lst k,.raw (.ref F0),.int n])(hsc:fd.scope=o3 (f7 (KK P) 59 0))(hn2:n<=100000)(N:Nat)
  {ls:Ls} {ys:List Int} (hk:ls[k]? =some (ys.map .int)) (hy:∀d∈ys,0<=d∧d<2^n) (hyl:ys.length<=1000):
  ∀(c:Nat),0<c->∀(L:Nat),L+c<=ys.length->∀Q:AV->Ls->Prop,Q (.int (K0 n ((ys.drop L).take c))) ls->
   Spec B' (N+c) (.ref F0) [.int L,.int ((L+c:Nat):Int)] [] ls Q:=by
 intro c
 induction c using Nat.strongRecOn with
 |_ c ih=>
 intro hc L hL Q hq
 obtain⟨c',rfl⟩:∃c',c=c'+1:=⟨c-1,by exact aP ‹_›⟩
 refine I.call (n:=N+c') (loc:=(["mid","shift"]:List Str)) hG (by decide+kernel) (xs:=JB) (by rw [hsc];exact QN P) rfl ?_
 unfold JB
 change d9 _ _ _ ⟨[some (.int L),some (.int ((L+(c'+1):Nat):Int)),none,none,some (.lst k),some (.raw (.ref F0)),some (.int n)],ls⟩ _
 walk_at "#XH"
 by_cases h1:c'=0
 ·subst h1
  rw [if_pos (by simp)]
  walk_at "#W.!"
  have hlt:L<ys.length:=by exact YI ‹_›
  have e1:(ys.drop L).take 1=[ys[L]]:=by
   rw [drop_eq_getElem_cons hlt];rfl
  have e3:(ys.map AV.int)[L]? =some (AV.int (ys[L]'hlt)):=by
   (rw [getElem?_map,getElem?_eq_getElem hlt,Option.map_some];rfl)
  have e4:t8 ls (.lst k) (.int L)=some (AV.int (ys[L]'hlt)):=s0 hk e3 (by rw [length_map];exact u2 ‹_› rfl)
  trace_state
  with_reducible refine b8 e4 ?_
  walk_at "hh"
  refine m9 rfl ?_
  have hq':Q (.int (K0 n ((ys.drop L).take 1))) ls:=hq
  rw [e1,MA]at hq'
  exact hq'
 ·rw [if_neg (by simp;lia)]
  walk_at "$k#Q0!"
  refine Bv (by exact c1) ?_
  walk_at "k#Q0!"
  rw [Ib]
  refine Ec h1 fun c1 d1 hc1 h2 q1 q2=> ?_
  rw [hc1]
  clear hc1 h1
  have es:((L+c1:Nat):Int)-(L:Int)=(c1:Int):=by lia
  rw [es]
  refine u4 (IntMulOk.of_left (intBits_le_64 (by lia) (by lia))) ?_
  walk_at "k#W11'B!"
  have ecn:(c1:Int)*(n:Int)=((c1*n:Nat):Int):=by exact rfl
  have hcn:c1*n<=1000*100000:=Nat.mul_le_mul (by lia) hn2
  have hdn:d1*n<=1000*100000:=Nat.mul_le_mul (by lia) hn2
  rw [ecn,show((L+(c'+1):Nat):Int)=((L+c1+d1:Nat):Int) by lia]
  refine(ih d1 (by lia) (by assumption) (L+c1) (by lia) _ ?_).mono (by lia)
  walk_at "%!"
  have sub:∀i j,∀d∈(ys.drop i).take j,0<=d∧d<2^n:=fun i j d hd=>hy d (List.mem_of_mem_drop (mem_of_mem_take hd))
  refine b7 (DK n _ (sub (L+c1) d1)) fun v0 v1=> ?_
  have hl1:((ys.drop (L+c1)).take d1).length=d1:=by simp;exact aA ‹_› ‹_›
  rw [hl1]at v1
  refine Y7 (by lia) ?_ ?_
  ·have:=o6 v0 v1
   have:(c1*n+d1*n:Nat)<=100000000+100000:=by
    rw [←Nat.add_mul,←h2]
    have:=Nat.mul_le_mul (show c'+1<=1001 by lia) hn2
    assumption
   lia
  walk_at "'!B!"
  refine(ih c1 (by lia) (by assumption) L (by lia) _ ?_).mono (by lia)
  walk_at "[h"
  refine m9 rfl ?_
  rw [Int.toNat_natCast]
  have e2:(ys.drop L).take (c'+1)=(ys.drop L).take c1++(ys.drop (L+c1)).take d1:=by
   (rw [h2,List.take_add,drop_drop];rfl)
  have hl2:((ys.drop L).take c1).length=c1:=by simp;exact VD ‹_› ‹_›
  rw [e2,CV,hl2]at hq
  rw [Int.mul_comm,Int.add_comm]
  exact hq
end
section
variable{B:Bs}{P:Params}(C:CtxD B P){K:Nat}{ls:Ls}{Q:AV->Ls->Prop}
include C
@[reducible] def WZ(B:Bs)(P:Params)(K:Nat)(ls:Ls)(Q:AV->Ls->Prop)(k n:Nat)(ys:List Int):Prop:=∀(C:CtxD B P)(hk0:ls[k]? =some (ys.map .int))(hy:∀d∈ys,0<=d∧d<2^n)(hyl:ys.length<=20)(hn2:n<=100000)(hq:Q (.int (K0 n ys)) ls),Spec B (K+21) (.ref 59) [.lst k,.int n] [] ls Q
noncomputable def F3:Uc:=ec fun u=>WZ u.b u.p (u.n 0) (u.l 0) u.q (u.n 1) (u.n 2) (u.j 0)
@[irreducible] noncomputable def K70.k:Nat:=(F3.n 1)
omit C in
open K70 in
theorem bU:WZ F3.b F3.p (F3.n 0) (F3.l 0) F3.q k (F3.n 2) (F3.j 0):=fun C hk0 hy hyl hn2 hq=>by
 intro W s vals kvs hR hv hk
 obtain rfl:kvs=[]:=hk
 refine BM (CC C.X C.lim (EH F3.p)) fun F h1 h2 h3=> ?_
 refine a9 (F.obj) fun o hob hod=> ?_
 have ho:=hR.keep _ _ (hR.base _ _ hob)
 refine⟨fun a e=>by cases e;exact⟨o,_,ho,hod⟩,fun A E Z hA hZ=>wpAny_call ?_⟩
 have hbs:=BindsTo.of_eq (s:=s) (GV F3.p vals (by rw [hv.length];rfl))
 have hold:∀b o,F3.b.eB.get? b=some o->s.heap.get? b=some o:=fun b o e=>hR.keep _ _ (hR.base _ _ e)
 refine codeAny_call_function (by have:=hA.1;lia) ho hod F.co F.gen F.body (F.code.keeps hold) (hbs _ _ _ _ ?_)
 rw [h1]
 refine wpAny_newFunctionEnv_cells F.kind (fun x hx=> ?_) fun env he s' x=> ?_
 ·have hp:=(of_mem_zip hx).1
  rcases h3 x.1 hp with hk |hk
  ·exact .inl hk
  ·refine f8 (o9 (n:=s.heap.objs.size+1) (acc:=[]) (mem_of_lookup hk)) fun c hc=> ?_
   exact .inr ⟨hk,j0 hc⟩
 subst he
 have hlim:s'.heap.NoLimit:=(F.lim.keeps hold).keeps x.toInCall.keep
 refine⟨hlim,codeAny_func ?_⟩
 have hf:=S9 F h2 hR hv rfl h3 x
 rw [TN]
 have hA':Br ((F3.n 0)+20) (A.deeper (callEnvC (f3 (KK F3.p) 59) s.heap.objs.size 59)):=hA.deeper
 have hf':R F3.b W ⟨callEnvC (f3 (KK F3.p) 59) s.heap.objs.size 59,s8++B5,true⟩ ⟨[some (.lst k),some (.int (F3.n 2)),none],(F3.l 0)⟩ s':=hf
 refine wpAny_execs_cons ?_
 rw [Wm]
 have hsc:=YD F3.p
 simp only [Bool.and_eq_true,beq_iff_eq,Bool.not_eq_true',decide_eq_true_eq,all_eq_true,bne_iff_ne]at hsc
 refine b7 hsc fun ee0 g7=> ?_
 clear hsc
 obtain⟨⟨⟨⟨g1,g2⟩,g3⟩,g4⟩,g5⟩:=ee0
 refine NQ (i:=2) C.D C.lim hf' rfl (IF F.nd) (TQ F3.p _) (PK F3.p _) rfl (fun y c hm=> ?_) (fun y _=>Yt F3.p _ y) (Uj F3.p _) (by rw [C.tabs];exact .tail _ (.head _)) (fun fA eR dS hm hP=> ?_) (WM F3.p) (ZT F3.p) (ZK F3.p) (UQ F3.p _) (UT F3.p) g1 g2 g3 g4 fun fK eB eE dY F0 doc pm cv ctv eF eA I=> ?_
 ·show(y,c)∈(callEnvC (f3 (KK F3.p) 59) s.heap.objs.size 59).cells
  rw [Lc]
  unfold Es at hm
  simp only [mem_cons,not_mem_nil,or_false]at hm ⊢
  rcases hm with h |h |h
  ·exact .inr (.inl h)
  ·exact .inl h
  ·exact .inr (.inr h)
 ·rw [C.tabs]at hm
  simp only [mem_cons,Prod.mk.injEq,not_mem_nil,or_false]at hm
  rcases hm with⟨_,h,h'⟩ |⟨_,h,h'⟩
  ·rw [hP]at h;exact absurd h (by decide)
  ·exact h'
 have hG':i7 (F3.b.re fK eB) GL:=C.G.re I.base
 have kc:∀(y:Str),(f3 (KK F3.p) 59).scope.names.lookup y=some .cell->(callEnvC (f3 (KK F3.p) 59) s.heap.objs.size 59).kindOf y=some .cell:=fun y h=>h
 have inn:Uw (F3.b.re fK eB) F0 (fnX "inner" (Str.ofString "_digits2int.<locals>.inner") (Dc (f7 (KK F3.p) 59 0)) (P8 (f7 (KK F3.p) 59 0)) (o3 (f7 (KK F3.p) 59 0)) (Es s.heap.objs.size) .none .none doc pm none cv ctv) (P8 (f7 (KK F3.p) 59 0)) (["L","R"]:List Str) (["digits","inner","n"]:List Str) [.lst k,.raw (.ref F0),.int (F3.n 2)]:={
  fn:=I.fn
  cells:=fun x hx=>by exact g5 x hx
  kinds:=fun x hx=>g7 x hx
  bind:=TK F3.p _ doc pm cv ctv
  clo:=I.clo
  fres:=fun W s L hr i x av e1 e2=>by
   have key:∃j:Nat,(s8++B5)[j]? =some x∧(St.setv ⟨[some (.lst k),some (.int (F3.n 2)),none],(F3.l 0)⟩ 2 (.raw (.ref F0))).vars[j]? =some (some av)∧Dm av=true∧(f3 (KK F3.p) 59).scope.names.lookup x=some .cell∧(o3 (f7 (KK F3.p) 59 0)).names.lookup x=some .free:=by
    match i,e1,e2 with
    |0,e1,e2=>(replace e1:=Option.some.inj e1;subst e1);(replace e2:=Option.some.inj e2;subst e2);exact⟨0,rfl,rfl,rfl,by kernel_rfl,by kernel_rfl⟩
    |1,e1,e2=>(replace e1:=Option.some.inj e1;subst e1);(replace e2:=Option.some.inj e2;subst e2);exact⟨2,rfl,rfl,rfl,by kernel_rfl,by kernel_rfl⟩
    |2,e1,e2=>(replace e1:=Option.some.inj e1;subst e1);(replace e2:=Option.some.inj e2;subst e2);exact⟨1,rfl,rfl,rfl,by kernel_rfl,by kernel_rfl⟩
    |i+3,e1,_=>simp at e1
   refine RT key fun j k1 k2 k3 k4 k5=> ?_
   clear key
   refine o4 (I.fre x j av k1 k2 k3 (kc x k4) W s L hr) fun v c q1 q2 q3=> ?_
   exact⟨v,c,q1,k5,q2,q3⟩}
 have hwp:d9 (F3.b.re fK eB) ((F3.n 0)+20) H9 ⟨[some (.lst k),some (.int (F3.n 2)),some (.raw (.ref F0))],(F3.l 0)⟩ (D8 (F3.l 0) F3.q):=by
  unfold H9
  walk_at "#W="
  have ht:O5 (F3.l 0) (.lst k)=some (((F3.j 0).map AV.int).length !=0):=by
   show((F3.l 0)[k]?).bind _=_
   rw [hk0]
   show(if((F3.j 0).map AV.int).length<4611686018427387904 then some (((F3.j 0).map AV.int).length !=0)else none)=_
   (rw [if_pos (by rw [length_map];exact u3 ‹_› rfl)];rfl)
  with_reducible refine Ie rfl ht ?_
  rw [length_map]
  by_cases h0:(F3.j 0).length=0
  ·rw [if_neg (by simp [h0])]
   walk_at "&h"
   refine m9 rfl ?_
   rw [List.length_eq_zero_iff.mp h0]at hq
   exact hq
  ·rw [if_pos (by simpa using h0)]
   walk_at "'D&D,!"
   refine o5 hk0 (by rw [length_map];exact u3 ‹_› rfl) ?_
   walk_at "B!"
   rw [length_map]
   have e0:(((F3.j 0).length:Nat):Int)=((0+(F3.j 0).length:Nat):Int):=by lia
   rw [e0]
   refine(Zv hG' inn rfl hn2 (F3.n 0) hk0 hy (by exact u2 ‹_› rfl) (F3.j 0).length (by exact n3 ‹_›) 0 (by lia) _ ?_).mono (by exact RD ‹_›)
   walk_at "h"
   refine m9 rfl ?_
   rw [drop_zero,take_length];exact hq
 refine R9 hG' H9 (C:=⟨callEnvC (f3 (KK F3.p) 59) s.heap.objs.size 59,s8++B5,false⟩) (Vb F3.p) hwp eE dY _ _ _ hA' eA fun fl eJ eZ fv eP eQ eK eW eM=> ?_
 have hl3:W.le eZ:=Wd.le_trans eF eQ
 have back:RL F3.b eZ eP.lists eJ:=RL.back eK.rl I.base fun k a hm=>Wd.le_get hl3 (hR.pins k a hm)
 cases fv with
 |next=>
  rw [show fl=_ from eW]
  refine r5 (V7 hR back hl3 (av:= .none) (v:= .none) rfl eM) fun W'' av' L' h1 h2 h3 h4=> ?_
  exact hZ _ _ W'' _ _ h1 h2 h3 h4
 |ret v=>
  refine a9 eW fun u ee1 hu=> ?_
  clear eW
  subst ee1
  refine r5 (V7 hR back hl3 hu eM) fun W'' av' L' h1 h2 h3 h4=> ?_
  exact hZ _ _ W'' _ _ h1 h2 h3 h4
 |brk=>exact eM.elim
 |cont=>exact eM.elim
omit C in
theorem Ha{B:Bs}{P:Params}{K:Nat}{ls:Ls}{Q:AV->Ls->Prop}{k n:Nat}{ys:List Int}:WZ B P K ls Q k n ys:=by with_unfolding_all exact hk (q:=fun u:Uc=>WZ u.b u.p (u.n 0) (u.l 0) u.q (u.n 1) (u.n 2) (u.j 0)) bU (.mk B P F3.f Q F3.v [ls] [K,k,n] [] [] [] [] [] [] [ys] [] [] [] [] [] [])
end
theorem FX(n:Nat):∀(m:Nat)(x:Int),0<=x->x<2^(m*n)->K0 n (F5 n m x)=x
 |0,x,h0,h1=>by
  have:x=0:=by simp at h1;lia
  subst this;rfl
 |m+1,x,h0,h1=>by
  have hp:(0:Int)<2^n:=Int.pow_pos (by decide)
  have e:(2:Int)^((m+1)*n)=2^n*2^(m*n):=by rw [←Int.pow_add];congr 1;rw [Nat.succ_mul];exact Pq
  simp only [F5,K0]
  rw [FX n m (x/2^n) (Int.ediv_nonneg h0 (Int.le_of_lt hp)) (Int.ediv_lt_of_lt_mul hp (by rw [Int.mul_comm,←e];exact h1))]
  exact Int.emod_add_mul_ediv x (2^n)
theorem DN(n:Nat):∀(m:Nat)(x:Int),∀d∈F5 n m x,0<=d∧d<2^n
 |0,x,d,h=>by cases h
 |m+1,x,d,h=>by
  have hp:(0:Int)<2^n:=Int.pow_pos (by decide)
  rcases mem_cons.mp h with rfl |h
  ·exact⟨Int.emod_nonneg x (Int.ne_of_gt hp),Int.emod_lt_of_pos x hp⟩
  ·exact DN n m _ d h
noncomputable def Uy(n:Nat)(h:Int)(l:List Int):Int:=l.foldl (fun h d=>h*2^n+d) h
theorem Jf(n:Nat)(h:Int)(a b:List Int):Uy n h (a++b)=Uy n (Uy n h a) b:=List.foldl_append ..
theorem Ku(n:Nat):∀l:List Int,Uy n 0 l.reverse=K0 n l
 | []=>rfl
 |d::r=>by
  rw [List.reverse_cons,Jf,Ku n r]
  show K0 n r*2^n+d=d+2^n*K0 n r
  rw [Int.mul_comm];exact XH
structure CtxP(B:Bs)(P:Params):Prop extends CtxD B P where
 pins:B.pins=[]
noncomputable def Gv:o7:=(.cons (.unp 7 4 (.call (.glob (.ref 38)) (.cons (.bin .add (.bin .shl (.var 4) (.var 2)) (.var 6)) (.cons (.var 1) (.cons (.var 2) .nil)))))
 (.cons (.expr (.meth (.var 5) "append" (.cons (.var 7) .nil)))
 .nil))
section
variable{B:Bs}{P:Params}(C:CtxP B P){K:Nat}{ls:Ls}{Q:AV->Ls->Prop}
include C
theorem Ks{a b:Int}{n:Nat}{ds:List AV}(hb:2^(n-1)<=b)(hb2:b<2^n)(hn1:1<=n)(hn:n<=8000){F:Fl->St->Prop}:∀(items:List Int)(hi:Int)(qs:List Int)(v6 v7:Option AV),(∀d∈items,0<=d∧d<2^n)->K0 n qs.reverse=hi/b->(∀q∈qs,0<=q∧q<2^n)->qs.length+items.length<=20->
  (∀(v6 v7:Option AV)(qs':List Int),K0 n qs'.reverse=Uy n hi items/b->(∀q∈qs',0<=q∧q<2^n)->qs'.length<=20->F .next ⟨[some (.int a),some (.int b),some (.int n),some (.lst 0),some (.int (Uy n hi items%b)),some (.lst 1),v6,v7,none],[ds,qs'.map .int]⟩)->
  A2 (fun σ=>σ.lists[0]? =some ds) (.one 6) (d9 B (K+3) Gv) (items.map .int) ⟨[some (.int a),some (.int b),some (.int n),some (.lst 0),some (.int (hi%b)),some (.lst 1),v6,v7,none],[ds,qs.map .int]⟩ F
 | [],hi,qs,v6,v7,_,h2,h3,h4,hF=>⟨rfl,hF v6 v7 qs h2 h3 (by exact h4)⟩
 |d::r,hi,qs,v6,v7,h1,h2,h3,h4,hF=>by
  have hb0:0<b:=Int.lt_of_lt_of_le (Int.pow_pos (by decide)) hb
  have hp:(0:Int)<2^n:=Int.pow_pos (by decide)
  obtain⟨d0,d1⟩:=h1 d (.head _)
  have r0:=Int.emod_nonneg hi (Int.ne_of_gt hb0)
  have r1:=Int.emod_lt_of_pos hi hb0
  refine⟨rfl,?_⟩
  show d9 B (K+3) Gv ⟨[some (.int a),some (.int b),some (.int n),some (.lst 0),some (.int (hi%b)),some (.lst 1),some (.int d),v7,none],[ds,qs.map .int]⟩ _
  unfold Gv
  walk_at "#S4D10!"
  refine Y7 (by exact c1) ?_ ?_
  ·have:=o6 r0 (Int.lt_trans r1 hb2);lia
  walk_at "%![B!"
  rw [Int.toNat_natCast]
  have hmul:=Int.mul_le_mul_of_nonneg_right (show hi%b+1<=b by lia) (Int.le_of_lt hp)
  rw [Int.add_mul,Int.one_mul]at hmul
  have hm0:=Int.mul_nonneg r0 (Int.le_of_lt hp)
  refine SM (k:=K) C.toCtx (by exact Va ‹_› ‹_›) hb hb2 hn1 hn (by exact Om ‹_› ‹_›) ?_
  walk_at "e!k#U-!"
  refine F6 (k:=1) (xs:=qs.map .int) rfl (by rw [length_map];lia) ?_
  walk_at "dk$!"
  have em:(hi%b*2^n+d)%b=(hi*2^n+d)%b:=by
   (rw [Int.add_emod,Int.mul_emod,Int.emod_emod,←Int.mul_emod,←Int.add_emod];rfl)
  have ed:(hi*2^n+d)/b=hi/b*2^n+(hi%b*2^n+d)/b:=by
   have e1:=Int.emod_add_mul_ediv hi b
   have e2:hi*2^n+d=hi%b*2^n+d+b*(hi/b*2^n):=by
    rw [←Int.mul_assoc]
    have:hi*2^n=(hi%b+b*(hi/b))*2^n:=by(rw [e1];rfl)
    rw [this,Int.add_mul];lia
   rw [e2,Int.add_mul_ediv_left _ _ (Int.ne_of_gt hb0)];exact XH
  have q0:0<=(hi%b*2^n+d)/b:=Int.ediv_nonneg (by exact Va ‹_› ‹_›) (Int.le_of_lt hb0)
  have q1:(hi%b*2^n+d)/b<2^n:=Int.ediv_lt_of_lt_mul hb0 (by have:=Int.mul_comm b (2^n);lia)
  rw [em]
  have el:qs.map AV.int++[AV.int ((hi%b*2^n+d)/b)]=(qs++[(hi%b*2^n+d)/b]).map AV.int:=by simp
  rw [el]
  refine Ks hb hb2 hn1 hn r (hi*2^n+d) (qs++[(hi%b*2^n+d)/b]) _ _ (fun x hx=>h1 x (.tail _ hx)) ?_ (fun q hq=> ?_) (by simp at h4 ⊢;exact aT ‹_›) hF
  ·rw [List.reverse_append,ed]
   show(hi%b*2^n+d)/b+2^n*K0 n qs.reverse=_
   (rw [h2];rewrite [Int.mul_comm (2^n)]);exact XH
  ·rcases mem_append.mp hq with hq |hq
   ·exact h3 q hq
   ·rw [mem_singleton.mp hq];exact⟨q0,q1⟩
theorem Hx{a b:Int}(ha:0<=a)(hb:0<b)(hbits:Builtin.Int.intBits b<=8000)(habits:Builtin.Int.intBits a<=19*Builtin.Int.intBits b)(hq:Q (.tup [.int (a/b),.int (a%b)]) ls):Spec B (K+22) (.ref 66) [.int a,.int b] [] ls Q:=by
 refine Spec.frame C.pins rfl ?_
 generalize hn:Builtin.Int.intBits b=n at hbits habits
 have hn1:1<=n:=by
  rw [←hn];unfold Builtin.Int.intBits
  rw [if_neg (by simp;exact z4 ‹_›)];lia
 have hb2:b<2^n:=I1 (Int.le_of_lt hb) (by exact XS ‹_›)
 have hb1:2^(n-1)<=b:=by
  refine Decidable.by_contra fun h=> ?_
  have:=o6 (m:=n-1) (Int.le_of_lt hb) (by exact z2 ‹_›)
  lia
 refine y7 C.toCtx (Ei P) (Ea P) rfl (Gx P) ?_
 unfold AR
 change d9 _ _ _ ⟨[some (.int a),some (.int b),none,none,none,none,none,none,none],[]⟩ _
 walk_at "#Q-!"
 refine Dn ?_
 walk_at "k#Q,!"
 rw [hn]
 generalize hm:(Builtin.Int.intBits a+n-1)/n=m
 have hm2:m<=20:=by
  rw [←hm]
  refine Nat.le_of_lt_succ (Nat.div_lt_of_lt_mul ?_)
  exact Zm ‹_› ‹_›
 refine U4 (K:=K) C.toCtxD ha hn1 (by exact u2 ‹_› rfl) hm.symm hm2 ?_
 walk_at "k#N!k#Q9!B!ik#Y"
 refine Rm ?_
 walk_at "%!"
 have ham:a<2^(m*n):=I1 ha (Le hn1 hm.symm)
 show D9 _ (some ((F5 n m a).map AV.int))
 refine b8 rfl ?_
 rw [←map_reverse]
 have hz:(0:Int)=0%b:=by exact rfl
 have start:=Ks (K:=K+18) (a:=a) (ds:=(F5 n m a).map .int) C hb1 hb2 hn1 hbits (F:=I3 B (K+21) (.cons (.expr (.meth (.var 5) "reverse" .nil))
 (.cons (.asg 8 (.call (.glob (.ref 59)) (.cons (.var 5) (.cons (.var 2) .nil))))
 (.cons (.ret (.tup (.cons (.var 8) (.cons (.var 4) .nil))))
 .nil))) (D8 [] fun v _=>m8 0 v=true∧Q v ls)) (F5 n m a).reverse 0 [] none none (fun d hd=>DN n m a d (mem_reverse.mp hd)) (by simp [K0]) (fun q hq=>by cases hq) (by simp [I5];assumption) ?_
 ·rw [Int.zero_emod]at start
  exact start
 ·intro v6 v7 qs' g1 g2 g3
  rw [Ku,FX n m a ha ham]at g1 ⊢
  walk_at "k#U-!"
  refine JK (k:=1) (xs:=qs'.map .int) rfl (by rw [length_map];exact u2 ‹_› rfl) ?_
  walk_at "dk#Q,!"
  refine Ha (K:=K) C.toCtxD (k:=1) (ys:=qs'.reverse) (by simp) (fun d hd=>g2 d (mem_reverse.mp hd)) (by simpa using g3) (by exact u2 ‹_› rfl) ?_
  walk_at "k#W8Bih"
  rw [g1]
  exact L9 rfl (fun k l hk _=>by cases hk) ⟨rfl,hq⟩
end
theorem Ew(x:Int):Builtin.Int.intBits (-x)=Builtin.Int.intBits x:=by
 unfold Builtin.Int.intBits
 by_cases h:x=0
 ·subst h;rfl
 ·(rw [if_neg (by simpa using h),if_neg (by simpa using h),Int.natAbs_neg];rfl)
theorem neg_fdiv_neg{a b:Int}(hb:b<0):a.fdiv b=(-a)/(-b)∧a.fmod b= -((-a)%(-b)):=by
 have h1:a.fdiv b=(-a).fdiv (-b):=by(rw [Int.neg_fdiv_neg];rfl)
 have h2:=Int.fdiv_eq_ediv_of_nonneg (-a) (show 0<= -b by lia)
 refine⟨h1.trans h2,?_⟩
 have e1:=Int.fmod_add_mul_fdiv a b
 have e2:=Int.emod_add_mul_ediv (-a) (-b)
 rw [h1,h2]at e1
 rw [Int.neg_mul]at e2
 lia
section
variable{B:Bs}{P:Params}(C:CtxP B P){K:Nat}{ls:Ls}{Q:AV->Ls->Prop}
include C
theorem Iv{a b:Int}(ha:0<=a)(hb:0<b)(hbits:Builtin.Int.intBits b<=8000)(habits:Builtin.Int.intBits a<=19*Builtin.Int.intBits b)(hq:Q (.tup [.int (a/b),.int (a%b)]) ls):Spec B (K+23) (.ref 73) [.int a,.int b] [] ls Q:=by
 refine Spec.frame C.pins rfl ?_
 refine y7 C.toCtx (E5 P) (R2 P) rfl (J4 P) ?_
 unfold K2
 change d9 _ _ _ ⟨[some (.int a),some (.int b),none,none],[]⟩ _
 walk_at "#XH"
 rw [if_neg (by simp;exact z4 ‹_›)]
 walk_at "#XH"
 rw [if_neg (by simp;exact z3 ‹_›)]
 walk_at "#XH"
 rw [if_neg (by simp;assumption)]
 walk_at "#W,!"
 refine Hx (K:=K) C ha hb hbits habits ?_
 walk_at "hhhh"
 exact L9 rfl (fun k l hk _=>by cases hk) ⟨rfl,hq⟩
@[reducible] def Ru(B:Bs)(P:Params)(K:Nat)(ls:Ls)(Q:AV->Ls->Prop)(a b:Int):Prop:=∀(C:CtxP B P)(hb:0<b)(hbits:Builtin.Int.intBits b<=8000)(habits:Builtin.Int.intBits a<=19*Builtin.Int.intBits b)(hq:Q (.tup [.int (a/b),.int (a%b)]) ls),Spec B (K+24) (.ref 73) [.int a,.int b] [] ls Q
noncomputable def z0:Uc:=ec fun u=>Ru u.b u.p (u.n 0) (u.l 0) u.q (u.i 0) (u.i 1)
omit C in
theorem Ye:Ru z0.b z0.p (z0.n 0) (z0.l 0) z0.q (z0.i 0) (z0.i 1):=fun C hb hbits habits hq=>by
 by_cases ha:0<=(z0.i 0)
 ·exact(Iv (K:=(z0.n 0)) C ha hb hbits habits hq).mono (by exact J6 rfl)
 refine Spec.frame C.pins rfl ?_
 refine y7 C.toCtx (E5 z0.p) (R2 z0.p) rfl (J4 z0.p) ?_
 unfold K2
 change d9 _ _ _ ⟨[some (.int (z0.i 0)),some (.int (z0.i 1)),none,none],[]⟩ _
 walk_at "#XH"
 rw [if_neg (by simp;exact z4 ‹_›)]
 walk_at "#XH"
 rw [if_neg (by simp;exact z3 ‹_›)]
 walk_at "#XH"
 rw [if_pos (by simp;exact z2 ‹_›)]
 walk_at "#S4D;%cB!"
 have e:Builtin.bitNot (z0.i 0)= -(z0.i 0)-1:=by unfold Builtin.bitNot;(refine ZU ?_;simp)
 rw [e]
 refine Iv (K:=(z0.n 0)) C (by lia) hb hbits (Nat.le_trans (intBits_le_of_natAbs (y:=(z0.i 0)) (by exact Yo ‹_›) (Nat.le_refl _)) habits) ?_
 walk_at "e!k#W8D;%cD1%;%c![Bihhhh"
 refine L9 rfl (fun k l hk _=>by cases hk) ⟨rfl,?_⟩
 have r0:=Int.emod_nonneg (-(z0.i 0)-1) (Int.ne_of_gt hb)
 have r1:=Int.emod_lt_of_pos (-(z0.i 0)-1) hb
 have e1:=Int.emod_add_mul_ediv (-(z0.i 0)-1) (z0.i 1)
 have e2:Builtin.bitNot ((-(z0.i 0)-1)/(z0.i 1))= -((-(z0.i 0)-1)/(z0.i 1))-1:=by unfold Builtin.bitNot;(refine ZU ?_;simp)
 have e3:(z0.i 1)+Builtin.bitNot ((-(z0.i 0)-1)%(z0.i 1))=(z0.i 1)-(-(z0.i 0)-1)%(z0.i 1)-1:=by unfold Builtin.bitNot;lia
 obtain⟨f1,f2⟩:=G4 (N:=(z0.i 0)) (b:=(z0.i 1)) (q:= -((-(z0.i 0)-1)/(z0.i 1))-1) (r:=(z0.i 1)-(-(z0.i 0)-1)%(z0.i 1)-1) (by
  rw [Int.sub_mul,Int.neg_mul,Int.one_mul,Int.mul_comm _ (z0.i 1)];lia) (by lia) (by lia)
 rw [e2,e3,f1,f2]
 exact hq
omit C in
theorem It{B:Bs}{P:Params}{K:Nat}{ls:Ls}{Q:AV->Ls->Prop}{a b:Int}:Ru B P K ls Q a b:=by with_unfolding_all exact hk (q:=fun u:Uc=>Ru u.b u.p (u.n 0) (u.l 0) u.q (u.i 0) (u.i 1)) Ye (.mk B P z0.f Q z0.v [ls] [K] [a,b] [] [] [] [] [] [] [] [] [] [] [] [])
theorem J9{a b:Int}(hb:b≠0)(hbits:Builtin.Int.intBits b<=8000)(habits:Builtin.Int.intBits a<=19*Builtin.Int.intBits b)(hq:Q (.tup [.int (a.fdiv b),.int (a.fmod b)]) ls):Spec B (K+25) (.ref 73) [.int a,.int b] [] ls Q:=by
 by_cases hb0:0<b
 ·rw [Int.fdiv_eq_ediv_of_nonneg _ (Int.le_of_lt hb0),Int.fmod_eq_emod_of_nonneg _ (Int.le_of_lt hb0)]at hq
  exact(It (K:=K) C hb0 hbits habits hq).mono (by exact J6 rfl)
 have hb1:b<0:=by lia
 refine Spec.frame C.pins rfl ?_
 refine y7 C.toCtx (E5 P) (R2 P) rfl (J4 P) ?_
 unfold K2
 change d9 _ _ _ ⟨[some (.int a),some (.int b),none,none],[]⟩ _
 walk_at "#XH"
 rw [if_neg (by simp;assumption)]
 walk_at "#XH"
 rw [if_pos (by simp;assumption)]
 walk_at "#S,!"
 refine It (K:=K) C (by lia) (by rw [Ew];exact hbits) (by rw [Ew,Ew];exact habits) ?_
 walk_at "e!k#W8Bihhh"
 refine L9 rfl (fun k l hk _=>by cases hk) ⟨rfl,?_⟩
 obtain⟨f1,f2⟩:=neg_fdiv_neg (a:=a) hb1
 rw [←f1,←f2]
 exact hq
end
theorem TX(P:Params)(S:Setting)(v1 v2 v3 v4 kv:Value):peek (KK P) S (bindArgs (f3 (KK P) 91) ⟨[v1,v2,v3,v4],[(Str.ofString "key",kv)]⟩)=some (C7.zip [v1,v2,v3,v4,kv]):=by kernel_rfl
theorem Tc(P:Params)(S:Setting)(v1 v2 v3 kv:Value):peek (KK P) S (bindArgs (f3 (KK P) 91) ⟨[v1,v2,v3],[(Str.ofString "key",kv)]⟩)=some (C7.zip [v1,v2,v3,.none,kv]):=by kernel_rfl
theorem Rh(P:Params)(S:Setting)(v1 v2 v3 v4:Value):peek (KK P) S (bindArgs (f3 (KK P) 91) ⟨[v1,v2,v3,v4],[]⟩)=some (C7.zip [v1,v2,v3,v4,.none]):=by kernel_rfl
theorem Qf(P:Params)(S:Setting)(v1 v2 v3 v4 kv:Value):peek (KK P) S (bindArgs (f3 (KK P) 109) ⟨[v1,v2,v3,v4],[(Str.ofString "key",kv)]⟩)=some (E8.zip [v1,v2,v3,v4,kv]):=by kernel_rfl
theorem QY(P:Params)(S:Setting)(v1 v2 kv:Value):peek (KK P) S (bindArgs (f3 (KK P) 109) ⟨[v1,v2],[(Str.ofString "key",kv)]⟩)=some (E8.zip [v1,v2,.int 0 406,.none,kv]):=by kernel_rfl
theorem Oa(P:Params)(S:Setting)(v1 v2 v3 v4:Value):peek (KK P) S (bindArgs (f3 (KK P) 109) ⟨[v1,v2,v3,v4],[]⟩)=some (E8.zip [v1,v2,v3,v4,.none]):=by kernel_rfl
theorem Un(P:Params)(S:Setting)(v1 v2 kv:Value):peek (KK P) S (bindArgs (f3 (KK P) 82) ⟨[v1,v2],[(Str.ofString "key",kv)]⟩)=some (N1.zip [v1,v2,.int 0 366,.none,kv]):=by kernel_rfl
theorem PF(P:Params)(S:Setting)(v1 v2 v3 v4 kv:Value):peek (KK P) S (bindArgs (f3 (KK P) 100) ⟨[v1,v2,v3,v4],[(Str.ofString "key",kv)]⟩)=some (R7.zip [v1,v2,v3,v4,kv]):=by kernel_rfl
noncomputable def AA(ke:Ex):o7:=(.cons (.asg 5 (.bin .fdiv (.bin .add (.var 2) (.var 3)) (.int 2)))
 (.cons (.ite (.cmp (.var 1) .lt ke) (.cons (.asg 3 (.var 5))
 .nil) (.cons (.asg 2 (.bin .add (.var 5) (.int 1)))
 .nil))
 .nil))
noncomputable def Aq(ke:Ex):o7:=(.cons (.asg 5 (.bin .fdiv (.bin .add (.var 2) (.var 3)) (.int 2)))
 (.cons (.ite (.cmp ke .lt (.var 1)) (.cons (.asg 2 (.bin .add (.var 5) (.int 1)))
 .nil) (.cons (.asg 3 (.var 5))
 .nil))
 .nil))
structure CN(B:Bs)(n:Nat)(ls:Ls)(k:Nat)(x:Int)(key:AV)(ke:Ex)(kf:Nat->Int)(len:Nat):Prop where
 out:∀(m:Nat)(lo hi:AV)(Q:AV->St->Prop),m<len->Q (.int (kf m)) ⟨[some (.lst k),some (.int x),some lo,some hi,some key,some (.int m)],ls⟩->t9 B n ke ⟨[some (.lst k),some (.int x),some lo,some hi,some key,some (.int m)],ls⟩ Q
theorem Nx(lo hi:Nat):((lo:Int)+(hi:Int)).fdiv 2=(((lo+hi)/2:Nat):Int):=by
 rw [Int.fdiv_eq_ediv_of_nonneg _ (by decide)];lia
theorem Dr{B:Bs}{n:Nat}{ls:Ls}{k:Nat}{x:Int}{key:AV}{ke:Ex}{kf:Nat->Int}{len:Nat}(hK:CN B n ls k x key ke kf len){lo0 hi0:Nat}(hs:∀i j,lo0<=i->i<=j->j<hi0->kf i<=kf j)(hh:hi0<=len){F:Fl->St->Prop}
  (hF:∀(r:Nat)(v5:Option AV),lo0<=r->r<=hi0->(∀i,lo0<=i->i<r->kf i<=x)->(∀i,r<=i->i<hi0->x<kf i)->F .next ⟨[some (.lst k),some (.int x),some (.int r),some (.int r),some key,v5],ls⟩):
  ∀(fuel lo hi:Nat)(v5:Option AV),hi-lo<fuel->lo0<=lo->lo<=hi->hi<=hi0->(∀i,lo0<=i->i<lo->kf i<=x)->(∀i,hi<=i->i<hi0->x<kf i)->
  A9 (DR B n (.cmp (.var 2) .lt (.var 3))) (d9 B n (AA ke)) fuel ⟨[some (.lst k),some (.int x),some (.int lo),some (.int hi),some key,v5],ls⟩ F
 |0,lo,hi,v5,h,_,_,_,_,_=>by lia
 |fuel+1,lo,hi,v5,h,h0,h1,h2,h3,h4=>by
  unfold A9
  walk_at "H"
  by_cases hlt:lo<hi
  ·rw [if_pos (by simp;assumption)]
   unfold AA
   walk_at "#Q0!bk#XI%"
   rw [Nx]
   refine hK.out _ _ _ _ (by lia) ?_
   walk_at "f"
   by_cases hx:x<kf ((lo+hi)/2)
   ·rw [if_pos (by simp [hx])]
    walk_at "#N!k$k$!"
    refine Dr hK hs hh hF fuel lo _ _ (by exact Vp ‹_› ‹_›) h0 (by lia) (by lia) h3 fun i h5 h6=> ?_
    by_cases h7:i<hi
    ·exact Int.lt_of_lt_of_le hx (hs _ _ (by lia) h5 h6)
    ·exact h4 i (by exact n1 ‹_›) h6
   ·rw [if_neg (by simp;exact z1 ‹_›)]
    walk_at "#N!k$k$!"
    rw [show(((lo+hi)/2:Nat):Int)+1=(((lo+hi)/2+1:Nat):Int) by exact c6]
    refine Dr hK hs hh hF fuel _ hi _ (by exact UD ‹_› ‹_›) (by lia) (by lia) h2 (fun i h5 h6=> ?_) h4
    exact Int.le_trans (hs _ ((lo+hi)/2) h5 (by lia) (by lia)) (by exact z1 ‹_›)
  ·rw [if_neg (by simp;exact n1 ‹_›)]
   obtain rfl:lo=hi:=by exact n9 ‹_› ‹_›
   exact hF lo v5 h0 h2 h3 h4
theorem Du{B:Bs}{n:Nat}{ls:Ls}{k:Nat}{x:Int}{key:AV}{ke:Ex}{kf:Nat->Int}{len:Nat}(hK:CN B n ls k x key ke kf len){lo0 hi0:Nat}(hs:∀i j,lo0<=i->i<=j->j<hi0->kf i<=kf j)(hh:hi0<=len){F:Fl->St->Prop}
  (hF:∀(r:Nat)(v5:Option AV),lo0<=r->r<=hi0->(∀i,lo0<=i->i<r->kf i<x)->(∀i,r<=i->i<hi0->x<=kf i)->F .next ⟨[some (.lst k),some (.int x),some (.int r),some (.int r),some key,v5],ls⟩):
  ∀(fuel lo hi:Nat)(v5:Option AV),hi-lo<fuel->lo0<=lo->lo<=hi->hi<=hi0->(∀i,lo0<=i->i<lo->kf i<x)->(∀i,hi<=i->i<hi0->x<=kf i)->
  A9 (DR B n (.cmp (.var 2) .lt (.var 3))) (d9 B n (Aq ke)) fuel ⟨[some (.lst k),some (.int x),some (.int lo),some (.int hi),some key,v5],ls⟩ F
 |0,lo,hi,v5,h,_,_,_,_,_=>by lia
 |fuel+1,lo,hi,v5,h,h0,h1,h2,h3,h4=>by
  unfold A9
  walk_at "H"
  by_cases hlt:lo<hi
  ·rw [if_pos (by simp;assumption)]
   unfold Aq
   walk_at "#Q0!bk#XI"
   rw [Nx]
   refine hK.out _ _ _ _ (by lia) ?_
   walk_at "%!f"
   by_cases hx:kf ((lo+hi)/2)<x
   ·rw [if_pos (by simp [hx])]
    walk_at "#N!k$k$!"
    rw [show(((lo+hi)/2:Nat):Int)+1=(((lo+hi)/2+1:Nat):Int) by exact c6]
    refine Du hK hs hh hF fuel _ hi _ (by exact UD ‹_› ‹_›) (by lia) (by lia) h2 (fun i h5 h6=> ?_) h4
    exact Int.lt_of_le_of_lt (hs _ ((lo+hi)/2) h5 (by lia) (by lia)) hx
   ·rw [if_neg (by simp;exact z1 ‹_›)]
    walk_at "#N!k$k$!"
    refine Du hK hs hh hF fuel lo _ _ (by exact Vp ‹_› ‹_›) h0 (by lia) (by lia) h3 fun i h5 h6=> ?_
    by_cases h7:i<hi
    ·exact Int.le_trans (by exact z1 ‹_›) (hs _ _ (by lia) h5 h6)
    ·exact h4 i (by exact n1 ‹_›) h6
  ·rw [if_neg (by simp;exact n1 ‹_›)]
   obtain rfl:lo=hi:=by exact n9 ‹_› ‹_›
   exact hF lo v5 h0 h2 h3 h4
section
variable{B:Bs}{P:Params}(C:Ctx B P){n:Nat}{ls:Ls}{Q:AV->Ls->Prop}
include C
theorem P6{f:Addr}{ps loc:List Str}{xs:o7}(ck:D1 (KK P) f ps loc=true)(cx:l9 GL (ps++loc) true (f3 (KK P) f).scope (i6 (KK P) f) xs=true){args:List AV}{kw:List (Str×AV)}{bnd:List AV}(hlen:bnd.length=ps.length)
  (hb:∀(W:Wd)(vals kvs:List Value),l5 W args vals->l5 W (kw.map (·.2)) kvs->∃vs,(∀S,peek (KK P) S (bindArgs (f3 (KK P) f) ⟨vals,(kw.map (·.1)).zip kvs⟩)=some (ps.zip vs))∧l5 W bnd vs)
  (hw:d9 B n xs ⟨bnd.map some++List.replicate loc.length none,ls⟩ (D8 ls Q)):Spec B (n+1) (.ref f) args kw ls Q:=by
 refine BM (CC C.X C.lim ck) fun F h1 h2 h3=> ?_
 refine IK C.G F h1 h2 h3 cx hlen (fun W s vals kvs hR hv hk=> ?_) hw
 refine a9 (hb W vals kvs hv hk) fun vs g1 g2=> ?_
 exact⟨vs,kp_binds (C.X.keeps fun b o e=>hR.keep _ _ (hR.base _ _ e)) g1,g2⟩
omit C in
theorem Sd{k:Nat}{x:Int}{key:AV}{xs:List Int}(hk:ls[k]? =some (xs.map .int))(hl:xs.length<=1000000):CN B n ls k x key (.item (.var 0) (.var 5)) (fun i=>xs.getD i 0) xs.length:=⟨fun m lo hi Q hm hq=>by
 walk_at ".!"
 have e:(xs.map AV.int)[m]? =some (.int (xs.getD m 0)):=by
  rw [getElem?_map,getElem?_eq_getElem hm,Option.map_some]
  simp [hm]
 have e4:=s0 hk e (by rw [length_map];assumption)
 with_reducible refine b8 e4 ?_
 exact hq⟩
theorem Lm{k:Nat}{x:Int}{xs:List Str}(hk:ls[k]? =some (xs.map .str))(hl:xs.length<=1000000)(hx:∀y∈xs,y.length<=1000000):CN B (n+1) ls k x (.raw (.ref 154)) (.call (.var 4) (.cons (.item (.var 0) (.var 5)) .nil)) (fun i=>((xs.getD i Str.empty).length:Int)-2) xs.length:=⟨fun m lo hi Q hm hq=>by
 walk_at "'D.!"
 have e:(xs.map AV.str)[m]? =some (.str (xs.getD m Str.empty)):=by
  rw [getElem?_map,getElem?_eq_getElem hm,Option.map_some]
  simp [hm]
 have e4:=s0 hk e (by rw [length_map];assumption)
 with_reducible refine b8 e4 ?_
 walk_at "B!"
 have hmem:xs.getD m Str.empty∈xs:=by
  have:xs.getD m Str.empty=xs[m]:=by simp [hm]
  rw [this];exact getElem_mem hm
 refine C3 C (hx _ hmem) ?_
 exact hq⟩
end
section
variable{B:Bs}{n:Nat}{ls:Ls}{Q:AV->Ls->Prop}
theorem Qo{k:Nat}{x:Int}{key:AV}{kf:Nat->Int}{len:Nat}{lo hi:Nat}(b:Bool)(hb:Bm ls .is key .none=some b){ke:Ex}(hke:ke=if b=true then .item (.var 0) (.var 5)else .call (.var 4) (.cons (.item (.var 0) (.var 5)) .nil))(hK:CN B n ls k x key ke kf len)(hh:hi<=len)(hlh:lo<=hi)(hs:∀i j,lo<=i->i<=j->j<hi->kf i<=kf j)
  (hq:∀r:Nat,lo<=r->r<=hi->(∀i,lo<=i->i<r->kf i<=x)->(∀i,r<=i->i<hi->x<kf i)->Q (.int r) ls):
  d9 B n (.cons (.ite (.cmp (.var 4) .is .none) (.cons (.while (.cmp (.var 2) .lt (.var 3)) (AA (.item (.var 0) (.var 5)))) .nil) (.cons (.while (.cmp (.var 2) .lt (.var 3)) (AA (.call (.var 4) (.cons (.item (.var 0) (.var 5)) .nil)))) .nil)) (.cons (.ret (.var 2)) .nil))
   ⟨[some (.lst k),some (.int x),some (.int lo),some (.int hi),some key,none],ls⟩ (D8 ls Q):=by
 refine c0 (CW (Eh ?_))
 walk_at "%*!"
 with_reducible refine FN hb ?_
 cases b with
 |true=>
  rw [if_pos rfl]at hke ⊢
  subst hke
  refine c0 (X2 (hi-lo+1) ?_)
  refine Dr hK hs hh (fun r v5 h1 h2 h3 h4=> ?_) _ lo hi none (by lia) (Nat.le_refl _) hlh (Nat.le_refl _) (fun i h1 h2=>by lia) (fun i h1 h2=>by lia)
  walk_at "k$k#Oh"
  exact m9 (Aw 0 _) (hq r h1 h2 h3 h4)
 |false=>
  rw [if_neg (by decide)]at hke ⊢
  subst hke
  refine c0 (X2 (hi-lo+1) ?_)
  refine Dr hK hs hh (fun r v5 h1 h2 h3 h4=> ?_) _ lo hi none (by lia) (Nat.le_refl _) hlh (Nat.le_refl _) (fun i h1 h2=>by lia) (fun i h1 h2=>by lia)
  walk_at "k$k#Oh"
  exact m9 (Aw 0 _) (hq r h1 h2 h3 h4)
theorem Pz{k:Nat}{x:Int}{key:AV}{kf:Nat->Int}{len:Nat}{lo hi:Nat}(b:Bool)(hb:Bm ls .is key .none=some b){ke:Ex}(hke:ke=if b=true then .item (.var 0) (.var 5)else .call (.var 4) (.cons (.item (.var 0) (.var 5)) .nil))(hK:CN B n ls k x key ke kf len)(hh:hi<=len)(hlh:lo<=hi)(hs:∀i j,lo<=i->i<=j->j<hi->kf i<=kf j)
  (hq:∀r:Nat,lo<=r->r<=hi->(∀i,lo<=i->i<r->kf i<x)->(∀i,r<=i->i<hi->x<=kf i)->Q (.int r) ls):
  d9 B n (.cons (.ite (.cmp (.var 4) .is .none) (.cons (.while (.cmp (.var 2) .lt (.var 3)) (Aq (.item (.var 0) (.var 5)))) .nil) (.cons (.while (.cmp (.var 2) .lt (.var 3)) (Aq (.call (.var 4) (.cons (.item (.var 0) (.var 5)) .nil)))) .nil)) (.cons (.ret (.var 2)) .nil))
   ⟨[some (.lst k),some (.int x),some (.int lo),some (.int hi),some key,none],ls⟩ (D8 ls Q):=by
 refine c0 (CW (Eh ?_))
 walk_at "%*!"
 with_reducible refine FN hb ?_
 cases b with
 |true=>
  rw [if_pos rfl]at hke ⊢
  subst hke
  refine c0 (X2 (hi-lo+1) ?_)
  refine Du hK hs hh (fun r v5 h1 h2 h3 h4=> ?_) _ lo hi none (by lia) (Nat.le_refl _) hlh (Nat.le_refl _) (fun i h1 h2=>by lia) (fun i h1 h2=>by lia)
  walk_at "k$k#Oh"
  exact m9 (Aw 0 _) (hq r h1 h2 h3 h4)
 |false=>
  rw [if_neg (by decide)]at hke ⊢
  subst hke
  refine c0 (X2 (hi-lo+1) ?_)
  refine Du hK hs hh (fun r v5 h1 h2 h3 h4=> ?_) _ lo hi none (by lia) (Nat.le_refl _) hlh (Nat.le_refl _) (fun i h1 h2=>by lia) (fun i h1 h2=>by lia)
  walk_at "k$k#Oh"
  exact m9 (Aw 0 _) (hq r h1 h2 h3 h4)
theorem NR{k:Nat}{x:Int}{key hiV:AV}{kf:Nat->Int}{items:List AV}{lo hi:Nat}(hk:ls[k]? =some items)(hl:items.length<=1000000)(b:Bool)(hb:Bm ls .is key .none=some b){ke:Ex}(hke:ke=if b=true then .item (.var 0) (.var 5)else .call (.var 4) (.cons (.item (.var 0) (.var 5)) .nil))(hK:CN B n ls k x key ke kf items.length)
  (hv:hiV= .int hi∨(hiV= .none∧hi=items.length)) (hh:hi<=items.length) (hlh:lo<=hi) (hs:∀i j,lo<=i->i<=j->j<hi->kf i<=kf j)
  (hq:∀r:Nat,lo<=r->r<=hi->(∀i,lo<=i->i<r->kf i<=x)->(∀i,r<=i->i<hi->x<kf i)->Q (.int r) ls):
  d9 B n L8 ⟨[some (.lst k),some (.int x),some (.int lo),some hiV,some key,none],ls⟩ (D8 ls Q):=by
 have tl:=Qo (B:=B) (n:=n) b hb hke hK hh hlh hs hq
 unfold L8
 walk_at "#XH"
 rw [if_neg (by simp)]
 refine Ck (V6 ?_)
 rcases hv with rfl |⟨rfl,rfl⟩
 ·refine c0 (CW (Eh ?_))
  walk_at "%"
  walk_at "*"
  with_reducible refine FN (t:=false) rfl ?_
  rw [if_neg (by decide)]
  exact Ck (V6 tl)
 ·refine c0 (CW (Eh ?_))
  walk_at "%"
  walk_at "*"
  with_reducible refine FN (t:=true) rfl ?_
  rw [if_pos rfl]
  refine c0 (DE (EX ?_) rfl)
  walk_at "B!"
  refine o5 hk (by lia) ?_
  walk_at "k$k"
  exact tl
theorem Na{k:Nat}{x:Int}{key hiV:AV}{kf:Nat->Int}{items:List AV}{lo hi:Nat}(hk:ls[k]? =some items)(hl:items.length<=1000000)(b:Bool)(hb:Bm ls .is key .none=some b){ke:Ex}(hke:ke=if b=true then .item (.var 0) (.var 5)else .call (.var 4) (.cons (.item (.var 0) (.var 5)) .nil))(hK:CN B n ls k x key ke kf items.length)
  (hv:hiV= .int hi∨(hiV= .none∧hi=items.length)) (hh:hi<=items.length) (hlh:lo<=hi) (hs:∀i j,lo<=i->i<=j->j<hi->kf i<=kf j)
  (hq:∀r:Nat,lo<=r->r<=hi->(∀i,lo<=i->i<r->kf i<x)->(∀i,r<=i->i<hi->x<=kf i)->Q (.int r) ls):
  d9 B n Q7 ⟨[some (.lst k),some (.int x),some (.int lo),some hiV,some key,none],ls⟩ (D8 ls Q):=by
 have tl:=Pz (B:=B) (n:=n) b hb hke hK hh hlh hs hq
 unfold Q7
 walk_at "#XH"
 rw [if_neg (by simp)]
 refine Ck (V6 ?_)
 rcases hv with rfl |⟨rfl,rfl⟩
 ·refine c0 (CW (Eh ?_))
  walk_at "%"
  walk_at "*"
  with_reducible refine FN (t:=false) rfl ?_
  rw [if_neg (by decide)]
  exact Ck (V6 tl)
 ·refine c0 (CW (Eh ?_))
  walk_at "%"
  walk_at "*"
  with_reducible refine FN (t:=true) rfl ?_
  rw [if_pos rfl]
  refine c0 (DE (EX ?_) rfl)
  walk_at "B!"
  refine o5 hk (by lia) ?_
  walk_at "k$k"
  exact tl
end
noncomputable def f9(xs:List Str)(i:Nat):Int:=((xs.getD i Str.empty).length:Int)-2
theorem MC{W:Wd}{a b c d e:AV}{vals:List Value}(h:l5 W [a,b,c,d] vals){v:Value}(hv:VR W e v):∃x y z u,vals=[x,y,z,u]∧l5 W [a,b,c,d,e] [x,y,z,u,v]:=by
 refine o4 h fun x _ ee2 h1 rr1=> ?_
 clear h
 subst ee2
 obtain⟨y,_,rfl,h2,z,_,rfl,h3,u,_,rfl,h4,rfl⟩:=rr1
 exact⟨x,y,z,u,rfl,x,_,rfl,h1,y,_,rfl,h2,z,_,rfl,h3,u,_,rfl,h4,v,_,rfl,hv,rfl⟩
section
variable{B:Bs}{P:Params}(C:Ctx B P){n:Nat}{ls:Ls}{Q:AV->Ls->Prop}
include C
theorem Lx{k:Nat}{x:Int}{xs:List Str}{lo:Nat}(hk:ls[k]? =some (xs.map .str))(hl:xs.length<=1000)(hx:∀y∈xs,y.length<=1000000)(hlh:lo<=xs.length)(hs:∀i j,lo<=i->i<=j->j<xs.length->f9 xs i<=f9 xs j)
  (hq:∀r:Nat,lo<=r->r<=xs.length->(∀i,lo<=i->i<r->f9 xs i<=x)->(∀i,r<=i->i<xs.length->x<f9 xs i)->Q (.int r) ls):
  Spec B (n+2) (.ref 91) [.lst k,.int x,.int lo] [(Str.ofString "key",.raw (.ref 154))] ls Q:=by
 refine P6 C (J1 P) (J2 P) (bnd:=[.lst k,.int x,.int lo,.none,.raw (.ref 154)]) rfl (fun W vals kvs hv hk'=> ?_) ?_
 ·refine o4 hk' fun kv _ ee2 h5 ee4=> ?_
  clear hk'
  subst ee2
  subst ee4
  refine o4 hv fun a _ ee2 h1 rr5=> ?_
  clear hv
  subst ee2
  obtain⟨b,_,rfl,h2,c,_,rfl,h3,rfl⟩:=rr5
  exact⟨_,fun S=>Tc P S a b c kv,a,_,rfl,h1,b,_,rfl,h2,c,_,rfl,h3,_,_,rfl,rfl,kv,_,rfl,h5,rfl⟩
 ·exact NR (key:= .raw (.ref 154)) (hiV:= .none) (hi:=xs.length) hk (by rw [length_map];exact u2 ‹_› rfl) false (by with_unfolding_all exact rfl) (if_neg (by decide)).symm (by rw [length_map];exact Lm C hk (by exact u2 ‹_› rfl) hx) (.inr ⟨rfl,by(rw [length_map];rfl)⟩) (by rw [length_map];exact Xh) hlh hs hq
theorem ME{k:Nat}{x:Int}{xs:List Int}{lo hi:Nat}(hk:ls[k]? =some (xs.map .int))(hl:xs.length<=1000)(hh:hi<=xs.length)(hlh:lo<=hi)(hs:∀i j,lo<=i->i<=j->j<hi->xs.getD i 0<=xs.getD j 0)
  (hq:∀r:Nat,lo<=r->r<=hi->(∀i,lo<=i->i<r->xs.getD i 0<=x)->(∀i,r<=i->i<hi->x<xs.getD i 0)->Q (.int r) ls):
  Spec B (n+1) (.ref 91) [.lst k,.int x,.int lo,.int hi] [] ls Q:=by
 refine P6 C (J1 P) (J2 P) (bnd:=[.lst k,.int x,.int lo,.int hi,.none]) rfl (fun W vals kvs hv hk'=> ?_) ?_
 ·obtain rfl:kvs=[]:=hk'
  refine BQ (MC hv (e:= .none) (v:= .none) rfl) fun a b c d ee4 hr=> ?_
  subst ee4
  exact⟨_,fun S=>Rh P S a b c d,hr⟩
 ·exact NR (key:= .none) (hiV:= .int hi) hk (by rw [length_map];exact u2 ‹_› rfl) true (by with_unfolding_all exact rfl) (if_pos rfl).symm (by rw [length_map];exact Sd hk (by exact u2 ‹_› rfl)) (.inl rfl) (by rw [length_map];exact hh) hlh hs hq
theorem Fs{k:Nat}{x:Int}{xs:List Str}{lo hi:Nat}(hk:ls[k]? =some (xs.map .str))(hl:xs.length<=1000)(hx:∀y∈xs,y.length<=1000000)(hh:hi<=xs.length)(hlh:lo<=hi)(hs:∀i j,lo<=i->i<=j->j<hi->f9 xs i<=f9 xs j)
  (hq:∀r:Nat,lo<=r->r<=hi->(∀i,lo<=i->i<r->f9 xs i<x)->(∀i,r<=i->i<hi->x<=f9 xs i)->Q (.int r) ls):
  Spec B (n+2) (.ref 109) [.lst k,.int x,.int lo,.int hi] [(Str.ofString "key",.raw (.ref 154))] ls Q:=by
 refine P6 C (N0 P) (O2 P) (bnd:=[.lst k,.int x,.int lo,.int hi,.raw (.ref 154)]) rfl (fun W vals kvs hv hk'=> ?_) ?_
 ·refine o4 hk' fun kv _ ee2 h5 ee4=> ?_
  clear hk'
  subst ee2
  subst ee4
  refine BQ (MC hv h5) fun a b c d ee4 hr=> ?_
  subst ee4
  exact⟨_,fun S=>Qf P S a b c d kv,hr⟩
 ·exact Na (key:= .raw (.ref 154)) (hiV:= .int hi) hk (by rw [length_map];exact u2 ‹_› rfl) false (by with_unfolding_all exact rfl) (if_neg (by decide)).symm (by rw [length_map];exact Lm C hk (by exact u2 ‹_› rfl) hx) (.inl rfl) (by rw [length_map];exact hh) hlh hs hq
theorem LB{k:Nat}{x:Int}{xs:List Str}(hk:ls[k]? =some (xs.map .str))(hl:xs.length<=1000)(hx:∀y∈xs,y.length<=1000000)(hs:∀i j,i<=j->j<xs.length->f9 xs i<=f9 xs j)
  (hq:∀r:Nat,r<=xs.length->(∀i,i<r->f9 xs i<x)->(∀i,r<=i->i<xs.length->x<=f9 xs i)->Q (.int r) ls):
  Spec B (n+2) (.ref 109) [.lst k,.int x] [(Str.ofString "key",.raw (.ref 154))] ls Q:=by
 refine P6 C (N0 P) (O2 P) (bnd:=[.lst k,.int x,.int (0:Nat),.none,.raw (.ref 154)]) rfl (fun W vals kvs hv hk'=> ?_) ?_
 ·refine o4 hk' fun kv _ ee2 h5 ee4=> ?_
  clear hk'
  subst ee2
  subst ee4
  refine o4 hv fun a _ ee2 h1 rr10=> ?_
  clear hv
  subst ee2
  obtain⟨b,_,rfl,h2,rfl⟩:=rr10
  exact⟨_,fun S=>QY P S a b kv,a,_,rfl,h1,b,_,rfl,h2,_,_,rfl,⟨_,rfl⟩,_,_,rfl,rfl,kv,_,rfl,h5,rfl⟩
 ·exact Na (key:= .raw (.ref 154)) (hiV:= .none) (lo:=0) (hi:=xs.length) hk (by rw [length_map];exact u2 ‹_› rfl) false (by with_unfolding_all exact rfl) (if_neg (by decide)).symm (by rw [length_map];exact Lm C hk (by exact u2 ‹_› rfl) hx) (.inr ⟨rfl,by(rw [length_map];rfl)⟩) (by rw [length_map];exact Xh) (Nat.zero_le _) (fun i j _=>hs i j) (fun r _ h1 h2 h3=>hq r h1 (fun i=>h2 i (Nat.zero_le _)) h3)
theorem MM{k:Nat}{x:Int}{xs:List Int}{lo hi:Nat}(hk:ls[k]? =some (xs.map .int))(hl:xs.length<=1000)(hh:hi<=xs.length)(hlh:lo<=hi)(hs:∀i j,lo<=i->i<=j->j<hi->xs.getD i 0<=xs.getD j 0)
  (hq:∀r:Nat,lo<=r->r<=hi->(∀i,lo<=i->i<r->xs.getD i 0<x)->(∀i,r<=i->i<hi->x<=xs.getD i 0)->Q (.int r) ls):
  Spec B (n+1) (.ref 109) [.lst k,.int x,.int lo,.int hi] [] ls Q:=by
 refine P6 C (N0 P) (O2 P) (bnd:=[.lst k,.int x,.int lo,.int hi,.none]) rfl (fun W vals kvs hv hk'=> ?_) ?_
 ·obtain rfl:kvs=[]:=hk'
  refine BQ (MC hv (e:= .none) (v:= .none) rfl) fun a b c d ee4 hr=> ?_
  subst ee4
  exact⟨_,fun S=>Oa P S a b c d,hr⟩
 ·exact Na (key:= .none) (hiV:= .int hi) hk (by rw [length_map];exact u2 ‹_› rfl) true (by with_unfolding_all exact rfl) (if_pos rfl).symm (by rw [length_map];exact Sd hk (by exact u2 ‹_› rfl)) (.inl rfl) (by rw [length_map];exact hh) hlh hs hq
end
theorem Dv(xs:List Str):l8 0 (xs.map .str)=true:=by
 rewrite [G9]
 intro a ha
 obtain⟨x,_,rfl⟩:=mem_map.mp ha;rfl
noncomputable def Y5(xs:List Str)(r:Nat)(row:Str):List Str:=xs.take r++row::xs.drop r
theorem Gf(xs:List Str)(r:Nat)(row:Str):(xs.map AV.str).take r++AV.str row::(xs.map AV.str).drop r=(Y5 xs r row).map AV.str:=by
 unfold Y5
 (rw [map_append,map_cons,map_take,map_drop];rfl)
section
variable{B:Bs}{P:Params}(C:Ctx B P){n:Nat}{ls:Ls}{Q:AV->Ls->Prop}
include C
theorem JW{k:Nat}{x:Int}{xs:List Str}{lo:Nat}(hk:ls[k]? =some (xs.map .str))(hl:xs.length<=1000)(hx:∀y∈xs,y.length<=1000000)(hlh:lo<=xs.length)(hs:∀i j,lo<=i->i<=j->j<xs.length->f9 xs i<=f9 xs j)
  (hq:∀r:Nat,lo<=r->r<=xs.length->(∀i,lo<=i->i<r->f9 xs i<=x)->(∀i,r<=i->i<xs.length->x<f9 xs i)->Q (.int r) ls):
  Spec B (n+2) (.ref 91) [.lst k,.int x,.int lo,.none] [(Str.ofString "key",.raw (.ref 154))] ls Q:=by
 refine P6 C (J1 P) (J2 P) (bnd:=[.lst k,.int x,.int lo,.none,.raw (.ref 154)]) rfl (fun W vals kvs hv hk'=> ?_) ?_
 ·refine o4 hk' fun kv _ ee2 h5 ee4=> ?_
  clear hk'
  subst ee2
  subst ee4
  refine BQ (MC hv h5) fun a b c d ee4 hr=> ?_
  subst ee4
  exact⟨_,fun S=>TX P S a b c d kv,hr⟩
 ·exact NR (key:= .raw (.ref 154)) (hiV:= .none) (hi:=xs.length) hk (by rw [length_map];exact u2 ‹_› rfl) false (by with_unfolding_all exact rfl) (if_neg (by decide)).symm (by rw [length_map];exact Lm C hk (by exact u2 ‹_› rfl) hx) (.inr ⟨rfl,by(rw [length_map];rfl)⟩) (by rw [length_map];exact Xh) hlh hs hq
theorem EB{k:Nat}{row:Str}{xs:List Str}(hk:ls[k]? =some (xs.map .str))(hl:xs.length<=1000)(hx:∀y∈xs,y.length<=1000000)(hrow:row.length<=1000000)(hs:∀i j,i<=j->j<xs.length->f9 xs i<=f9 xs j)
  (hq:∀r:Nat,r<=xs.length->(∀i,i<r->f9 xs i<=(row.length:Int)-2)->(∀i,r<=i->i<xs.length->(row.length:Int)-2<f9 xs i)->Q .none (ls.set k ((Y5 xs r row).map .str))):
  Spec B (n+3) (.ref 82) [.lst k,.str row] [(Str.ofString "key",.raw (.ref 154))] ls Q:=by
 refine P6 C (De P) (Db P) (bnd:=[.lst k,.str row,.int (0:Nat),.none,.raw (.ref 154)]) rfl (fun W vals kvs hv hk'=> ?_) ?_
 ·refine o4 hk' fun kv _ ee2 h5 ee4=> ?_
  clear hk'
  subst ee2
  subst ee4
  refine o4 hv fun a _ ee2 h1 rr4=> ?_
  clear hv
  subst ee2
  obtain⟨b,_,rfl,h2,rfl⟩:=rr4
  exact⟨_,fun S=>Un P S a b kv,a,_,rfl,h1,b,_,rfl,h2,_,_,rfl,⟨_,rfl⟩,_,_,rfl,rfl,kv,_,rfl,h5,rfl⟩
 ·unfold Y9
  change d9 _ _ _ ⟨[some (.lst k),some (.str row),some (.int (0:Nat)),some .none,some (.raw (.ref 154))],ls⟩ _
  walk_at "#XH"
  rw [if_neg (by decide)]
  walk_at "#Q5!D%D'B!"
  refine(C3 (n:=n) C hrow ?_).mono (by exact J6 rfl)
  walk_at "B%!"
  refine JW (n:=n) C hk hl hx (Nat.zero_le _) (fun i j _=>hs i j) fun r _ h1 h2 h3=> ?_
  walk_at "k$k#U-!"
  refine Fk (k:=k) (xs:=xs.map .str) hk (by rw [length_map];exact u2 ‹_› rfl) (by exact c1) (by rw [length_map];exact c4 ‹_›) ?_
  walk_at "dk$"
  rw [Int.toNat_natCast,Gf]
  exact GF (Dv _) (hq r h1 (fun i=>h2 i (Nat.zero_le _)) h3)
theorem Ff{k:Nat}{row:Str}{xs:List Str}{lo hi:Nat}(hk:ls[k]? =some (xs.map .str))(hl:xs.length<=1000)(hx:∀y∈xs,y.length<=1000000)(hrow:row.length<=1000000)(hh:hi<=xs.length)(hlh:lo<=hi)(hs:∀i j,lo<=i->i<=j->j<hi->f9 xs i<=f9 xs j)
  (hq:∀r:Nat,lo<=r->r<=hi->(∀i,lo<=i->i<r->f9 xs i<(row.length:Int)-2)->(∀i,r<=i->i<hi->(row.length:Int)-2<=f9 xs i)->Q .none (ls.set k ((Y5 xs r row).map .str))):
  Spec B (n+3) (.ref 100) [.lst k,.str row,.int lo,.int hi] [(Str.ofString "key",.raw (.ref 154))] ls Q:=by
 refine P6 C (DJ P) (DV P) (bnd:=[.lst k,.str row,.int lo,.int hi,.raw (.ref 154)]) rfl (fun W vals kvs hv hk'=> ?_) ?_
 ·refine o4 hk' fun kv _ ee2 h5 ee4=> ?_
  clear hk'
  subst ee2
  subst ee4
  refine BQ (MC hv h5) fun a b c d ee4 hr=> ?_
  subst ee4
  exact⟨_,fun S=>PF P S a b c d kv,hr⟩
 ·unfold AM
  change d9 _ _ _ ⟨[some (.lst k),some (.str row),some (.int lo),some (.int hi),some (.raw (.ref 154))],ls⟩ _
  walk_at "#XH"
  rw [if_neg (by decide)]
  walk_at "#Q5!D%D'B!"
  refine(C3 (n:=n) C hrow ?_).mono (by exact J6 rfl)
  walk_at "B%!"
  refine Fs (n:=n) C hk hl hx hh hlh hs fun r h0 h1 h2 h3=> ?_
  walk_at "k$k#U-!"
  refine Fk (k:=k) (xs:=xs.map .str) hk (by rw [length_map];exact u2 ‹_› rfl) (by exact c1) (by rw [length_map];lia) ?_
  walk_at "dk$"
  rw [Int.toNat_natCast,Gf]
  exact GF (Dv _) (hq r h0 h1 h2 h3)
end
noncomputable abbrev Fg:=Nat×Nat×Bool
noncomputable def IO(es:List Fg):Nat->Nat->Nat->Bool
 |0,a,b=>a==b
 |f+1,a,b=>a==b ||es.any fun e=>e.1==a&&IO es f e.2.1 b
noncomputable def Ej(es:List Fg):Nat->Nat->Nat->Bool
 |0,_,_=>false
 |f+1,a,b=>es.any fun e=>e.1==a&&((e.2.2&&IO es f e.2.1 b) ||Ej es f e.2.1 b)
def Holds(k:Nat->Int)(es:List Fg):Prop:=∀e∈es,if e.2.2 then k e.1<k e.2.1 else k e.1<=k e.2.1
theorem DP{k:Nat->Int}{es:List Fg}(h:Holds k es):∀(f a b:Nat),IO es f a b=true->k a<=k b
 |0,a,b,e=>by rw [eq_of_beq e];exact Int.le_refl _
 |f+1,a,b,e=>by
  unfold IO at e
  rcases(Bool.or_eq_true _ _).mp e with e |e
  ·rw [eq_of_beq e];exact Int.le_refl _
  ·refine a9 (any_eq_true.mp e) fun x hx e=> ?_
   rw [Bool.and_eq_true]at e
   have h1:=h x hx
   have h2:=DP h f _ _ e.2
   rw [←eq_of_beq e.1]
   split at h1<;>(first |lia |exact z9 ‹_› ‹_›)
theorem Cu{k:Nat->Int}{es:List Fg}(h:Holds k es):∀(f a b:Nat),Ej es f a b=true->k a<k b
 |0,a,b,e=>by exact ft e
 |f+1,a,b,e=>by
  unfold Ej at e
  refine a9 (any_eq_true.mp e) fun x hx e=> ?_
  rw [Bool.and_eq_true,Bool.or_eq_true,Bool.and_eq_true]at e
  have h1:=h x hx
  rw [←eq_of_beq e.1]
  rcases e.2 with⟨e1,e2⟩ |e2
  ·have h2:=DP h f _ _ e2
   rw [if_pos e1]at h1;exact z6 ‹_› ‹_›
  ·have h2:=Cu h f _ _ e2
   split at h1<;>(first |exact z8 ‹_› ‹_› |exact z7 ‹_› ‹_›)
noncomputable def Kj(es:List Fg):List Nat->Bool
 |a::b::r=>(if a<b then IO es 5 a b else Ej es 5 a b)&&Kj es (b::r)
 |_=>true
noncomputable def OF(n:Nat)(es:List Fg)(p:List Nat):Bool:=p.isPerm (List.range n)&&(Kj es p || (List.range n).any fun a=>Ej es 5 a a)
noncomputable def Cv(n:Nat):KasT (Array Nat)->List Fg->Bool
 | .ret p,es=>OF n es p.toList
 | .ask i j k,es=>decide (i<n)&&decide (j<n)&&Cv n (k true) ((i,j,true)::es)&&Cv n (k false) ((j,i,false)::es)
def Bt(k:Nat->Int)(a b:Nat):Prop:=k a<k b∨(k a=k b∧a<b)
theorem Bt.trans{k:Nat->Int}{a b c:Nat}(h:Bt k a b)(h':Bt k b c):Bt k a c:=by
 unfold Bt at*;lia
set_option tactic.hygienic true in
theorem IS{k:Nat->Int}{es:List Fg}(h:Holds k es):∀l:List Nat,Kj es l=true->l.Pairwise (Bt k)
 | [],_=> .nil
 | [a],_=>List.pairwise_singleton ..
 |a::b::r,e=>by
  unfold Kj at e
  rw [Bool.and_eq_true]at e
  have ih:=IS h (b::r) e.2
  have hab:Bt k a b:=by
   have e1:=e.1
   split at e1
   ·next hlt=>
    have:=DP h _ _ _ e1
    unfold Bt;lia
   ·exact .inl (Cu h _ _ _ e1)
  refine pairwise_cons.mpr ⟨fun c hc=> ?_,ih⟩
  rcases mem_cons.mp hc with rfl |hc
  ·exact hab
  ·exact hab.trans ((pairwise_cons.mp ih).1 c hc)
theorem Ez{n:Nat}{k:Nat->Int}{cmp:Nat->Nat->(Bool->Shared->Prop)->Shared->Prop}{Q:Array Nat->Shared->Prop}{s:Shared}(hc:∀i j C,i<n->j<n->C (decide (k i<k j)) s->cmp i j C s)
  (hq:∀p:Array Nat,p.toList.Perm (List.range n)->p.toList.Pairwise (Bt k)->Q p s):∀(t:KasT (Array Nat))(es:List Fg),Cv n t es=true->Holds k es->t.kasWp cmp Q s
 | .ret p,es,h,he=>by
  unfold Cv OF at h
  rw [Bool.and_eq_true]at h
  refine hq p (List.isPerm_iff.mp h.1) ?_
  rcases(Bool.or_eq_true _ _).mp h.2 with h2 |h2
  ·exact IS he _ h2
  ·refine a9 (any_eq_true.mp h2) fun a _ h3=> ?_
   exact absurd (Cu he _ _ _ h3) (Int.lt_irrefl _)
 | .ask i j kk,es,h,he=>by
  unfold Cv at h
  simp only [Bool.and_eq_true,decide_eq_true_eq]at h
  refine hc i j _ h.1.1.1 h.1.1.2 ?_
  by_cases hlt:k i<k j
  ·rw [decide_eq_true hlt]
   refine Ez hc hq (kk true) _ h.1.2 fun e hm=> ?_
   rcases mem_cons.mp hm with rfl |hm
   ·exact hlt
   ·exact he e hm
  ·rw [decide_eq_false hlt]
   refine Ez hc hq (kk false) _ h.2 fun e hm=> ?_
   rcases mem_cons.mp hm with rfl |hm
   ·show k j<=k i;exact z1 ‹_›
   ·exact he e hm
theorem VX:Cv 5 (kas_sort 5) []=true:=by decide+kernel
noncomputable def i5(xs:List Str)(i:Nat):Int:=((xs.getD i Str.empty).length:Int)-2
theorem Br.in2{n:Nat}{A:Around}(h:Br (n+1) A):Br n A.in1.in1:=
 ⟨by have:=h.1;simp only;lia,by have:=h.2.1;simp only;lia,h.2.2⟩
theorem KH{W:Wd}:∀{ns:List Int}{vals:List Value},l5 W (ns.map .int) vals->IntsAre vals ns
 | [],_,h=>by
  obtain rfl:_=[]:=h
  exact .nil
 |a::r,_,⟨v,t,e,⟨tk,e2⟩,h⟩=>by
  subst e e2
  exact .cons a tk (KH h)
section
variable{B:Bs}{P:Params}{n:Nat}{ls:Ls}{W:Wd}{A:Around}{E:Value->Shared->Prop}
theorem MS{xs:List Str}(h5:xs.length=5){a kS:Addr}{vs kv:List Value}{e1 e2:Nat}{s:Shared}{eZ:Wd}(ha:s.heap.get? a=some (seqObj "list" #[] e1))(hkS:s.heap.get? kS=some (seqObj "list" kv.toArray e2))(hne:a≠kS)(hvl:vs.length=5)(hkv:l5 eZ ((List.range 5).map fun i=>AV.int (i5 xs i)) kv)
  {Z:PySem.Fin->Shared->Prop} (hZ:∀(p:List Nat)(s':Shared),p.Perm (List.range 5)->p.Pairwise (Bt (i5 xs))->(∃c,s'.heap.get? a=some (seqObj "list" (p.map fun i=>vs.getD i .none).toArray c))->(∀b o,b≠a->b≠kS->s.heap.get? b=some o->s'.heap.get? b=some o)->s'.gens=s.gens->s'.os=s.os->Z (.done (.ret .none)) s'):
  wpAny (model B.prog B.w) A (ksk_end a false vs.toArray e1 (.ref kS) kv.toArray) Z E s:=by
 have hkl:kv.length=5:=by rw [hkv.length];simp
 have hI:IntsAre kv ((List.range 5).map (i5 xs)):=KH (by rw [map_map];exact hkv)
 unfold ksk_end
 try dsimp only
 rw [if_neg (by decide)]
 have hsz:¬vs.toArray.size<2:=by simp [hvl]
 rw [if_neg hsz,if_neg hsz,ksk_kind (keys:=kv.toArray) hI (by simp [hkl])]
 refine wpAny_bind (wpAny_pure ?_)
 have hzs:(kv.toArray.zip vs.toArray).size=5:=by rw [Array.size_zip];simp [hkl,hvl]
 have item:∀i,i<5->∃t,kas_item (kv.toArray.zip vs.toArray) i=(.int (i5 xs i) t,vs.getD i .none):=fun i hi=>by
  have e1:((List.range 5).map fun i=>AV.int (i5 xs i))[i]? =some (.int (i5 xs i)):=by
   rw [getElem?_map,getElem?_range hi];rfl
  obtain⟨v,g1,t,rfl⟩:=hkv.get i e1
  refine⟨t,?_⟩
  unfold kas_item
  have hi':i<(kv.toArray.zip vs.toArray).size:=by lia
  have h1:i<kv.length:=by lia
  have h2:i<vs.length:=by lia
  have g2:kv[i]= .int (i5 xs i) t:=by
   rw [getElem?_eq_getElem h1]at g1
   exact Option.some.inj g1
  simp [Array.getD,h2,g2]
  (rw [dif_pos (by lia)];rfl)
 have ask:(kas_sort 5).kasWp (kas_cmp B.prog B.w A oneType' (kv.toArray.zip vs.toArray)) (fun p s'=>p.toList.Perm (List.range 5)∧p.toList.Pairwise (Bt (i5 xs))∧s'=s) s:=by
  refine Ez (n:=5) (k:=i5 xs) (fun i j C hi hj hC=> ?_) (fun p h1 h2=>⟨h1,h2,rfl⟩) _ [] VX fun e he=>by cases he
  obtain⟨t,e1⟩:=item i hi
  obtain⟨u,e2⟩:=item j hj
  unfold kas_cmp
  rw [e1,e2,keyLt'_oneType]
  exact oneLt_int hC
 have run:=kas_runs (E:=E) (Q:=fun _ st' s'=>∃p:Array Nat,arrOf st'=p.map (kas_item (kv.toArray.zip vs.toArray))∧failedOf st'=none∧p.toList.Perm (List.range 5)∧p.toList.Pairwise (Bt (i5 xs))∧s'=s)
  (by decide) (by decide) (fun p' st' s' a1 a2 a3 a4=>⟨p',a2,a3,a4⟩) ask
 have est:kas_st oneType' (kv.toArray.zip vs.toArray) (List.toArray (List.range 5))=SortSt.mk' oneType' (kv.toArray.zip vs.toArray) #[] 7 none:=by
  have e:=kas_range (kv.toArray.zip vs.toArray)
  rw [hzs]at e
  show SortSt.mk' oneType' ((List.toArray (List.range 5)).map (kas_item (kv.toArray.zip vs.toArray))) #[] 7 none=_
  (rw [e];rfl)
 rw [est]at run
 simp only [Bool.false_eq_true,if_false]
 refine wpAny_bind (wpAny_mono run ?_ fun _ _ e=>e)
 rintro⟨⟨⟩,st'⟩ s' ⟨p,har,hf,hp,hpw,rfl⟩
 dsimp only
 have hout:(arrOf st').map (·.2)=(p.toList.map fun i=>vs.getD i Value.none).toArray:=by
  apply Array.toList_inj.mp
  rw [har,Array.map_map,Array.toList_map]
  refine map_congr_left fun i hi=> ?_
  obtain⟨t,e1⟩:=item i (mem_range.mp (hp.mem_iff.mp hi))
  show(kas_item (kv.toArray.zip vs.toArray) i).2=_
  (rw [e1];rfl)
 have hps:p.size=5:=by
  have:=hp.length_eq
  rw [Array.length_toList,length_range]at this;exact this
 have s1:=Heap.SameBut.update s'.heap kS (Obj.mapSeq fun _=>(#[]:Array Value))
 have ha1:(s'.heap.update kS (Obj.mapSeq fun _=>(#[]:Array Value))).get? a=some (seqObj "list" #[] e1):=(s1.2 a hne).trans ha
 have s2:=Heap.SameBut.update (s'.heap.update kS (Obj.mapSeq fun _=>(#[]:Array Value))) a (Obj.mapSeq fun _=>(p.toList.map fun i=>vs.getD i Value.none).toArray)
 unfold ksk_tail
 try dsimp only
 refine wpAny_bind (listUpdate_at hkS rfl ?_ (by simp only [size_toArray];rw [sizeLine_eq];exact e6 ‹_› rfl) (Nat.zero_le _))
 refine wpAny_bind (wpAny_letGo ?_)
 refine wpAny_bind (seqEpoch_at ha1 rfl ?_)
 simp only [Bool.false_eq_true,if_false]
 rw [hout]
 refine wpAny_bind (listUpdate_at ha1 rfl ?_ (Nat.zero_le _) (by simp only [size_toArray,length_map,Array.length_toList];rw [hps,sizeLine_eq];exact u1 rfl))
 rw [hf]
 simp only [bne_self_eq_false,Bool.false_eq_true,if_false]
 refine wpAny_pure (hZ p.toList _ hp hpw ⟨_,get?_update_seq ha1 _⟩ (fun b o h1 h2 e=> ?_) rfl rfl)
 exact(s2.2 b h1).trans ((s1.2 b h2).trans e)
end
mutual
theorem VR.move{W W':Wd}{n:Nat}(hK:∀a o,W.K a=some o->o.cls= .type "tuple"->W'.K a=some o)(fX:∀j,j<n->W'.ρ[j]? =W.ρ[j]?):∀{a:AV}{v:Value},m8 n a=true->VR W a v->VR W' a v
 | .none,_,_,e=>e
 | .bool _,_,_,e=>e
 | .int _,_,_,e=>e
 | .str _,_,_,e=>e
 | .raw _,_,_,e=>e
 | .lst k,_,hb,⟨a,e,g⟩=>⟨a,e,by
  unfold m8 at hb
  (rw [fX k (of_decide_eq_true hb),g];rfl)⟩
 | .tup vs,_,hb,⟨a,o,arr,e,g,t,r⟩=>⟨a,o,arr,e,hK _ _ g t.1,t,l5.move hK fX (by unfold m8 at hb;exact hb) r⟩
theorem l5.move{W W':Wd}{n:Nat}(hK:∀a o,W.K a=some o->o.cls= .type "tuple"->W'.K a=some o)(fX:∀j,j<n->W'.ρ[j]? =W.ρ[j]?):∀{as:List AV}{vs:List Value},l8 n as=true->l5 W as vs->l5 W' as vs
 | [],_,_,e=>e
 |a::r,_,hb,⟨v,t,e,g,h⟩=>by
  unfold l8 at hb
  simp only [Bool.and_eq_true]at hb
  exact⟨v,t,e,VR.move hK fX hb.1 g,l5.move hK fX hb.2 h⟩
end
theorem Iu{W W':Wd}{xs:List Str}{vs:List Value}(hvs:l5 W (xs.map .str) vs):∀(p:List Nat),(∀i∈p,i<xs.length)->l5 W' ((p.map fun i=>xs.getD i Str.empty).map .str) (p.map fun i=>vs.getD i Value.none)
 | [],_=>rfl
 |i::r,h=>by
  have hi:=h i (.head _)
  have e:(xs.map AV.str)[i]? =some (.str (xs.getD i Str.empty)):=by
   rw [getElem?_map,getElem?_eq_getElem hi,Option.map_some]
   simp [hi]
  obtain⟨v,g1,t,rfl⟩:=hvs.get i e
  exact⟨_,_,rfl,⟨t,by show vs.getD i Value.none=_;rw [getD_eq_getElem?_getD,g1];rfl⟩,Iu hvs r fun j hj=>h j (.tail _ hj)⟩
noncomputable def Wf(W W':Wd)(a:Addr):Wd:=⟨fun b=>if b=a then none else W'.K b,W.ρ++[a]⟩
noncomputable def kL(xs:List Str):List AV:=(List.range 5).map fun j=>AV.int (i5 xs j)
@[reducible] def WS(B:Bs)(W W':Wd)(ls:Ls)(s s' s'':Shared)(xs:List Str)(vs kv:List Value)(a kS e1 kn:Nat)(p:List Nat):Prop:=∀(h5:xs.length=5)(hR:RL B W ls s)(hvs:l5 W (xs.map .str) vs)(f1:W.K a=none)(f2:a∉W.ρ)(g2:kS∉W.ρ)(le0:W.le W')(haK:W'.K a=some (seqObj "list" #[] e1))(fH:W'.ρ=W.ρ++[kS])(r':RL B W' (ls++[kL xs]) s')(hkg:s'.heap.get? kS=some (seqObj "list" kv.toArray kn))(hp:p.Perm (List.range 5))(hca:∃c,s''.heap.get? a=some (seqObj "list" (p.map fun i=>vs.getD i .none).toArray c))(hkeep:∀b o,b≠a->b≠kS->s'.heap.get? b=some o->s''.heap.get? b=some o)(hgens:s''.gens=s'.gens)(hos:s''.os=s'.os),W.le (Wf W W' a)∧RL B (Wf W W' a) (ls++[(p.map fun i=>xs.getD i Str.empty).map .str]) s''
noncomputable def E3:Ue:=ee fun u=>WS u.b (u.w 0) (u.w 1) (u.l 0) (u.s 0) (u.s 1) (u.s 2) (u.z 0) (u.h 0) (u.h 1) (u.n 0) (u.n 1) (u.n 2) (u.n 3) (u.kp 0)
set_option tactic.hygienic true in
theorem bX:WS E3.b (E3.w 0) (E3.w 1) (E3.l 0) (E3.s 0) (E3.s 1) (E3.s 2) (E3.z 0) (E3.h 0) (E3.h 1) (E3.n 0) (E3.n 1) (E3.n 2) (E3.n 3) (E3.kp 0):=fun h5 hR hvs f1 f2 g2 le0 haK fH r' hkg hp hca hkeep hgens hos=>by
 have hlen0:=hR.len
 have hga:=r'.keep _ _ haK
 have hkS:(E3.w 1).ρ[(E3.l 0).length]? =some (E3.n 1):=by rw [fH,←hlen0,getElem?_append_right (Nat.le_refl _),Nat.sub_self];rfl
 have nkS:(E3.w 1).K (E3.n 1)=none:=r'.off (E3.n 1) (mem_of_getElem? hkS)
 have kp:∀b o,b≠(E3.n 0)->(E3.w 1).K b=some o->(E3.s 2).heap.get? b=some o:=fun b o hb e=>hkeep b o hb (fun q=>by rw [q,nkS]at e;exact on e) (r'.keep _ _ e)
 have leF:(E3.w 0).le (Wf (E3.w 0) (E3.w 1) (E3.n 0)):=⟨fun b o e=>by
  show(if b=(E3.n 0)then none else(E3.w 1).K b)=_
  rw [if_neg (fun q=>by rw [q,f1]at e;exact on e)]
  exact le0.1 _ _ e,[(E3.n 0)],rfl⟩
 have tupa:∀b o,(E3.w 1).K b=some o->o.cls≠ .type "list"->(if b=(E3.n 0)then none else(E3.w 1).K b)=some o:=fun b o e hc=>by
  rewrite [if_neg (fun q=> ?_)]
  ·exact e
  ·rw [q,haK]at e;(replace e:=Option.some.inj e;subst e);exact hc rfl
 refine⟨leF,?_⟩
 obtain⟨c,hca0⟩:=hca
 refine⟨fun b o e=>leF.1 _ _ (hR.base _ _ e),fun b o e=> ?_,by show((E3.w 0).ρ++[(E3.n 0)]).length=_;simp [hlen0],fun b hb=> ?_,?_,fun i b us e1 e2=> ?_,hgens.trans r'.gens,hos.trans r'.os,fun fA eR dS hm=> ?_,fun i b hm=>Wd.le_get leF (hR.pins i b hm)⟩
 ·change(if b=(E3.n 0)then none else(E3.w 1).K b)=_ at e
  split at e
  ·exact on e
  ·next hb=>exact kp b o hb e
 ·show(if b=(E3.n 0)then none else(E3.w 1).K b)=_
  rcases mem_append.mp hb with hb |hb
  ·rw [if_neg (fun(q:b=(E3.n 0))=>f2 (q▸hb))]
   exact r'.off b (by rw [fH];exact List.mem_append_left _ hb)
  ·(rw [if_pos (mem_singleton.mp hb)];rfl)
 ·refine nodup_append.mpr ⟨hR.nd,by simp,fun x hx y hy=> ?_⟩
  rw [mem_singleton.mp hy];exact fun hxy=>f2 (hxy▸hx)
 ·change((E3.w 0).ρ++[(E3.n 0)])[i]? =_ at e1
  by_cases hi:i<(E3.w 0).ρ.length
  ·rw [getElem?_append_left hi]at e1
   rw [getElem?_append_left (hlen0▸hi)]at e2
   have e3:(E3.w 1).ρ[i]? =some b:=by rw [fH,getElem?_append_left hi];exact e1
   have e4:((E3.l 0)++[(kL (E3.z 0))])[i]? =some us:=by rw [getElem?_append_left (hlen0▸hi)];exact e2
   obtain⟨vals,⟨m,h3⟩,_⟩:=r'.lists i b us e3 e4
   obtain⟨vals0,_,h40⟩:=hR.lists i b us e1 e2
   have hbm:b∈(E3.w 0).ρ:=mem_of_getElem? e1
   have hv4:l5 (E3.w 1) us vals:=by
    obtain⟨vals',h5',h6⟩:=r'.lists i b us e3 e4
    obtain⟨m',h5'⟩:=h5'
    rw [h3]at h5'
    cases h5';exact h6
   refine⟨vals,⟨m,hkeep b _ (fun q=>f2 (q▸hbm)) (fun q=>g2 (q▸hbm)) h3⟩,?_⟩
   refine l5.move (W:=(E3.w 1)) (n:=(E3.l 0).length) (fun b o e ht=>tupa b o e (by rw [ht];intro h;injection h with h;exact absurd h (by decide))) (fun j hj=> ?_) (hlen0▸Az h40) hv4
   show((E3.w 0).ρ++[(E3.n 0)])[j]? =(E3.w 1).ρ[j]?
   (rw [fH,getElem?_append_left (by lia),getElem?_append_left (by lia)];rfl)
  ·have hi':(E3.w 0).ρ.length<=i:=Nat.not_lt.mp hi
   rw [getElem?_append_right hi']at e1
   rw [getElem?_append_right (hlen0▸hi')]at e2
   rw [←hlen0]at e2
   cases hd:i-(E3.w 0).ρ.length with
   |succ j=>rw [hd]at e1;simp at e1
   |zero=>
    rw [hd]at e1 e2;(replace e1:=Option.some.inj e1;subst e1);(replace e2:=Option.some.inj e2;subst e2)
    refine⟨(E3.kp 0).map fun i=>(E3.h 0).getD i .none,⟨c,hca0⟩,Iu (W:=(E3.w 0)) hvs (E3.kp 0) fun i hi=> ?_⟩
    rw [h5];exact mem_range.mp (hp.mem_iff.mp hi)
 ·obtain⟨b1,b2,eT,b3,b4,b5⟩:=r'.tabs fA eR dS hm
  obtain⟨⟨o,vs',d1,d2,d3,d4⟩,ht⟩:=id b4
  have hPa:eR≠(E3.n 0):=fun q=>by rw [q,hga]at ht;cases ht
  have hPk:eR≠(E3.n 1):=fun q=>by rw [q,hkg]at ht;cases ht
  have hca:fA≠(E3.n 0):=fun q=>by rw [q,hga]at d1;(replace d1:=Option.some.inj d1;subst d1);exact T6 (·.ctorIdx) d3 rfl
  have hck:fA≠(E3.n 1):=fun q=>by rw [q,hkg]at d1;(replace d1:=Option.some.inj d1;subst d1);exact T6 (·.ctorIdx) d3 rfl
  refine⟨?_,fun hmm=> ?_,eT,?_,⟨⟨o,vs',hkeep _ _ hca hck d1,d2,d3,d4⟩,hkeep _ _ hPa hPk ht⟩,fun pos gH e=> ?_⟩
  ·show(if eR=(E3.n 0)then none else(E3.w 1).K eR)=_
   rw [if_neg hPa];exact b1
  ·rcases mem_append.mp hmm with hmm |hmm
   ·exact b2 (by rw [fH];exact List.mem_append_left _ hmm)
   ·exact hPa (mem_singleton.mp hmm)
  ·exact b3.at2 (fun o e=>hkeep _ o hca hck e) (fun o e=>hkeep _ o hPa hPk e)
  ·obtain⟨a',o,vz,t,y1,y2,y3,y4⟩:=b5 pos gH e
   exact⟨a',o,vz,t,y1,tupa _ _ y2 (by rw [y3];intro h;injection h with h;exact absurd h (by decide)),y3,y4⟩
theorem Zo{B:Bs}{W W':Wd}{ls:Ls}{s s' s'':Shared}{xs:List Str}{vs kv:List Value}{a kS e1 kn:Nat}{p:List Nat}:WS B W W' ls s s' s'' xs vs kv a kS e1 kn p:=by with_unfolding_all exact hk (q:=fun u:Ue=>WS u.b (u.w 0) (u.w 1) (u.l 0) (u.s 0) (u.s 1) (u.s 2) (u.z 0) (u.h 0) (u.h 1) (u.n 0) (u.n 1) (u.n 2) (u.n 3) (u.kp 0)) bX (.mk B [W,W'] [] [] [s,s',s''] [] [] [] [a,kS,e1,kn] [] [] [] [] [] [ls] [] [] [vs,kv] [] [xs] [] [] [] [] [] [] [] [] [] [] [p] [] [] [] [] [] [] E3.pr [] [])
section
variable{B:Bs}{P:Params}(C:Ctx B P){n:Nat}{ls:Ls}{Q:AV->Ls->Prop}
include C
@[reducible] def Xz(B:Bs)(P:Params)(n:Nat)(ls:Ls)(Q:AV->Ls->Prop)(k:Nat)(xs:List Str):Prop:=∀(C:Ctx B P)(hk:ls[k]? =some (xs.map .str))(h5:xs.length=5)(hx:∀y∈xs,y.length<=1000000)(hq:∀p:List Nat,p.Perm (List.range 5)->p.Pairwise (Bt (i5 xs))->Q (.lst ls.length) (ls++[(p.map fun i=>xs.getD i Str.empty).map .str])),Spec B (n+2) (.builtin "sorted") [.lst k] [(Str.ofString "key",.raw (.ref 154))] ls Q
noncomputable def O7:Uc:=ec fun u=>Xz u.b u.p (u.n 0) (u.l 0) u.q (u.n 1) (u.t 0)
omit C in
set_option tactic.hygienic true in
theorem dF:Xz O7.b O7.p (O7.n 0) (O7.l 0) O7.q (O7.n 1) (O7.t 0):=by
 intro C hk h5 hx hq
 intro W s vals kvs hR hv hkv
 obtain⟨v,t,rfl,hv,rfl⟩:=hv
 obtain⟨kv,_,rfl,h5',rfl⟩:=hkv
 obtain rfl:kv= .ref 154:=h5'
 refine⟨f4 _ _,fun A E Z hA hZ=> ?_⟩
 obtain⟨l,vs,n',rfl,hr,hl,hvs⟩:=hR.list hv hk
 have hvl:vs.length=5:=by(rw [hvs.length,length_map,h5];rfl)
 show wpAny _ _ (call (.builtin "sorted") [.ref l] [(Str.ofString "key",.ref 154)]) _ _ _
 refine call_function_entry_kw kind_sorted plain_sorted entry_sorted (ksk_s1 _ _) ?_
 unfold Builtin.«sorted»
 refine wpAny_bind (m:=checkCount "sorted" 1 1 _) (wpAny_pure ?_)
 refine wpAny_bind (collect_list (vs:=vs) ⟨_,hl,rfl,_,rfl⟩ ?_ (by rw [sizeLine_eq];exact e6 ‹_› rfl))
 refine wpAny_bind (wpAny_newList ?_ (by rw [sizeLine_eq];exact e6 ‹_› rfl))
 generalize hH0:(s.heap.push (seqObj "list" #[] 0)).update s.heap.objs.size (Obj.mapSeq (· ++vs.toArray))=H0
 have hsz:H0.objs.size=s.heap.objs.size+1:=by
  (rw [←hH0,Heap.size_update,size_push'];rfl)
 have kp0:∀b o,s.heap.get? b=some o->H0.get? b=some o:=fun b o q=>by
  have hlt:b<s.heap.objs.size:=Heap.lt_size q
  rw [←hH0,Heap.get?_update_ne _ _ _ _ (Nat.ne_of_lt hlt),Heap.get?_push_ne _ _ _ (Nat.ne_of_lt hlt)]
  exact q
 have hoL:(H0.push (seqObj "list" vs.toArray 0)).get? H0.objs.size=some (seqObj "list" vs.toArray 0):=Heap.get?_push_size _ rfl
 generalize ha:H0.objs.size=a at hoL
 have hlta:s.heap.objs.size<a:=by lia
 show wpAny _ _ _ _ _ {s with heap:=H0.push (seqObj "list" vs.toArray 0)}
 generalize hH1:H0.push (seqObj "list" vs.toArray 0)=H1 at hoL
 have kp1:∀b o,s.heap.get? b=some o->H1.get? b=some o:=fun b o q=>by rw [←hH1];exact Heap.get?_push_of_some _ (kp0 b o q)
 refine wpAny_bind (wpAny_holding (wpAny_call_entry_kw slot_list_sort ⟨_,hoL,rfl⟩ entry_list_sort ?body (ksk_l1 _ _)))
 case body=>
  rw [ksk_t1]
  obtain⟨e1,ho1⟩:∃e1,(H1.update a (Obj.mapSeq fun _=>(#[]:Array Value))).get? a=some (seqObj "list" #[] e1):=⟨_,get?_update_seq hoL fun _=> #[]⟩
  have s1:=Heap.SameBut.update H1 a (Obj.mapSeq fun _=>(#[]:Array Value))
  unfold ksk_tree
  refine wpAny_bind (listItems_at hoL rfl ?_)
  refine wpAny_bind (listUpdate_at hoL rfl ?_ (by rw [size_toArray,sizeLine_eq];exact e6 ‹_› rfl) (Nat.zero_le _))
  refine wpAny_bind (seqEpoch_at ho1 rfl ?_)
  refine wpAny_bind (wpAny_newTuple ?_ (by show vs.length<=_;rw [sizeLine_eq];exact e6 ‹_› rfl))
  refine wpAny_bind (wpAny_newList ?_ (Nat.zero_le _))
  refine wpAny_holding ?_
  generalize hH2:(H1.update a (Obj.mapSeq fun _=>(#[]:Array Value))).push (seqObj "tuple" vs.toArray 0)=H2
  have ha2:H2.get? a=some (seqObj "list" #[] e1):=by rw [←hH2];exact Heap.get?_push_of_some _ ho1
  have kp2:∀b o,s.heap.get? b=some o->H2.get? b=some o:=fun b o q=>by
   have hlt:b<s.heap.objs.size:=Heap.lt_size q
   rw [←hH2]
   exact Heap.get?_push_of_some _ ((s1.2 b (Nat.ne_of_lt (Nat.lt_trans hlt hlta))).trans (kp1 b o q))
  generalize hS:H2.objs.size=kS
  have hak:a<kS:=by rw [←hS];exact Heap.lt_size ha2
  have ha3:(H2.push (seqObj "list" #[] 0)).get? a=some (seqObj "list" #[] e1):=Heap.get?_push_of_some _ ha2
  have hk3:(H2.push (seqObj "list" #[] 0)).get? kS=some (seqObj "list" #[] 0):=by rw [←hS];exact Heap.get?_push_size _ rfl
  obtain⟨f1,f2⟩:=hR.fresh (Nat.le_of_lt hlta)
  obtain⟨g1,g2⟩:=hR.fresh (Nat.le_of_lt (Nat.lt_trans hlta hak))
  have r0:RL O7.b W (O7.l 0) {s with heap:=H2.push (seqObj "list" #[] 0)}:=hR.keepAll (fun b o e=>Heap.get?_push_of_some _ (kp2 b o e)) rfl rfl
  obtain⟨r1,le1⟩:=r0.addK ha3 f1 f2 (fun vs h=>by exact T6 (·.ctorIdx) h rfl)
  have r2:=r1.addL (a:=kS) (vals:=[]) (vs:=[]) ⟨0,hk3⟩ (by
   show(if kS=a then _ else W.K kS)=_
   rw [if_neg (Nat.ne_of_gt hak)];exact g1) g2 rfl
  have hAk:=hA.in2
  unfold ksk_rest
  refine wpAny_bind (wpAny_rule ?_)
  rw [List.forIn_toArray]
  have hWa:((W.addK a (seqObj "list" #[] e1)).addL kS).K a=some (seqObj "list" #[] e1):=if_pos rfl
  refine wpAny_bind (ksk_fold (fun i s'=>∃W',((W.addK a (seqObj "list" #[] e1)).addL kS).le W'∧W'.ρ=W.ρ++[kS]∧RL O7.b W' ((O7.l 0)++[((List.range i).map fun j=>AV.int (i5 (O7.t 0) j))]) s') vs 0 _ ⟨_,Wd.le_refl _,rfl,r2⟩ ?step ?done)
  case step=>
   rintro j x s' hj ⟨W',hl',fH,r'⟩
   simp only [Nat.zero_add]at r' ⊢
   have hjl:j<vs.length:=(List.getElem?_eq_some_iff.mp hj).1
   have hjx:j<(O7.t 0).length:=by lia
   obtain⟨av,hav,hvr⟩:=hvs.get' j hj
   rw [getElem?_map,getElem?_eq_getElem hjx,Option.map_some]at hav
   (replace hav:=Option.some.inj hav;subst hav)
   have hvr':VR W' (.str (O7.t 0)[j]) x:=hvr.mono (Wd.le_trans le1 (Wd.le_trans (B0 _ _) hl'))
   have hkj:i5 (O7.t 0) j=(((O7.t 0)[j]).length:Int)-2:=by unfold i5;simp [hjx]
   have sp:=C3 (n:=(O7.n 0)) (ls:=(O7.l 0)++[((List.range j).map fun j=>AV.int (i5 (O7.t 0) j))]) (Q:=fun v L=>v= .int (i5 (O7.t 0) j)∧L=(O7.l 0)++[((List.range j).map fun j=>AV.int (i5 (O7.t 0) j))]) C (x:=(O7.t 0)[j]) (hx _ (getElem_mem hjx)) ⟨by(rw [hkj];rfl),rfl⟩
   refine wpAny_bind (wpAny_attempt ((sp W' s' [x] [] r' (l5.one hvr') rfl).2 _ _ _ hAk fun v s'' W'' b ls' hl r hv ⟨q1,q2⟩=> ?_))
   subst q1 q2
   have fX:W''.ρ=W.ρ++[kS]:=by
    obtain⟨_,t,et⟩:=hl
    have h1:=r.len
    have h2:=r'.len
    rw [et,length_append]at h1
    have:t=[]:=List.length_eq_zero_iff.mp (by lia)
    (rw [et,this,append_nil,fH];rfl)
   have hlen0:=hR.len
   have hkS:W''.ρ[(O7.l 0).length]? =some kS:=by rw [fX,←hlen0,getElem?_append_right (Nat.le_refl _),Nat.sub_self];rfl
   have hLk:((O7.l 0)++[((List.range j).map fun j=>AV.int (i5 (O7.t 0) j))])[(O7.l 0).length]? =some ((List.range j).map fun j=>AV.int (i5 (O7.t 0) j)):=by
    rw [getElem?_append_right (Nat.le_refl _),Nat.sub_self];rfl
   obtain⟨kvals,⟨kn,hkg⟩,hkv⟩:=r.lists _ _ _ hkS hLk
   have hkl:kvals.length=j:=by rw [hkv.length];simp
   obtain⟨tk,rfl⟩:=hv
   try dsimp only
   refine wpAny_bind (listUpdate_at hkg rfl ?_ (by rw [size_toArray,sizeLine_eq];lia) (Nat.le_trans (Nat.le_of_eq (Array.size_push ..)) (by rw [size_toArray,sizeLine_eq];lia)))
   refine wpAny_pure ⟨rfl,W'',Wd.le_trans hl' hl,fX,?_⟩
   have:=r.setL (s':={s'' with heap:=s''.heap.update kS (Obj.mapSeq (·.push (Value.int (i5 (O7.t 0) j) tk)))}) hkS (Heap.SameBut.update ..).extBut (vals:=kvals++[Value.int (i5 (O7.t 0) j) tk]) (vs:=((List.range j).map fun j=>AV.int (i5 (O7.t 0) j))++[.int (i5 (O7.t 0) j)]) (by
    have:=PySem.IsL.update hkg (fun x=>x.push (Value.int (i5 (O7.t 0) j) tk))
    refine⟨kn+1,?_⟩
    simpa using this) (hkv.append (l5.one (a:= .int (i5 (O7.t 0) j)) ⟨tk,rfl⟩)) rfl rfl
   rw [set_append_right _ _ (Nat.le_refl _),Nat.sub_self]at this
   rw [range_succ,map_append]
   exact this
  case done=>
   rintro s' ⟨W',hl',fH,r'⟩
   rw [Nat.zero_add,hvl]at r'
   have hlen0:=hR.len
   have hkS:W'.ρ[(O7.l 0).length]? =some kS:=by rw [fH,←hlen0,getElem?_append_right (Nat.le_refl _),Nat.sub_self];rfl
   have hLk:((O7.l 0)++[((List.range 5).map fun j=>AV.int (i5 (O7.t 0) j))])[(O7.l 0).length]? =some ((List.range 5).map fun j=>AV.int (i5 (O7.t 0) j)):=by
    rw [getElem?_append_right (Nat.le_refl _),Nat.sub_self];rfl
   obtain⟨kvals,⟨kn,hkg⟩,hkv⟩:=r'.lists _ _ _ hkS hLk
   have haK:=hl'.1 _ _ hWa
   have hga:=r'.keep _ _ haK
   refine wpAny_bind (listItems_at hkg rfl ?_)
   refine MS h5 hga hkg (Nat.ne_of_lt hak) hvl hkv fun p s'' hp hpw ⟨c,hca⟩ hkeep hgens hos=>⟨_,rfl,wpAny_pure ⟨_,rfl,?_⟩⟩
   have leF:=Zo h5 hR hvs f1 f2 g2 (Wd.le_trans le1 (Wd.le_trans (B0 _ _) hl')) haK fH r' hkg hp ⟨c,hca⟩ hkeep hgens hos
   refine hZ _ _ _ (.lst (O7.l 0).length) ((O7.l 0)++[(p.map fun i=>(O7.t 0).getD i Str.empty).map .str]) leF.1 leF.2 ⟨a,rfl,?_⟩ (hq p hp hpw)
   show(W.ρ++[a])[(O7.l 0).length]? =_
   rw [←hlen0,getElem?_append_right (Nat.le_refl _),Nat.sub_self];rfl
omit C in
theorem FZ{B:Bs}{P:Params}{n:Nat}{ls:Ls}{Q:AV->Ls->Prop}{k:Nat}{xs:List Str}:Xz B P n ls Q k xs:=by with_unfolding_all exact hk (q:=fun u:Uc=>Xz u.b u.p (u.n 0) (u.l 0) u.q (u.n 1) (u.t 0)) dF (.mk B P O7.f Q O7.v [ls] [n,k] [] [] [] [] [] [] [] [] [] [xs] [] [] [])
end
section
open Builtin.Str StrLaws
noncomputable def S(l:List Nat):Str:=⟨l.toArray⟩
theorem j9(l:List Nat):(S l).length=l.length:=by exact rfl
theorem EF(l:List Nat)(a:Nat):∀c:Nat,a+c<=l.length->((List.range c).map (a+ ·)).filterMap (l.toArray[·]?)=(l.drop a).take c
 |0,_=>by exact rfl
 |c+1,h=>by
  rw [range_succ,map_append,List.filterMap_append,EF l a c (by lia)]
  have hlt:a+c<l.length:=by lia
  simp only [map_cons,map_nil,filterMap_cons,List.filterMap_nil,List.getElem?_toArray,getElem?_eq_getElem hlt]
  rw [take_succ]
  congr 1
  rw [List.getElem?_drop,getElem?_eq_getElem hlt];rfl
set_option tactic.hygienic true in
theorem Hb{l:List Nat}{a b:Nat}(hab:a<=b)(hb:b<=l.length)(x y:Option Int)(h:strSliceIndices x y 1 l.length=strSliceIndices (some (a:Int)) (some (b:Int)) 1 l.length):F1 (S l) x y=S ((l.drop a).take (b-a)):=by
 unfold F1
 rw [j9,h,strSliceIndices_plain hab hb]
 split
 ·next hl=>
  simp only [length_map,length_range,beq_iff_eq]at hl
  have h1:a=0:=by lia
  have h2:b=l.length:=by lia
  subst h1 h2
  simp
 ·show(⟨(((List.range (b-a)).map (a+ ·)).filterMap (l.toArray[·]?)).toArray⟩:Str)=_
  rw [EF l a (b-a) (by lia)]
  rfl
theorem Co{l:List Nat}{p:Nat}(h:p<=l.length):F1 (S l) (some (p:Int)) none=S (l.drop p):=by
 (rw [Hb h (Nat.le_refl _) _ _ (sliceIdx_none_hi _ _),take_of_length_le (by simp)];rfl)
set_option tactic.hygienic true in
theorem Hg{l:List Nat}{q:Nat}(h:q<=l.length):F1 (S l) none (if q=0 then none else some (-(q:Int)))=S (l.take (l.length-q)):=by
 split
 ·next h0=>
  subst h0
  rw [Hb (a:=0) (Nat.zero_le _) (Nat.le_refl _) _ _ ((sliceIdx_none_lo _ _).trans (sliceIdx_none_hi _ _))]
  simp
 ·next h0=>
  rw [Hb (a:=0) (b:=l.length-q) (Nat.zero_le _) (by exact aM) _ _ (by
   rw [sliceIdx_none_lo,sliceIdx_neg_hi _ _ (by lia) (by lia)]
   rw [show -(q:Int)+(l.length:Int)=((l.length-q:Nat):Int) by exact Sy ‹_›];rfl)]
  simp
theorem Gm{L:Ls}{l:List Nat}{i:Nat}(h:i<l.length)(hl:l.length<=1000):t8 L (.str (S l)) (.int i)=some (.str (S [l[i]])):=by
 unfold t8
 dsimp only
 rw [if_pos (by lia),j9,BP h]
 show((S l).cps[i]?).map _=_
 simp [S,h]
theorem Hd{q len:Nat}(h:q<len):seqIndex? (-(q:Int)-1) len=some (len-1-q):=by
 unfold seqIndex?
 simp only [show(-(q:Int)-1<0) by lia,if_true]
 rw [if_pos (by simp;lia)]
 congr 1;exact Zn ‹_›
theorem Ik{L:Ls}{l:List Nat}{q:Nat}(h:q<l.length)(hl:l.length<=1000):t8 L (.str (S l)) (.int (-(q:Int)-1))=some (.str (S [l.reverse[q]'(by simpa using h)])):=by
 unfold t8
 dsimp only
 rw [if_pos (by lia),j9,Hd h]
 show((S l).cps[l.length-1-q]?).map _=_
 have h2:l.length-1-q<l.length:=by exact x6 ‹_›
 simp [S,h2]
theorem FJ(a b:Nat):(S [a]==S [b])=(a==b):=by
 by_cases h:a=b
 ·subst h;simp
 ·(rw [beq_eq_false_iff_ne.mpr h];rewrite [beq_eq_false_iff_ne])
  intro e
  simp only [S,Str.mk.injEq]at e
  exact h (by simpa using e)
noncomputable def cp:List Nat->List Nat->Nat
 |a::r,b::t=>if a=b then cp r t+1 else 0
 |_,_=>0
theorem BN(a b:Nat)(r t:List Nat):cp (a::r) (b::t)=if a=b then cp r t+1 else 0:=rfl
theorem Jp(l:List Nat):cp l []=0:=by cases l<;>rfl
section
variable{B:Bs}{n:Nat}{ls:Ls}
noncomputable def Sq:Ex:= .and (.slice (.var 0) (.var 3) .none .none) (.and (.slice (.var 1) (.var 3) .none .none) (.cmp (.item (.var 0) (.var 3)) .eq (.item (.var 1) (.var 3))))
theorem II{la lb:List Nat}(ha:la.length<=1000)(hb:lb.length<=1000){mx:AV}{vs:List (Option AV)}{F:Fl->St->Prop}:∀(fuel p:Nat),p<=la.length->p<=lb.length->la.length-p<fuel->F .next ⟨some (.str (S la))::some (.str (S lb))::some mx::some (.int ((p+cp (la.drop p) (lb.drop p):Nat):Int))::vs,ls⟩->
  A9 (DR B n Sq) (d9 B n (.cons (.aug 3 .add (.int 1)) .nil)) fuel ⟨some (.str (S la))::some (.str (S lb))::some mx::some (.int (p:Int))::vs,ls⟩ F
 |0,p,_,_,h,_=>by lia
 |fuel+1,p,h1,h2,h3,hF=>by
  unfold A9 Sq
  walk_at "FL%%**"
  refine V4 rfl rfl (by rw [j9];exact u2 ‹_› rfl) ?_
  rw [Co h1]
  simp only [j9,length_drop]
  by_cases e1:p=la.length
  ·rw [if_neg (by simp;lia),if_neg (by decide)]
   subst e1
   rw [drop_length]at hF
   exact hF
  ·rw [if_pos (by simp;lia)]
   walk_at "FL%%**"
   refine V4 rfl rfl (by rw [j9];exact u2 ‹_› rfl) ?_
   rw [Co h2]
   simp only [j9,length_drop]
   by_cases e2:p=lb.length
   ·rw [if_neg (by simp;lia),if_neg (by decide)]
    subst e2
    rw [drop_length,Jp]at hF
    exact hF
   ·rw [if_pos (by simp;lia)]
    have l1:p<la.length:=by exact n8 ‹_› ‹_›
    have l2:p<lb.length:=by exact n8 ‹_› ‹_›
    walk_at "I.!"
    with_reducible refine b8 (Gm l1 ha) ?_
    walk_at ".!"
    with_reducible refine b8 (Gm l2 hb) ?_
    walk_at "f"
    rw [FJ]
    rw [drop_eq_getElem_cons l1,drop_eq_getElem_cons l2,BN]at hF
    by_cases e3:la[p]=lb[p]
    ·rw [if_pos (by simp [e3])]
     rw [if_pos e3]at hF
     walk_at "#T&c![k$!"
     refine II ha hb fuel (p+1) (by lia) (by lia) (by exact UZ ‹_› ‹_› ‹_›) ?_
     rw [show p+1+cp (la.drop (p+1)) (lb.drop (p+1))=p+(cp (la.drop (p+1)) (lb.drop (p+1))+1) by exact VN]
     exact hF
    ·rw [if_neg (by simp [e3])]
     rw [if_neg e3]at hF
     exact hF
noncomputable def JM:Ex:= .and (.slice (.var 0) .none (.or (.var 4) .none) .none) (.and (.slice (.var 1) .none (.or (.var 4) .none) .none) (.cmp (.item (.var 0) (.bin .sub (.var 4) (.int 1))) .eq (.item (.var 1) (.bin .sub (.var 4) (.int 1)))))
theorem As{σ:St}{q:Nat}{Q:AV->St->Prop}(h:σ.vars[4]? =some (some (.int (-(q:Int)))))(hq:Q (if q=0 then .none else .int (-(q:Int))) σ):t9 B n (.or (.var 4) .none) σ Q:=by
 refine aE (P1 h ?_)
 refine Qt (t:=(-(q:Int)) !=0) rfl ?_
 by_cases h0:q=0
 ·subst h0
  rw [if_neg (by decide)]
  exact F4 hq
 ·rw [if_pos (by simp;assumption)]
  rw [if_neg h0]at hq
  exact hq
theorem Cx(q:Nat):AT (if q=0 then AV.none else .int (-(q:Int)))=some (if q=0 then none else some (-(q:Int))):=by
 split<;>rfl
theorem Fv{la lb:List Nat}(ha:la.length<=1000)(hb:lb.length<=1000){mx v3:AV}{vs:List (Option AV)}{F:Fl->St->Prop}:∀(fuel q:Nat),q<=la.length->q<=lb.length->la.length-q<fuel->F .next ⟨some (.str (S la))::some (.str (S lb))::some mx::some v3::some (.int (-((q+cp (la.reverse.drop q) (lb.reverse.drop q):Nat):Int)))::vs,ls⟩->
  A9 (DR B n JM) (d9 B n (.cons (.aug 4 .sub (.int 1)) .nil)) fuel ⟨some (.str (S la))::some (.str (S lb))::some mx::some v3::some (.int (-(q:Int)))::vs,ls⟩ F
 |0,q,_,_,h,_=>by lia
 |fuel+1,q,h1,h2,h3,hF=>by
  unfold A9 JM
  refine Sn (Kq (P1 rfl (F4 (As rfl (F4 ?_)))))
  refine V4 rfl (Cx _) (by rw [j9];exact u2 ‹_› rfl) ?_
  rw [Hg h1,j9,length_take]
  by_cases e1:q=la.length
  ·rw [if_neg (by simp;lia),if_neg (by decide)]
   subst e1
   rw [show la.reverse.drop la.length=[] by(rw [←length_reverse,drop_length];rfl)]at hF
   exact hF
  ·rw [if_pos (by simp;lia)]
   refine Sn (Kq (P1 rfl (F4 (As rfl (F4 ?_)))))
   refine V4 rfl (Cx _) (by rw [j9];exact u2 ‹_› rfl) ?_
   rw [Hg h2,j9,length_take]
   by_cases e2:q=lb.length
   ·rw [if_neg (by simp;lia),if_neg (by decide)]
    subst e2
    rw [show lb.reverse.drop lb.length=[] by(rw [←length_reverse,drop_length];rfl),Jp]at hF
    exact hF
   ·rw [if_pos (by simp;lia)]
    have l1:q<la.length:=by exact n8 ‹_› ‹_›
    have l2:q<lb.length:=by exact n8 ‹_› ‹_›
    have l1':q<la.reverse.length:=by simpa using l1
    have l2':q<lb.reverse.length:=by simpa using l2
    walk_at "I.!"
    with_reducible refine b8 (Ik l1 ha) ?_
    walk_at ".!"
    with_reducible refine b8 (Ik l2 hb) ?_
    walk_at "f"
    rw [FJ]
    rw [drop_eq_getElem_cons l1',drop_eq_getElem_cons l2',BN]at hF
    by_cases e3:la.reverse[q]=lb.reverse[q]
    ·rw [if_pos (by exact decide_eq_true e3)]
     rw [if_pos e3]at hF
     walk_at "#T&c!]k$!"
     rw [show -(q:Int)-1= -((q+1:Nat):Int) by lia]
     refine Fv ha hb fuel (q+1) (by lia) (by lia) (by exact UZ ‹_› ‹_› ‹_›) ?_
     rw [show q+1+cp (la.reverse.drop (q+1)) (lb.reverse.drop (q+1))=q+(cp (la.reverse.drop (q+1)) (lb.reverse.drop (q+1))+1) by exact VN]
     exact hF
    ·rw [if_neg (by simpa using e3)]
     rw [if_neg e3]at hF
     exact hF
end
end
section
open Builtin.Str StrLaws
noncomputable def Ap:o7:=(.cons (.asg 8 (.item (.var 1) (.var 7)))
 (.cons (.asg2 9 6 (.bin .mul (.var 7) (.int 2)))
 (.cons (.asg 10 (.int 9223372036854775807))
 (.cons (.for (.one 11) (.range1 (.call (.glob (.builtin "len")) (.cons (.var 0) .nil))) (.cons (.asg 12 (.bin .add (.var 9) (.call (.glob (.ref 133)) (.cons (.var 8) (.cons (.item (.var 0) (.var 11)) .nil)))))
 (.cons (.asg 9 (.item (.var 5) (.var 11)))
 (.cons (.asg 13 (.bin .add (.call (.glob (.builtin "min")) (.cons (.var 6) (.cons (.var 9) .nil))) (.int 2)))
 (.cons (.asg 6 (.call (.glob (.builtin "min")) (.cons (.var 13) (.cons (.var 12) .nil))))
 (.cons (.seti (.var 5) (.var 11) (.var 6))
 (.cons (.ite (.cmp (.var 6) .lt (.var 10)) (.cons (.asg 10 (.var 6))
 .nil) .nil)
 .nil)))))))
 (.cons (.ite (.cmp (.var 10) .gt (.var 2)) (.cons (.ret (.bin .add (.var 2) (.int 1)))
 .nil) .nil)
 .nil)))))
structure Wl(B:Bs)(n:Nat)(xs:o7)(σ:St)(F:Fl->St->Prop):Prop where
 out:d9 B n xs σ F
theorem Wz:S [46]=Str.ofString ".":=by decide+kernel
theorem aK:S [97]=Str.ofString "a":=by decide+kernel
theorem bE:S [65]=Str.ofString "A":=by decide+kernel
theorem VB(L:Ls)(c:Nat):t8 L (.str (S [c])) (.int 0)=some (.str (S [c])):=Gm (l:=[c]) (i:=0) (by exact Nat.succ_pos _) (by exact Nat.succ_pos _)
theorem Sz(R:Int):t8 [[.int R]] (.lst 0) (.int 0)=some (.int R):=rfl
section
variable{B:Bs}{P:Params}(C:Ctx B P){n:Nat}{Q:AV->Ls->Prop}
include C
theorem Kr{c' x:Nat}{lb:List Nat}{mx j R s:Int}{jn:Nat}(hj:j=jn)(hjl:jn<lb.length)(hlb:lb.length<=1000)(hx:lb[jn]'hjl=x)(hc:(x=46∨x=97∨x=65)∧(c'=97∨c'=65))(hs:s=if x=c' then 0 else if x=46 then 2 else 1)(hR:2*j<=R)(hs1:1<=s)(hs2:s<=2){F:Fl->St->Prop}{v3 v4:Option AV}{v6 v8 v9 v10 v11 v12 v13:Option AV}
  (hF:∀v8 v9 v11 v12 v13:Option AV,(if 2*j+s>mx then F (.ret (.int (mx+1))) ⟨[some (.str (S [c'])),some (.str (S lb)),some (.int mx),v3,v4,some (.lst 0),some (.int (2*j+s)),some (.int j),v8,v9,some (.int (2*j+s)),v11,v12,v13],[[.int (2*j+s)]]⟩
   else F .next ⟨[some (.str (S [c'])),some (.str (S lb)),some (.int mx),v3,v4,some (.lst 0),some (.int (2*j+s)),some (.int j),v8,v9,some (.int (2*j+s)),v11,v12,v13],[[.int (2*j+s)]]⟩)):
  Wl B (n+1) Ap ⟨[some (.str (S [c'])),some (.str (S lb)),some (.int mx),v3,v4,some (.lst 0),v6,some (.int j),v8,v9,v10,v11,v12,v13],[[.int R]]⟩ F:=by
 subst hj
 constructor
 unfold Ap
 walk_at "#Q.!"
 with_reducible refine b8 (Gm hjl hlb) ?_
 rw [hx]
 walk_at "k#R0!"
 refine u4 (IntMulOk.of_right (by decide)) ?_
 walk_at "k#N!k#Y"
 refine C6 ?_
 walk_at ",!"
 refine o0 (by rw [j9];simp) ?_
 walk_at "c"
 rw [j9]
 refine⟨by simp,by simp,?_⟩
 rw [show o2 0 ((([c']:List Nat).length:Nat):Int)=[.int 0]from rfl]
 refine⟨trivial,?_⟩
 show d9 _ _ _ ⟨[some (.str (S [c'])),some (.str (S lb)),some (.int mx),v3,v4,some (.lst 0),some (.int ((jn:Int)*2)),some (.int jn),some (.str (S [x])),some (.int ((jn:Int)*2)),some (.int 9223372036854775807),some (.int 0),v12,v13],[[.int R]]⟩ _
 walk_at "#Q1!%4!D%D.!"
 with_reducible refine b8 (VB _ c') ?_
 walk_at "B!"
 have hne:x=c'->False:=fun e=>by rw [if_pos e]at hs;lia
 refine QJ C (n:=n) (r:=s) ⟨?_,?_⟩ ?_ ?_
 ·rcases hc.1 with rfl |rfl |rfl
  ·exact .inl Wz
  ·exact .inr (.inl aK)
  ·exact .inr (.inr bE)
 ·rcases hc.2 with rfl |rfl
  ·exact .inr (.inl aK)
  ·exact .inr (.inr bE)
 ·rw [hs]
  obtain⟨h1,h2⟩:=hc
  rcases h1 with rfl |rfl |rfl<;>rcases h2 with rfl |rfl<;>decide+kernel
 walk_at "[k#Q.!"
 with_reducible refine b8 (Sz R) ?_
 walk_at "k#Q1!,!"
 refine MD ?_
 walk_at "&![k#Q,!"
 refine MD ?_
 walk_at "k#Z%%%!"
 have e1:(if R<(jn:Int)*2 then R else(jn:Int)*2)=2*jn:=by split<;>lia
 have e2:(if(jn:Int)*2+s<2*jn+2 then(jn:Int)*2+s else 2*jn+2)=2*jn+s:=by split<;>lia
 rw [e1,e2]
 refine⟨by decide,by simp,by exact Nat.succ_pos _,?_⟩
 walk_at "k#XH"
 rw [if_pos (by simp;lia)]
 walk_at "#N!k$k$!"
 refine⟨trivial,?_⟩
 show I3 _ _ _ _ .next ⟨_,[[.int (2*(jn:Int)+s)]]⟩
 walk_at "k#XH"
 have:=hF (some (.str (S [x]))) (some (.int R)) (some (.int 0)) (some (.int ((jn:Int)*2+s))) (some (.int (2*(jn:Int)+2)))
 by_cases h:2*(jn:Int)+s>mx
 ·rw [if_pos h]at this
  rw [if_pos (by simp;assumption)]
  walk_at "#Ohh"
  exact this
 ·rw [if_neg h]at this
  rw [if_neg (by simp;exact z1 ‹_›)]
  walk_at "$k$"
  exact this
end
end
section
open Builtin.Str StrLaws
noncomputable def AB(k c:Nat):List Nat:=List.replicate k 46++[c]
theorem VM{c c':Nat}(h:(c=97∧c'=65)∨(c=65∧c'=97)):(c=46∨c=97∨c=65)∧(c'=97∨c'=65):=by lia
theorem Tt{c c':Nat}(h:(c=97∧c'=65)∨(c=65∧c'=97)):((46:Nat)=46∨(46:Nat)=97∨(46:Nat)=65)∧(c'=97∨c'=65):=by lia
theorem S7(k c:Nat):(AB k c).length=k+1:=by simp [AB]
theorem Kk(j c k:Nat)(h:j<=k):j<(AB k c).length:=by rw [S7];exact s2 ‹_›
theorem GU(k c:Nat)(h:k<=30):(AB k c).length<=1000:=by rw [S7];exact JA ‹_› rfl
section
variable{B:Bs}{P:Params}(C:Ctx B P){n:Nat}{ls:Ls}{Q:AV->Ls->Prop}
include C
theorem PW{k c c':Nat}(hcc:(c=97∧c'=65)∨(c=65∧c'=97))(hk:k<=30){mx:Int}(hmx:2*(k:Int)<=mx){v3 v4:Option AV}(hq:Q (.int (2*k+1)) ls):∀(r j:Nat),j+r=k->∀(R:Int),2*(j:Int)<=R->∀(v6 v7 v8 v9 v10 v11 v12 v13:Option AV),
  A2 (fun _=>True) (.one 7) (d9 B (n+1) Ap) ((List.range' j (r+1)).map fun(i:Nat)=>AV.int (0+i)) ⟨[some (.str (S [c'])),some (.str (S (AB k c))),some (.int mx),v3,v4,some (.lst 0),v6,v7,v8,v9,v10,v11,v12,v13],[[.int R]]⟩
   (I3 B (n+1) (.cons (.ret (.var 6)) .nil) (D8 [] fun v _=>m8 0 v=true∧Q v ls)):=by
 intro r
 induction r with
 |zero=>
  intro j hj R hR v6 v7 v8 v9 v10 v11 v12 v13
  obtain rfl:j=k:=by assumption
  refine⟨trivial,?_⟩
  show d9 B (n+1) Ap ⟨[some (.str (S [c'])),some (.str (S (AB j c))),some (.int mx),v3,v4,some (.lst 0),v6,some (.int (0+j)),v8,v9,v10,v11,v12,v13],[[.int R]]⟩ _
  rw [Int.zero_add]
  with_reducible refine Wl.out ?_
  refine Kr C (j:=(j:Int)) (jn:=j) (R:=R) (mx:=mx) (c':=c') (s:=1) (x:=c) rfl (Kk j c j (Nat.le_refl _)) (GU _ c hk) (by simp [AB]) (VM hcc) ?_ hR (by decide) (by decide) fun v8 v9 v11 v12 v13=> ?_
  ·rcases hcc with⟨rfl,rfl⟩ |⟨rfl,rfl⟩<;>decide
  ·by_cases h:2*(j:Int)+1>mx
   ·rw [if_pos h]
    refine Vh (L9 rfl (fun k l hk _=>by cases hk) ⟨rfl,?_⟩)
    rw [show mx+1=2*(j:Int)+1 by lia];exact hq
   ·rw [if_neg h]
    refine⟨trivial,?_⟩
    walk_at "k#Oh"
    exact L9 rfl (fun k l hk _=>by cases hk) ⟨rfl,hq⟩
 |succ r ih=>
  intro j hj R hR v6 v7 v8 v9 v10 v11 v12 v13
  rw [range'_succ]
  refine⟨trivial,?_⟩
  show d9 B (n+1) Ap ⟨[some (.str (S [c'])),some (.str (S (AB k c))),some (.int mx),v3,v4,some (.lst 0),v6,some (.int (0+j)),v8,v9,v10,v11,v12,v13],[[.int R]]⟩ _
  rw [Int.zero_add]
  with_reducible refine Wl.out ?_
  refine Kr C (j:=(j:Int)) (jn:=j) (R:=R) (mx:=mx) (c':=c') (s:=2) (x:=46) rfl (Kk j c k (by exact Yn ‹_›)) (GU _ c hk) ?_ (Tt hcc) ?_ hR (by decide) (by decide) fun v8 v9 v11 v12 v13=> ?_
  ·simp only [AB]
   rw [List.getElem_append_left (by simp;exact bJ ‹_›)];simp
  ·rcases hcc with⟨rfl,rfl⟩ |⟨rfl,rfl⟩<;>decide
  ·rw [if_neg (by lia)]
   exact ih (j+1) (by exact RZ ‹_›) _ (by lia) _ _ _ _ _ _ _ _
omit C in
theorem Al{L:Ls}{x:Str}(h:x.length<=1000000):O5 L (.str x)=some (x.length !=0):=by
 show(if x.length<4611686018427387904 then some (x.length !=0)else none)=_
 (rw [if_pos (by exact u3 ‹_› rfl)];rfl)
noncomputable def KE:o7:=(.cons (.ite (.cmp (.bin .mul (.bin .sub (.call (.glob (.builtin "len")) (.cons (.var 1) .nil)) (.call (.glob (.builtin "len")) (.cons (.var 0) .nil))) (.int 2)) .gt (.var 2)) (.cons (.ret (.bin .add (.var 2) (.int 1)))
 .nil) .nil)
 (.cons (.asg 5 (.rlist (.int 2) (.bin .mul (.int 2) (.bin .add (.call (.glob (.builtin "len")) (.cons (.var 0) .nil)) (.int 1))) (.int 2)))
 (.cons (.asg 6 (.int 0))
 (.cons (.for (.one 7) (.range1 (.call (.glob (.builtin "len")) (.cons (.var 1) .nil))) Ap)
 (.cons (.ret (.var 6))
 .nil)))))
theorem HR{k c c':Nat}(hcc:(c=97∧c'=65)∨(c=65∧c'=97))(hk:k<=30){mx:Int}(hmx:2*(k:Int)<=mx){v3 v4:Option AV}(hq:Q (.int (2*k+1)) ls):
  Wl B (n+1) KE ⟨[some (.str (S [c'])),some (.str (S (AB k c))),some (.int mx),v3,v4,none,none,none,none,none,none,none,none,none],[]⟩ (D8 [] fun v _=>m8 0 v=true∧Q v ls):=by
 constructor
 unfold KE
 have hl:=GU k c hk
 walk_at "#XI11,!"
 refine o0 (by rw [j9];exact u3 ‹_› rfl) ?_
 walk_at ",!"
 refine o0 (by rw [j9];simp) ?_
 walk_at "]&!"
 rw [j9,j9,S7]
 refine u4 (IntMulOk.of_right (by decide)) ?_
 walk_at "%!f"
 rw [if_neg (by simp;lia)]
 walk_at "$k#QA!&1&1!,!"
 refine o0 (by rw [j9];simp) ?_
 walk_at "&!["
 refine u4 (IntMulOk.of_left (by decide)) ?_
 walk_at "&!"
 rw [j9,show((([c']:List Nat).length:Nat):Int)=1 from rfl]
 refine⟨⟨by decide,by decide⟩,by decide,by decide,by decide,?_⟩
 rw [show AY 2 (2*(1+1)) 2=[.int 2] by kernel_rfl]
 walk_at "k#N!k#Y"
 with_reducible refine C6 ?_
 walk_at ",!"
 refine o0 (by rw [j9];exact u3 ‹_› rfl) ?_
 walk_at "c"
 rw [j9,S7]
 refine⟨by lia,by lia,?_⟩
 have er:o2 0 ((k+1:Nat):Int)=(List.range' 0 (k+1)).map fun(i:Nat)=>AV.int (0+i):=by
  unfold o2
  (rw [show(((k+1:Nat):Int)-0).toNat=k+1 by lia,List.range_eq_range'];rfl)
 rw [er]
 exact PW C hcc hk hmx hq k 0 (by exact Pq) 2 (by decide) _ _ _ _ _ _ _ _
noncomputable def S4:o7:=(.cons (.ite (.or (.not (.var 0)) (.not (.var 1))) (.cons (.ret (.bin .mul (.int 2) (.bin .add (.call (.glob (.builtin "len")) (.cons (.var 0) .nil)) (.call (.glob (.builtin "len")) (.cons (.var 1) .nil)))))
 .nil) .nil)
 (.cons (.ite (.or (.cmp (.call (.glob (.builtin "len")) (.cons (.var 0) .nil)) .gt (.int 40)) (.cmp (.call (.glob (.builtin "len")) (.cons (.var 1) .nil)) .gt (.int 40))) (.cons (.ret (.bin .add (.var 2) (.int 1)))
 .nil) .nil)
 (.cons (.ite (.cmp (.call (.glob (.builtin "len")) (.cons (.var 1) .nil)) .lt (.call (.glob (.builtin "len")) (.cons (.var 0) .nil))) (.cons (.unp 0 1 (.tup (.cons (.var 1) (.cons (.var 0) .nil))))
 .nil) .nil) KE)))
theorem IM{k c c':Nat}(hcc:(c=97∧c'=65)∨(c=65∧c'=97))(hk:k<=30){mx:Int}(hmx:2*(k:Int)<=mx){v3 v4:Option AV}(hq:Q (.int (2*k+1)) ls)(sw:Bool)(h0:sw=true->0<k){a b:List Nat}(ha:a=if sw=true then AB k c else [c'])(hb:b=if sw=true then [c']else AB k c):
  Wl B (n+1) S4 ⟨[some (.str (S a)),some (.str (S b)),some (.int mx),v3,v4,none,none,none,none,none,none,none,none,none],[]⟩ (D8 [] fun v _=>m8 0 v=true∧Q v ls):=by
 have la:a.length=if sw=true then k+1 else 1:=by
  rw [ha];split
  ·(rw [S7];rfl)
  ·rfl
 have lb:b.length=if sw=true then 1 else k+1:=by
  rw [hb];split
  ·rfl
  ·(rw [S7];rfl)
 have hal:a.length<=31:=by rw [la];split<;>(first |exact JA ‹_› rfl |exact u1 rfl)
 have hbl:b.length<=31:=by rw [lb];split<;>(first |exact u1 rfl |exact JA ‹_› rfl)
 have hal0:0<a.length:=by rw [la];split<;>lia
 have hbl0:0<b.length:=by rw [lb];split<;>lia
 constructor
 unfold S4
 with_reducible refine c0 (CW (VP (KG (Ie rfl (Al (by rw [j9];exact u2 ‹_› rfl)) ?_))))
 rw [if_neg (by rw [j9];simp;intro h;rw [h]at hal0;exact absurd hal0 (by decide))]
 with_reducible refine KG (Ie rfl (Al (by rw [j9];exact u2 ‹_› rfl)) ?_)
 rw [if_neg (by rw [j9];simp;intro h;rw [h]at hbl0;exact absurd hbl0 (by decide))]
 walk_at "$k#XGI,!"
 refine o0 (by rw [j9];exact u3 ‹_› rfl) ?_
 walk_at "&!f"
 rw [j9,if_neg (by simp;lia)]
 walk_at "I,!"
 refine o0 (by rw [j9];exact u3 ‹_› rfl) ?_
 walk_at "&!f"
 rw [j9,if_neg (by simp;lia)]
 walk_at "$k#XI,!"
 refine o0 (by rw [j9];exact u3 ‹_› rfl) ?_
 walk_at ",!"
 refine o0 (by rw [j9];exact u3 ‹_› rfl) ?_
 walk_at "f"
 rw [j9,j9]
 cases sw with
 |true=>
  have:=h0 rfl
  rw [if_pos rfl]at ha hb la lb
  rw [if_pos (by simp;lia)]
  walk_at "#S8Bie!k$k"
  subst ha hb
  exact(HR C hcc hk hmx hq).out
 |false=>
  rw [if_neg (by decide)]at ha hb la lb
  rw [if_neg (by simp;lia)]
  walk_at "$k"
  subst ha hb
  exact(HR C hcc hk hmx hq).out
end
end
section
open Builtin.Str StrLaws
theorem La{c1 c2:Nat}(h1:c1≠46)(h2:c2≠46):∀d1 d2:Nat,¬(d1=d2∧c1=c2)->cp (List.replicate d1 46++[c1,46]) (List.replicate d2 46++[c2,46])=min d1 d2
 |0,0,h=>by
  show(if c1=c2 then _ else 0)=_
  rw [if_neg (fun e=>h ⟨rfl,e⟩)];rfl
 |0,d2+1,_=>by
  rw [replicate_succ]
  show(if c1=46 then _ else 0)=_
  rw [if_neg h1];simp
 |d1+1,0,_=>by
  rw [replicate_succ]
  show(if 46=c2 then _ else 0)=_
  rw [if_neg (fun e=>h2 e.symm)];simp
 |d1+1,d2+1,h=>by
  rw [replicate_succ,replicate_succ,cons_append,cons_append,BN,if_pos rfl,La h1 h2 d1 d2 (fun e=>h ⟨by lia,e.2⟩)]
  lia
theorem Gg(d m:Nat)(h:m<=d)(t:List Nat):(List.replicate d 46++t).drop m=List.replicate (d-m) 46++t:=by
 (rw [drop_append,List.drop_replicate,length_replicate,show m-d=0 by exact aR ‹_›,drop_zero];rfl)
theorem IX(k c:Nat):(List.replicate k 46++[c,46]).reverse=46::c::List.replicate k 46:=by simp
theorem SO(k1 k2:Nat)(h:k1=0∨k2=0):cp (List.replicate k1 46) (List.replicate k2 46)=0:=by
 rcases h with rfl |rfl
 ·rfl
 ·exact Jp _
noncomputable def GJ:o7:=(.cons (.asg 0 (.slice (.var 0) (.var 3) .none .none))
 (.cons (.asg 1 (.slice (.var 1) (.var 3) .none .none))
 (.cons (.asg 4 (.int 0))
 (.cons (.while JM (.cons (.aug 4 .sub (.int 1)) .nil))
 (.cons (.asg 0 (.slice (.var 0) .none (.or (.var 4) .none) .none))
 (.cons (.asg 1 (.slice (.var 1) .none (.or (.var 4) .none) .none))
 S4))))))
section
variable{B:Bs}{P:Params}(C:Ctx B P){n:Nat}{ls:Ls}{Q:AV->Ls->Prop}
include C
theorem QD{k1 k2:Nat}(hk:k1=0∨k2=0)(h1:k1<=30)(h2:k2<=30){mx:AV}{v3 v4:Option AV}(hq:Q (.int (2*((k1:Int)+k2))) ls):
  Wl B (n+1) S4 ⟨[some (.str (S (List.replicate k1 46))),some (.str (S (List.replicate k2 46))),some mx,v3,v4,none,none,none,none,none,none,none,none,none],[]⟩ (D8 [] fun v _=>m8 0 v=true∧Q v ls):=by
 constructor
 unfold S4
 have fin:d9 B (n+1) (.cons (.ret (.bin .mul (.int 2) (.bin .add (.call (.glob (.builtin "len")) (.cons (.var 0) .nil)) (.call (.glob (.builtin "len")) (.cons (.var 1) .nil))))) .nil) ⟨[some (.str (S (List.replicate k1 46))),some (.str (S (List.replicate k2 46))),some mx,v3,v4,none,none,none,none,none,none,none,none,none],[]⟩ (I3 B (n+1) (.cons (.ite (.or (.cmp (.call (.glob (.builtin "len")) (.cons (.var 0) .nil)) .gt (.int 40)) (.cmp (.call (.glob (.builtin "len")) (.cons (.var 1) .nil)) .gt (.int 40))) (.cons (.ret (.bin .add (.var 2) (.int 1)))
 .nil) .nil)
 (.cons (.ite (.cmp (.call (.glob (.builtin "len")) (.cons (.var 1) .nil)) .lt (.call (.glob (.builtin "len")) (.cons (.var 0) .nil))) (.cons (.unp 0 1 (.tup (.cons (.var 1) (.cons (.var 0) .nil))))
 .nil) .nil) KE)) (D8 [] fun v _=>m8 0 v=true∧Q v ls)):=by
  walk_at "#W1&1!,!"
  refine o0 (by rw [j9,length_replicate];exact u3 ‹_› rfl) ?_
  walk_at ",!"
  refine o0 (by rw [j9,length_replicate];exact u3 ‹_› rfl) ?_
  walk_at "["
  rw [j9,j9,length_replicate,length_replicate]
  refine u4 (IntMulOk.of_left (by decide)) ?_
  walk_at "hh"
  exact L9 rfl (fun k l hk _=>by cases hk) ⟨rfl,hq⟩
 with_reducible refine c0 (CW (VP (KG (Ie rfl (Al (by rw [j9,length_replicate];exact u2 ‹_› rfl)) ?_))))
 rw [j9,length_replicate]
 by_cases h0:k1=0
 ·rw [if_pos (by simp [h0])]
  rw [if_pos rfl]
  exact fin
 ·rw [if_neg (by simp [h0])]
  with_reducible refine KG (Ie rfl (Al (by rw [j9,length_replicate];exact u2 ‹_› rfl)) ?_)
  rw [j9,length_replicate,if_pos (by simp;lia)]
  exact fin
omit C in
theorem CI{eB:Heap}{l:List Nat}{p:Nat}{σ:St}{Q:AV->St->Prop}(h:p<=l.length)(hl:l.length<=1000)(hq:Q (.str (S (l.drop p))) σ):Ba eB (.str (S l)) (.int p) .none .none σ Q:=by
 exact Fn rfl rfl (by rw [j9];exact u2 ‹_› rfl) (by rw [Co h];exact hq)
omit C in
theorem Ao{eB:Heap}{l:List Nat}{q:Nat}{σ:St}{Q:AV->St->Prop}(h:q<=l.length)(hl:l.length<=1000)(hq:Q (.str (S (l.take (l.length-q)))) σ):Ba eB (.str (S l)) .none (if q=0 then .none else .int (-(q:Int))) .none σ Q:=by
 exact Fn rfl (Cx _) (by rw [j9];exact u2 ‹_› rfl) (by rw [Hg h];exact hq)
@[reducible] def WY(B:Bs)(P:Params)(n:Nat)(ls:Ls)(Q:AV->Ls->Prop)(d1 d2 c1 c2 m k1 k2:Nat)(r mx:Int):Prop:=∀(C:Ctx B P)(hd1:d1<=30)(hd2:d2<=30)(hm:m=min d1 d2)(hk1:k1=d1-m)(hk2:k2=d2-m)(hc1:c1=97∨c1=65)(hc2:c2=97∨c2=65)(hr:r=2*((k1:Int)+k2)+if c1=c2 then 0 else 1)(hmx:r-1<=mx)(hq:Q (.int r) ls),Wl B (n+1) GJ ⟨[some (.str (S (List.replicate d1 46++[c1,46]))),some (.str (S (List.replicate d2 46++[c2,46]))),some (.int mx),some (.int (m:Int)),none,none,none,none,none,none,none,none,none,none],[]⟩ (D8 [] fun v _=>m8 0 v=true∧Q v ls)
noncomputable def y9:Uc:=ec fun u=>WY u.b u.p (u.n 0) (u.l 0) u.q (u.n 1) (u.n 2) (u.n 3) (u.n 4) (u.n 5) (u.n 6) (u.n 7) (u.i 0) (u.i 1)
omit C in
theorem cR:WY y9.b y9.p (y9.n 0) (y9.l 0) y9.q (y9.n 1) (y9.n 2) (y9.n 3) (y9.n 4) (y9.n 5) (y9.n 6) (y9.n 7) (y9.i 0) (y9.i 1):=fun C hd1 hd2 hm hk1 hk2 hc1 hc2 hr hmx hq=>by
 have hk:(y9.n 6)=0∨(y9.n 7)=0:=by lia
 constructor
 unfold GJ
 walk_at "#Q7%%**"
 refine CI (by simp;exact Ze ‹_›) (by simp;exact u2 ‹_› rfl) ?_
 walk_at "k!#Q7%%**"
 refine CI (by simp;exact Kd ‹_›) (by simp;exact u2 ‹_› rfl) ?_
 (rewrite [Gg (y9.n 1) (y9.n 5) (by exact EZ ‹_›),Gg (y9.n 2) (y9.n 5) (by exact Fc ‹_›)];rw [←hk1,←hk2])
 walk_at "k!#N!k#"
 have la:(List.replicate (y9.n 6) 46++[(y9.n 3),46]).length=(y9.n 6)+2:=by simp
 have lb:(List.replicate (y9.n 7) 46++[(y9.n 4),46]).length=(y9.n 7)+2:=by simp
 with_reducible refine X2 ((y9.n 6)+3) ?_
 have go:=Fv (B:=y9.b) (n:=(y9.n 0)+1) (ls:=[]) (la:=List.replicate (y9.n 6) 46++[(y9.n 3),46]) (lb:=List.replicate (y9.n 7) 46++[(y9.n 4),46]) (by lia) (by lia) (mx:= .int (y9.i 1)) (v3:= .int (y9.n 5)) (vs:=[none,none,none,none,none,none,none,none,none])
  (F:=I3 y9.b ((y9.n 0)+1) (.cons (.asg 0 (.slice (.var 0) .none (.or (.var 4) .none) .none)) (.cons (.asg 1 (.slice (.var 1) .none (.or (.var 4) .none) .none)) S4)) (D8 [] fun v _=>m8 0 v=true∧y9.q v (y9.l 0))) ((y9.n 6)+3) 0 (Nat.zero_le _) (Nat.zero_le _) (by lia) ?_
 ·exact go
 rw [drop_zero,drop_zero,IX,IX,BN,if_pos rfl,BN,Nat.zero_add]
 by_cases hc:(y9.n 3)=(y9.n 4)
 ·rw [if_pos hc,SO (y9.n 6) (y9.n 7) hk]
  with_reducible refine V6 (c0 (DE (Dp (P1 rfl (F4 (As rfl (F4 ?_))))) rfl))
  refine Ao (by lia) (by lia) ?_
  with_reducible refine V6 (c0 (DE (Dp (P1 rfl (F4 (As rfl (F4 ?_))))) rfl))
  refine Ao (by lia) (by lia) ?_
  rw [la,lb]
  have t1:(List.replicate (y9.n 6) 46++[(y9.n 3),46]).take ((y9.n 6)+2-(0+1+1))=List.replicate (y9.n 6) 46:=by
   (rw [show(y9.n 6)+2-(0+1+1)=(y9.n 6) by lia];rewrite [take_left'];rfl);simp
  have t2:(List.replicate (y9.n 7) 46++[(y9.n 4),46]).take ((y9.n 7)+2-(0+1+1))=List.replicate (y9.n 7) 46:=by
   (rw [show(y9.n 7)+2-(0+1+1)=(y9.n 7) by lia];rewrite [take_left'];rfl);simp
  rw [t1,t2]
  rw [if_pos hc,Int.add_zero]at hr
  rw [hr]at hq
  exact(QD C hk (by lia) (by exact UH ‹_› ‹_›) hq).out
 ·rw [if_neg hc]
  with_reducible refine V6 (c0 (DE (Dp (P1 rfl (F4 (As rfl (F4 ?_))))) rfl))
  refine Ao (by lia) (by lia) ?_
  with_reducible refine V6 (c0 (DE (Dp (P1 rfl (F4 (As rfl (F4 ?_))))) rfl))
  refine Ao (by lia) (by lia) ?_
  rw [la,lb]
  have t1:(List.replicate (y9.n 6) 46++[(y9.n 3),46]).take ((y9.n 6)+2-(0+1))=AB (y9.n 6) (y9.n 3):=by
   rw [show(y9.n 6)+2-(0+1)=(y9.n 6)+1 by lia]
   unfold AB
   rw [List.take_append];simp
  have t2:(List.replicate (y9.n 7) 46++[(y9.n 4),46]).take ((y9.n 7)+2-(0+1))=AB (y9.n 7) (y9.n 4):=by
   rw [show(y9.n 7)+2-(0+1)=(y9.n 7)+1 by lia]
   unfold AB
   rw [List.take_append];simp
  rw [t1,t2]
  rw [if_neg hc]at hr
  by_cases h0:(y9.n 6)=0
  ·rw [show 2*(((y9.n 6):Int)+(y9.n 7))+1=2*((y9.n 7):Int)+1 by lia]at hr
   rw [hr]at hq
   refine(IM C (k:=(y9.n 7)) (c:=(y9.n 4)) (c':=(y9.n 3)) (by lia) (by exact UH ‹_› ‹_›) (by lia) hq false (fun h=>by exact ft h) ?_ ?_).out
   ·rw [if_neg (by decide),h0];rfl
   ·(rw [if_neg (by decide)];rfl)
  ·have h2:(y9.n 7)=0:=by lia
   rw [show 2*(((y9.n 6):Int)+(y9.n 7))+1=2*((y9.n 6):Int)+1 by lia]at hr
   rw [hr]at hq
   refine(IM C (k:=(y9.n 6)) (c:=(y9.n 3)) (c':=(y9.n 4)) (by lia) (by lia) (by lia) hq true (fun _=>by exact n3 ‹_›) ?_ ?_).out
   ·(rw [if_pos rfl];rfl)
   ·rw [if_pos rfl,h2];rfl
omit C in
theorem LG{B:Bs}{P:Params}{n:Nat}{ls:Ls}{Q:AV->Ls->Prop}{d1 d2 c1 c2 m k1 k2:Nat}{r mx:Int}:WY B P n ls Q d1 d2 c1 c2 m k1 k2 r mx:=by with_unfolding_all exact hk (q:=fun u:Uc=>WY u.b u.p (u.n 0) (u.l 0) u.q (u.n 1) (u.n 2) (u.n 3) (u.n 4) (u.n 5) (u.n 6) (u.n 7) (u.i 0) (u.i 1)) cR (.mk B P y9.f Q y9.v [ls] [n,d1,d2,c1,c2,m,k1,k2] [r,mx] [] [] [] [] [] [] [] [] [] [] [] [])
theorem OB{d1 d2:Nat}{b1 b2:Bool}{mx:Int}(hp:B.pins=[])(hd1:d1<=30)(hd2:d2<=30)(hmx:S5 d1 d2 b1 b2-1<=mx)(hq:Q (.int (S5 d1 d2 b1 b2)) ls):Spec B (n+2) (.ref 140) [.str (k9 d1 b1),.str (k9 d2 b2),.int mx] [] ls Q:=by
 refine Spec.frame hp rfl ?_
 refine y7 C (S0 P) (R6 P) rfl (WE P) ?_
 have hch:∀b:Bool,(if b then 65 else 97)=97∨(if b then 65 else 97:Nat)=65:=fun b=>by cases b<;>decide
 have hb12:((if b1 then 65 else 97:Nat)=if b2 then 65 else 97)↔b1=b2:=by cases b1<;>cases b2<;>decide
 have mid:d1=d2∧b1=b2∨d9 B (n+1) GJ ⟨[some (.str (k9 d1 b1)),some (.str (k9 d2 b2)),some (.int mx),some (.int (min d1 d2:Nat)),none,none,none,none,none,none,none,none,none,none],[]⟩ (D8 [] fun v _=>m8 0 v=true∧Q v ls):=by
  refine .inr (LG C hd1 hd2 rfl rfl rfl (hch b1) (hch b2) (r:=S5 d1 d2 b1 b2) ?_ hmx hq).out
  unfold S5
  congr 1
  ·exact congrArg (2* ·) (Yu d1 d2)
  ·by_cases h:b1=b2
   ·(rw [if_pos h,if_pos (hb12.mpr h)];rfl)
   ·(rw [if_neg h,if_neg (fun e=>h (hb12.mp e))];rfl)
 unfold F8
 change d9 _ _ _ ⟨[some (.str (k9 d1 b1)),some (.str (k9 d2 b2)),some (.int mx),none,none,none,none,none,none,none,none,none,none,none],[]⟩ _
 walk_at "#XH"
 by_cases he:d1=d2∧b1=b2
 ·obtain⟨rfl,rfl⟩:=he
  rw [if_pos (by simp)]
  walk_at "#Ohh"
  refine L9 rfl (fun k l hk _=>by cases hk) ⟨rfl,?_⟩
  have e:S5 d1 d1 b1 b1=0:=by unfold S5;simp
  rw [e]at hq;exact hq
 ·have hne:k9 d1 b1≠k9 d2 b2:=fun e=>by
   have h1:=congrArg Str.length e
   rw [j8,j8]at h1
   have h2:d1=d2:=by lia
   subst h2
   refine he ⟨rfl,?_⟩
   unfold k9 at e
   simp at e
   cases b1<;>cases b2<;>simp at e ⊢
  rw [if_neg (by simpa using hne)]
  walk_at "$k#N!k#"
  with_reducible refine X2 (d1+3) ?_
  have cpe:=La (c1:=if b1 then 65 else 97) (c2:=if b2 then 65 else 97) (by cases b1<;>decide) (by cases b2<;>decide) d1 d2 (fun e=>he ⟨e.1,hb12.mp e.2⟩)
  have l1:(List.replicate d1 46++[if b1 then 65 else 97,46]).length=d1+2:=by simp
  have l2:(List.replicate d2 46++[if b2 then 65 else 97,46]).length=d2+2:=by simp
  have go:=II (B:=B) (n:=n+1) (ls:=[]) (la:=List.replicate d1 46++[if b1 then 65 else 97,46]) (lb:=List.replicate d2 46++[if b2 then 65 else 97,46]) (by lia) (by lia) (mx:= .int mx) (vs:=[none,none,none,none,none,none,none,none,none,none])
   (F:=I3 B (n+1) GJ (D8 [] fun v _=>m8 0 v=true∧Q v ls)) (d1+3) 0 (Nat.zero_le _) (Nat.zero_le _) (by lia) ?_
  ·exact go
  ·rw [drop_zero,drop_zero,cpe,Nat.zero_add]
   rcases mid with h |h
   ·exact absurd h he
   ·exact h
end
end
section
open PySem.Sre
noncomputable def X4:Array Nat:= #[14,4,0,1,1,6,1,16,46,1]
noncomputable def AO(text:Array Nat)(s:Nat)(ma b:Bool)(seen:Sre.Seen):M:=
 {code:=X4,text:=text,lim:=text.size,start:=s,lastStart:=text.size,mustAdvance:=ma,pc:=5,pos:=s,handed:=s,outermost:=b,marks:= #[],frames:=[{wait:= .nextStart,pc:=5,pos:=s,outermost:=b}],weight:=1,seen:=seen}
noncomputable def Ma(text:Array Nat)(s:Nat):Bool:=s==0 ||text.getD (s-1) 0==10
theorem Vr(text:Array Nat)(s:Nat)(ma b:Bool)(seen:Sre.Seen):(AO text s ma b seen).step=if Ma text s then {AO text s ma b ((seen.add 6).add 44)with pc:=7}else {AO text s ma b ((seen.add 6).add 44)with answer:=some false}:=by
 rfl
theorem SX(text:Array Nat)(s:Nat)(ma b:Bool)(seen:Sre.Seen):({AO text s ma b seen with pc:=7}:M).step=if s≥text.size then {AO text s ma b (seen.add 16)with pc:=7,answer:=some false}else if text.getD s 0==46 then {AO text s ma b (seen.add 16)with pc:=9,pos:=s+1}else {AO text s ma b (seen.add 16)with pc:=7,answer:=some false}:=by
 by_cases h:s≥text.size
 ·rw [if_pos h]
  show(if s≥text.size then _ else _)=_
  rw [if_pos h];rfl
 ·rw [if_neg h]
  show(if s≥text.size then _ else _)=_
  rw [if_neg h]
  have e:accepts X4 7 (text.getD s 0) (seen.add 16)= .ok (text.getD s 0==46,seen.add 16):=rfl
  show(match accepts X4 7 (text.getD s 0) (seen.add 16)with
   | .error why=>_
   | .ok (false,seen)=>_
   | .ok (true,seen)=>_)=_
  rw [e]
  cases text.getD s 0==46<;>rfl
inductive u0:Nat->M->M->Prop
 |refl (m:M):u0 0 m m
 |cons {k:Nat} {m m':M} (h:m.outcome.isSome=false) (t:u0 k m.step m'):u0 (k+1) m m'
theorem u0.run{k:Nat}{a b:M}(h:u0 k a b):∀r,a.runFor (k+r)=b.runFor r:=by
 induction h with
 |refl m=>intro r;(rw [Nat.zero_add];rfl)
 |cons h t ih=>
  intro r
  rw [Nat.succ_add]
  show(if _ then _ else _)=_
  rw [if_neg (by rw [h];decide)]
  exact ih r
theorem ES{m:M}(h:m.outcome.isSome=true):∀r,m.runFor r=m
 |0=>rfl
 |r+1=>by
  show(if _ then _ else _)=_
  (rw [if_pos h];rfl)
theorem cT(text:Array Nat)(s:Nat)(ma b:Bool)(seen:Sre.Seen):({AO text s ma b seen with pc:=9,pos:=s+1}:M).step={AO text s ma b (seen.add 1)with pc:=9,pos:=s+1,handed:=s+1,answer:=some true}:=by
 show(if(b&&((false&&_) || (ma&&(s+1==s))))=true then _ else _)=_
 have e:(s+1==s)=false:=by simp
 rw [e,if_neg (by simp)]
 rfl
noncomputable def TZ(text:Array Nat)(s:Nat)(ma b:Bool)(seen:Sre.Seen):M:={AO text s ma b seen with handed:=s+1,frames:=[],weight:=0,answer:=some true,outcome:=some .matched}
theorem Zp(text:Array Nat)(s:Nat)(ma b:Bool)(seen:Sre.Seen):u0 2 {AO text s ma b seen with pc:=9,pos:=s+1,handed:=s+1,answer:=some true} (TZ text s ma b seen):= .cons rfl (.cons rfl (.refl _))
noncomputable def Ko(text:Array Nat)(s:Nat)(ma b:Bool)(seen:Sre.Seen):M:={AO text s ma b seen with frames:=[],weight:=0,answer:=some false,outcome:=some .failed}
theorem aH(text:Array Nat)(s:Nat)(ma b:Bool)(seen:Sre.Seen)(pc:Nat):({AO text s ma b seen with pc:=pc,answer:=some false}:M).step=if s<text.size then AO text (s+1) false false seen else {AO text s ma b seen with frames:=[],weight:=0,answer:=some false}:=by
 rfl
theorem RU(text:Array Nat)(s:Nat)(ma b:Bool)(seen:Sre.Seen):({AO text s ma b seen with frames:=[],weight:=0,answer:=some false}:M).step=Ko text s ma b seen:=rfl
noncomputable def N7(text:Array Nat):Nat->Nat->Option Nat
 |0,_=>none
 |f+1,s=>if s<text.size then(if Ma text s&&text.getD s 0==46 then some s else N7 text f (s+1))else none
theorem Sf(text:Array Nat)(s:Nat)(ma b:Bool)(seen:Sre.Seen)(h:¬s<text.size):∃k seen',k<=4∧u0 k (AO text s ma b seen) (Ko text s ma b seen'):=by
 have e2:∀sn pc,({AO text s ma b sn with pc:=pc,answer:=some false}:M).step={AO text s ma b sn with frames:=[],weight:=0,answer:=some false}:=fun sn pc=>by(rw [aH,if_neg h];rfl)
 by_cases hb:Ma text s=true
 ·refine⟨4,((seen.add 6).add 44).add 16,by exact Xh,.cons rfl ?_⟩
  rw [Vr,if_pos hb]
  refine .cons rfl ?_
  rw [SX,if_pos (by exact n1 ‹_›)]
  refine .cons rfl ?_
  rw [e2]
  refine .cons rfl ?_
  rw [RU]
  exact .refl _
 ·refine⟨3,(seen.add 6).add 44,by exact u1 rfl,.cons rfl ?_⟩
  rw [Vr,if_neg hb]
  have e3:({AO text s ma b ((seen.add 6).add 44)with answer:=some false}:M).step={AO text s ma b ((seen.add 6).add 44)with frames:=[],weight:=0,answer:=some false}:=e2 _ 5
  refine .cons rfl ?_
  rw [e3]
  refine .cons rfl ?_
  rw [RU]
  exact .refl _
theorem GY(text:Array Nat):∀(f s:Nat)(ma b:Bool)(seen:Sre.Seen),text.size<s+f->∃k ma' b' seen' s',k<=4*f+4∧match N7 text f s with
  |some p=>u0 k (AO text s ma b seen) (TZ text p ma' b' seen')
  |none=>u0 k (AO text s ma b seen) (Ko text s' ma' b' seen')
 |0,s,ma,b,seen,h=>by
  refine o1 (Sf text s ma b seen (by lia)) fun k sn hk hs=> ?_
  exact⟨k,ma,b,sn,s,by assumption,hs⟩
 |f+1,s,ma,b,seen,h=>by
  by_cases hlt:s<text.size
  ·have e2:∀sn pc,({AO text s ma b sn with pc:=pc,answer:=some false}:M).step=AO text (s+1) false false sn:=fun sn pc=>by(rw [aH,if_pos hlt];rfl)
   have hn:N7 text (f+1) s=if Ma text s&&text.getD s 0==46 then some s else N7 text f (s+1):=by
    show(if s<text.size then _ else none)=_
    (rw [if_pos hlt];rfl)
   rw [hn]
   by_cases hb:Ma text s=true
   ·by_cases hd:(text.getD s 0==46)=true
    ·rw [if_pos (by rw [hb,hd];rfl)]
     refine⟨5,ma,b,(((seen.add 6).add 44).add 16).add 1,s,by lia,.cons rfl ?_⟩
     rw [Vr,if_pos hb]
     refine .cons rfl ?_
     rw [SX,if_neg (by exact n7 ‹_›),if_pos hd]
     refine .cons rfl ?_
     rw [cT]
     exact Zp ..
    ·rw [if_neg (by rw [hb];exact hd)]
     refine Mx (GY text f (s+1) false false (((seen.add 6).add 44).add 16) (by lia)) fun k ma' b' seen' s' hk hs=> ?_
     refine⟨k+3,ma',b',seen',s',by lia,?_⟩
     have st:∀m',u0 k (AO text (s+1) false false (((seen.add 6).add 44).add 16)) m'->u0 (k+3) (AO text s ma b seen) m':=fun m' hm=>by
      refine .cons rfl ?_
      rw [Vr,if_pos hb]
      refine .cons rfl ?_
      rw [SX,if_neg (by exact n7 ‹_›),if_neg hd]
      refine .cons rfl ?_
      rw [e2]
      exact hm
     cases hh:N7 text f (s+1)with
     |some p=>rw [hh]at hs;exact st _ hs
     |none=>rw [hh]at hs;exact st _ hs
   ·rw [if_neg (by simp [hb])]
    refine Mx (GY text f (s+1) false false ((seen.add 6).add 44) (by lia)) fun k ma' b' seen' s' hk hs=> ?_
    refine⟨k+2,ma',b',seen',s',by lia,?_⟩
    have e3:({AO text s ma b ((seen.add 6).add 44)with answer:=some false}:M).step=AO text (s+1) false false ((seen.add 6).add 44):=e2 _ 5
    have st:∀m',u0 k (AO text (s+1) false false ((seen.add 6).add 44)) m'->u0 (k+2) (AO text s ma b seen) m':=fun m' hm=>by
     refine .cons rfl ?_
     rw [Vr,if_neg hb]
     refine .cons rfl ?_
     rw [e3]
     exact hm
    cases hh:N7 text f (s+1)with
    |some p=>rw [hh]at hs;exact st _ hs
    |none=>rw [hh]at hs;exact st _ hs
  ·refine o1 (Sf text s ma b seen hlt) fun k sn hk hs=> ?_
   have hn:N7 text (f+1) s=none:=if_neg hlt
   rw [hn]
   exact⟨k,ma,b,sn,s,by lia,hs⟩
theorem Pf(text:Array Nat)(s:Nat)(ma:Bool)(h:s<text.size):forSearch X4 text 0 s text.size ma=AO text s ma true (({}:Sre.Seen).add 14):=by
 show(if(decide (s>text.size) ||decide (text.size-s<1))=true then _ else _)=_
 rw [if_neg (by simp;lia)]
 rfl
theorem QI(text:Array Nat)(s:Nat)(ma:Bool)(h:¬s<text.size):∃m',u0 1 (forSearch X4 text 0 s text.size ma) m'∧(∃o,m'.outcome=some o∧o= .failed):=by
 have e:forSearch X4 text 0 s text.size ma={code:=X4,text:=text,lim:=text.size,start:=s,pc:=5,pos:=s,handed:=s,marks:= #[],mustAdvance:=ma,seen:=({}:Sre.Seen).add 14,answer:=some false}:=by
  show(if(decide (s>text.size) ||decide (text.size-s<1))=true then _ else _)=_
  rw [if_pos (by simp;lia)]
  rfl
 rw [e]
 exact⟨_,.cons rfl (.refl _),_,rfl,rfl⟩
end
section
open PySem.Sre
noncomputable def N4:Array Nat:= #[14,9,4,1,2,16,10,16,13,0,7,7,16,13,16,10,15,18,5,16,10,15,13,11,16,13,5,5,0,16,10,1,15,2,0,1]
noncomputable def G0(text:Array Nat)(s:Nat)(ma:Bool)(seen:Sre.Seen)(fr:List Sre.Frame)(w pc pos hd:Nat)(outer:Bool)(ans:Option Bool):M:=
 {code:=N4,text:=text,lim:=text.size,start:=s,lastStart:=text.size,mustAdvance:=ma,pc:=pc,pos:=pos,handed:=hd,outermost:=outer,marks:= #[],frames:=fr,weight:=w,seen:=seen,answer:=ans}
noncomputable def HB(s:Nat)(b:Bool):List Sre.Frame:=[{wait:= .nextStart,pc:=10,pos:=s,outermost:=b}]
noncomputable def nb(s:Nat)(b:Bool)(pc:Nat):Sre.Frame:={wait:= .nextBranch,pc:=pc,pos:=s,outermost:=b,kept:={}}
noncomputable def lk(pos:Nat)(b:Bool):Sre.Frame:={wait:= .lookNot,pc:=26,pos:=pos,outermost:=b,kept:={}}
section
variable(text:Array Nat)(s:Nat)(ma:Bool)(seen:Sre.Seen)(fr:List Sre.Frame)(w pos hd:Nat)(o b:Bool)
theorem Mv(pc ww:Nat)(h:∀(sn:Sre.Seen),accepts N4 pc (text.getD pos 0) sn= .ok (text.getD pos 0==ww,sn))(he:(G0 text s ma seen fr w pc pos hd o none).step=if pos≥text.size then G0 text s ma (seen.add 16) fr w pc pos hd o (some false)else match accepts N4 pc (text.getD pos 0) (seen.add 16)with
   | .error why=>(G0 text s ma (seen.add 16) fr w pc pos hd o none).stick why
   | .ok (false,seen)=>G0 text s ma seen fr w pc pos hd o (some false)
   | .ok (true,seen)=>G0 text s ma seen fr w (pc+2) (pos+1) hd o none):
  (G0 text s ma seen fr w pc pos hd o none).step=if pos≥text.size then G0 text s ma (seen.add 16) fr w pc pos hd o (some false)else if text.getD pos 0==ww then G0 text s ma (seen.add 16) fr w (pc+2) (pos+1) hd o none else G0 text s ma (seen.add 16) fr w pc pos hd o (some false):=by
 rw [he]
 by_cases h1:pos≥text.size
 ·(rw [if_pos h1,if_pos h1];rfl)
 ·rw [if_neg h1,if_neg h1,h]
  cases text.getD pos 0==ww<;>rfl
theorem Ol:(G0 text s ma seen fr w 12 pos hd o none).step=if pos≥text.size then G0 text s ma (seen.add 16) fr w 12 pos hd o (some false)else if text.getD pos 0==13 then G0 text s ma (seen.add 16) fr w 14 (pos+1) hd o none else G0 text s ma (seen.add 16) fr w 12 pos hd o (some false):=
 Mv text s ma seen fr w pos hd o 12 13 (fun _=>rfl) rfl
theorem Sk:(G0 text s ma seen fr w 14 pos hd o none).step=if pos≥text.size then G0 text s ma (seen.add 16) fr w 14 pos hd o (some false)else if text.getD pos 0==10 then G0 text s ma (seen.add 16) fr w 16 (pos+1) hd o none else G0 text s ma (seen.add 16) fr w 14 pos hd o (some false):=
 Mv text s ma seen fr w pos hd o 14 10 (fun _=>rfl) rfl
theorem Sa:(G0 text s ma seen fr w 19 pos hd o none).step=if pos≥text.size then G0 text s ma (seen.add 16) fr w 19 pos hd o (some false)else if text.getD pos 0==10 then G0 text s ma (seen.add 16) fr w 21 (pos+1) hd o none else G0 text s ma (seen.add 16) fr w 19 pos hd o (some false):=
 Mv text s ma seen fr w pos hd o 19 10 (fun _=>rfl) rfl
theorem WL:(G0 text s ma seen fr w 24 pos hd o none).step=if pos≥text.size then G0 text s ma (seen.add 16) fr w 24 pos hd o (some false)else if text.getD pos 0==13 then G0 text s ma (seen.add 16) fr w 26 (pos+1) hd o none else G0 text s ma (seen.add 16) fr w 24 pos hd o (some false):=
 Mv text s ma seen fr w pos hd o 24 13 (fun _=>rfl) rfl
theorem Wt:(G0 text s ma seen fr w 29 pos hd o none).step=if pos≥text.size then G0 text s ma (seen.add 16) fr w 29 pos hd o (some false)else if text.getD pos 0==10 then G0 text s ma (seen.add 16) fr w 31 (pos+1) hd o none else G0 text s ma (seen.add 16) fr w 29 pos hd o (some false):=
 Mv text s ma seen fr w pos hd o 29 10 (fun _=>rfl) rfl
theorem Ua:(G0 text s ma seen (HB s b) 1 10 s hd b none).step=G0 text s ma (seen.add 7) (nb s b 11::HB s b) 2 12 s s b none:=rfl
theorem Wo(pc pos:Nat):(G0 text s ma seen (nb s b 11::HB s b) 2 pc pos hd o (some false)).step=G0 text s ma seen (nb s b 18::HB s b) 2 19 s s b none:=rfl
theorem Zk(pc pos:Nat):(G0 text s ma seen (nb s b 18::HB s b) 2 pc pos hd o (some false)).step=G0 text s ma seen (nb s b 23::HB s b) 2 24 s s b none:=rfl
theorem Vy:(G0 text s ma seen fr w 16 pos hd o none).step=G0 text s ma (seen.add 15) fr w 35 pos hd o none:=rfl
theorem Wj:(G0 text s ma seen fr w 21 pos hd o none).step=G0 text s ma (seen.add 15) fr w 35 pos hd o none:=rfl
theorem Vk:(G0 text s ma seen fr w 32 pos hd o none).step=G0 text s ma (seen.add 15) fr w 35 pos hd o none:=rfl
theorem Wx(f:Sre.Frame)(hf:fr=[f]):(G0 text s ma seen (f::HB s b) 2 26 pos hd b none).step=G0 text s ma (seen.add 5) (lk pos b::f::HB s b) 3 29 pos pos false none:=rfl
theorem ZP(f:Sre.Frame)(pc p:Nat):(G0 text s ma seen (lk pos b::f::HB s b) 3 pc p hd o (some false)).step=G0 text s ma seen (f::HB s b) 2 32 pos hd b none:=rfl
theorem UN(h:s<pos):(G0 text s ma seen fr w 35 pos hd o none).step=G0 text s ma (seen.add 1) fr w 35 pos pos o (some true):=by
 show(if(o&&((false&&_) || (ma&&(pos==s))))=true then _ else _)=_
 have e:(pos==s)=false:=by simp;exact n5 ‹_›
 rw [e,if_neg (by simp)]
 rfl
end
noncomputable def Tz(text:Array Nat)(s e:Nat)(ma b:Bool)(seen:Sre.Seen):M:={G0 text s ma seen [] 0 10 s e b (some true)with outcome:=some .matched}
theorem YH(text:Array Nat)(s:Nat)(ma:Bool)(seen:Sre.Seen)(pc pos hd:Nat)(b:Bool)(p:Nat):u0 3 (G0 text s ma seen (nb s b p::HB s b) 2 pc pos hd b (some true)) (Tz text s hd ma b seen):= .cons rfl (.cons rfl (.cons rfl (.refl _)))
noncomputable def Z7(text:Array Nat)(p:Nat):Nat:=if text.getD p 0==13&&decide (p+1<text.size)&&text.getD (p+1) 0==10 then 2 else 1
theorem SG(text:Array Nat)(p:Nat)(ma b:Bool)(seen:Sre.Seen)(hp:p<text.size)(hc:(text.getD p 0==10 ||text.getD p 0==13)=true):∃k seen',k<=20∧u0 k (G0 text p ma seen (HB p b) 1 10 p p b none) (Tz text p (p+Z7 text p) ma b seen'):=by
 have tail:∀(sn:Sre.Seen)(q hd pos:Nat),p<pos->u0 4 (G0 text p ma sn (nb p b q::HB p b) 2 35 pos hd b none) (Tz text p pos ma b (sn.add 1)):=fun sn q hd pos h=>by
  refine .cons rfl ?_
  rw [UN text p ma sn _ 2 pos hd b h]
  exact YH ..
 by_cases h13:(text.getD p 0==13)=true
 ·by_cases h2:p+1<text.size∧(text.getD (p+1) 0==10)=true
  ·have el:Z7 text p=2:=by
    unfold Z7
    (rw [if_pos (by rw [h13,h2.2,decide_eq_true h2.1];rfl)];rfl)
   rw [el]
   refine' ⟨4+4,_,by exact u1 rfl,.cons rfl ?_⟩
   rotate_left
   rw [Ua]
   refine .cons rfl ?_
   rw [Ol,if_neg (by exact n7 ‹_›),if_pos h13]
   refine .cons rfl ?_
   rw [Sk,if_neg (by lia),if_pos h2.2]
   refine .cons rfl ?_
   rw [Vy]
   exact tail _ _ _ (p+2) (by exact dL)
  ·have el:Z7 text p=1:=by
    unfold Z7
    (rw [if_neg (by
     rw [h13]
     simp only [Bool.true_and,Bool.and_eq_true,decide_eq_true_eq]
     exact h2)];rfl)
   rw [el]
   have h10:¬(text.getD p 0==10)=true:=fun e=>by
    have a:=eq_of_beq e
    have c:=eq_of_beq h13
    lia
   have f14:∀sn,∃sn',(G0 text p ma sn (nb p b 11::HB p b) 2 14 (p+1) p b none).step=G0 text p ma sn' (nb p b 11::HB p b) 2 14 (p+1) p b (some false):=fun sn=>by
    rw [Sk]
    by_cases h:p+1≥text.size
    ·rw [if_pos h];exact⟨_,rfl⟩
    ·rw [if_neg h,if_neg (fun e=>h2 ⟨by exact n2 ‹_›,e⟩)];exact⟨_,rfl⟩
   have f29:∀sn,∃sn',(G0 text p ma sn (lk (p+1) b::nb p b 23::HB p b) 3 29 (p+1) (p+1) false none).step=G0 text p ma sn' (lk (p+1) b::nb p b 23::HB p b) 3 29 (p+1) (p+1) false (some false):=fun sn=>by
    rw [Wt]
    by_cases h:p+1≥text.size
    ·rw [if_pos h];exact⟨_,rfl⟩
    ·rw [if_neg h,if_neg (fun e=>h2 ⟨by exact n2 ‹_›,e⟩)];exact⟨_,rfl⟩
   refine f8 (f14 (((seen.add 7).add 16))) fun sn1 e1=> ?_
   refine f8 (f29 (((sn1.add 16).add 16).add 5)) fun sn2 e2=> ?_
   refine' ⟨11+4,_,by exact u1 rfl,.cons rfl ?_⟩
   rotate_left
   rw [Ua]
   refine .cons rfl ?_
   rw [Ol,if_neg (by exact n7 ‹_›),if_pos h13]
   refine .cons rfl ?_
   rw [e1]
   refine .cons rfl ?_
   rw [Wo]
   refine .cons rfl ?_
   rw [Sa,if_neg (by exact n7 ‹_›),if_neg h10]
   refine .cons rfl ?_
   rw [Zk]
   refine .cons rfl ?_
   rw [WL,if_neg (by exact n7 ‹_›),if_pos h13]
   refine .cons rfl ?_
   rw [Wx text p ma _ [nb p b 23] (p+1) p b (nb p b 23) rfl]
   refine .cons rfl ?_
   rw [e2]
   refine .cons rfl ?_
   rw [ZP]
   refine .cons rfl ?_
   rw [Vk]
   exact tail _ _ _ (p+1) (by lia)
 ·have h10:(text.getD p 0==10)=true:=by
   rcases(Bool.or_eq_true _ _).mp hc with h |h
   ·exact h
   ·exact absurd h h13
  have el:Z7 text p=1:=by
   unfold Z7
   (rw [if_neg (by simp only [Bool.and_eq_true];exact fun h=>h13 h.1.1)];rfl)
  rw [el]
  refine' ⟨5+4,_,by exact u1 rfl,.cons rfl ?_⟩
  rotate_left
  rw [Ua]
  refine .cons rfl ?_
  rw [Ol,if_neg (by exact n7 ‹_›),if_neg h13]
  refine .cons rfl ?_
  rw [Wo]
  refine .cons rfl ?_
  rw [Sa,if_neg (by exact n7 ‹_›),if_pos h10]
  refine .cons rfl ?_
  rw [Wj]
  exact tail _ _ _ (p+1) (by lia)
noncomputable def N2(text:Array Nat):Nat->Nat->Option Nat
 |0,_=>none
 |f+1,s=>if s≥text.size then none else if text.getD s 0==10 ||text.getD s 0==13 then some s else N2 text f (s+1)
theorem Zt(c:Nat)(seen:Sre.Seen):∃seen',inSet N4 c N4.size 5 true seen= .ok (c==10 ||c==13,seen'):=by
 by_cases h1:(c==10)=true
 ·refine⟨seen.add 16,?_⟩
  rw [h1]
  show(if(c==10)=true then _ else _)=_
  rw [if_pos h1];rfl
 ·by_cases h2:(c==13)=true
  ·refine⟨(seen.add 16).add 16,?_⟩
   rw [h2,Bool.or_true]
   show(if(c==10)=true then _ else if(c==13)=true then _ else _)=_
   rw [if_neg h1,if_pos h2];rfl
  ·refine⟨((seen.add 16).add 16).add 0,?_⟩
   rw [Bool.not_eq_true]at h1 h2
   rw [h1,h2]
   show(if(c==10)=true then _ else if(c==13)=true then _ else _)=_
   rw [if_neg (by rw [h1];decide),if_neg (by rw [h2];decide)];rfl
theorem VC(m:M)(text:Array Nat)(hc:m.code=N4)(ht:m.text=text)(hl:m.lim=text.size):∀(f s:Nat)(seen:Sre.Seen),∃seen',M.admitted m f s seen= .ok (N2 text f s,seen')
 |0,s,seen=>⟨seen,rfl⟩
 |f+1,s,seen=>by
  unfold M.admitted N2
  rw [hl,hc,ht]
  by_cases h:s≥text.size
  ·rw [if_pos h,if_pos h];exact⟨seen,rfl⟩
  ·rw [if_neg h,if_neg h]
   refine f8 (Zt (text.getD s 0) seen) fun sn e=> ?_
   rw [e]
   cases hb:text.getD s 0==10 ||text.getD s 0==13 with
   |true=>exact⟨sn,rfl⟩
   |false=>exact VC m text hc ht hl f (s+1) sn
set_option tactic.hygienic true in
theorem PO(text:Array Nat)(s:Nat)(ma:Bool):∃k m',k<=30∧u0 k (forSearch N4 text 0 s text.size ma) m'∧match N2 text (text.size+1-s) s with
  |some p=>m'.outcome=some .matched∧m'.start=p∧m'.handed=p+Z7 text p
  |none=>m'.outcome=some .failed:=by
 by_cases h:s<text.size
 ·have e:forSearch N4 text 0 s text.size ma=M.attemptFrom {G0 text s ma (({}:Sre.Seen).add 14) [] 0 10 s s true none with lastStart:=text.size} s true:=by
   show(if(decide (s>text.size) ||decide (text.size-s<1))=true then _ else _)=_
   rw [if_neg (by simp;lia)]
   rfl
  rw [e]
  refine f8 (VC {G0 text s ma (({}:Sre.Seen).add 14) [] 0 10 s s true none with lastStart:=text.size} text rfl rfl rfl (text.size+1-s) s (({}:Sre.Seen).add 14)) fun sn ea=> ?_
  have e2:M.attemptFrom {G0 text s ma (({}:Sre.Seen).add 14) [] 0 10 s s true none with lastStart:=text.size} s true=match M.admitted {G0 text s ma (({}:Sre.Seen).add 14) [] 0 10 s s true none with lastStart:=text.size} (text.size+1-s) s (({}:Sre.Seen).add 14)with
   | .ok (some p,seen)=>G0 text p false seen (HB p true) 1 10 p p true none
   | .ok (none,seen)=>G0 text s ma seen [] 0 10 s s true (some false)
   | .error why=>(G0 text s ma (({}:Sre.Seen).add 14) [] 0 10 s s true none).stick why:=rfl
  rw [e2,ea]
  cases hn:N2 text (text.size+1-s) s with
  |none=>exact⟨1,_,by exact u1 rfl,.cons rfl (.refl _),rfl⟩
  |some p=>
   have hp:p<text.size∧(text.getD p 0==10 ||text.getD p 0==13)=true:=by
    have gen:∀(f s:Nat),N2 text f s=some p->p<text.size∧(text.getD p 0==10 ||text.getD p 0==13)=true:=by
     intro f
     induction f with
     |zero=>intro s h;exact on h
     |succ f ih=>
      intro s h
      unfold N2 at h
      split at h
      ·exact on h
      ·split at h
       ·next hb=>(replace h:=(Option.some.inj h).symm;subst h);exact⟨by exact n2 ‹_›,hb⟩
       ·exact ih _ h
    exact gen _ _ hn
   refine o1 (SG text p false true sn hp.1 hp.2) fun k sn' hk hs=> ?_
   exact⟨k,_,by exact u2 ‹_› rfl,hs,rfl,rfl,rfl⟩
 ·have hn:N2 text (text.size+1-s) s=none:=by
   cases hf:text.size+1-s with
   |zero=>rfl
   |succ f=>exact if_pos (by exact n1 ‹_›)
  rw [hn]
  have e:forSearch N4 text 0 s text.size ma={code:=N4,text:=text,lim:=text.size,start:=s,pc:=10,pos:=s,handed:=s,marks:= #[],mustAdvance:=ma,seen:=({}:Sre.Seen).add 14,answer:=some false}:=by
   show(if(decide (s>text.size) ||decide (text.size-s<1))=true then _ else _)=_
   rw [if_pos (by simp;lia)]
   rfl
  rw [e]
  exact⟨1,_,by exact u1 rfl,.cons rfl (.refl _),rfl⟩
end
section
open PySem.Builtin.Re
theorem EG:Slot "re.Pattern" "sub" "re.Pattern.sub":=
 .of (owner:="re.Pattern") (n:="sub") (by rw [typeLookup_type,builtinLookup_eq_fast];kernel_rfl) (by decide+kernel) (by decide+kernel) (by decide+kernel)
  (by first |exact .inl (by decide+kernel) |exact .inr (by decide+kernel)) (by rw [isSubtype_type];kernel_rfl)
theorem MF:typeOf (.builtin "re.Pattern.sub")=pure (.type "method_descriptor"):=by show builtinType _=_;rw [builtinType_eq_fast];kernel_rfl
theorem LT:entryFor table "re.Pattern.sub"=some Builtin.«re.Pattern.sub»:=entryFor_of_tree (by kernel_rfl)
theorem JF:entryFor table "re.Pattern.sub.loop"=some Builtin.«re.Pattern.sub.loop»:=entryFor_of_tree (by kernel_rfl)
theorem EQ:plainId "re.Pattern.sub.loop"=true:=by decide+kernel
theorem Nt(a b c:Value):argsOk "re.Pattern.sub" ⟨[a,b,c],[]⟩:=by unfold argsOk;kernel_rfl
theorem DF:PlainAttrs "re.Pattern":=
 ⟨⟨"object.__getattribute__",by rw [typeLookup_type,builtinLookup_eq_fast];kernel_rfl,by decide+kernel⟩,by rw [typeLookup_type,builtinLookup_eq_fast];kernel_rfl⟩
theorem Jx:typeLookup (.type "str") (Str.ofString "__call__")=pure none:=by rw [typeLookup_type,builtinLookup_eq_fast];kernel_rfl
set_option tactic.hygienic true in
theorem u0.split{a:Nat}:∀{k:Nat}{m m':Sre.M},a<=k->u0 k m m'->u0 (k-a) (m.runFor a) m':=by
 induction a with
 |zero=>intro k m m' _ h;exact h
 |succ a ih=>
  intro k m m' hk h
  cases h with
  |refl m=>lia
  |cons h t=>
   rename_i k
   have:=ih (k:=k) (by exact s6 ‹_›) t
   rw [show k+1-(a+1)=k-a by lia]
   show u0 (k-a) (if _ then _ else _) m'
   rw [if_neg (by rw [h];decide)]
   exact this
theorem u0.alive{k:Nat}{m m':Sre.M}(h:u0 (k+1) m m'):m.outcome.isSome=false:=by
 cases h with
 |cons h _=>exact h
section
variable{M:Model}{A:Around}{E:Value->Shared->Prop}{s:Shared}
theorem Ia{m':Sre.M}{Q:Sre.M->Shared->Prop}(ho:m'.outcome.isSome=true)(hq:Q m' s):∀(t k:Nat)(m:Sre.M),k<=4*t->u0 (k+1) m m'->wpAny M A (reDrive (t+1) m) Q E s
 |0,k,m,hk,h=>by
  have h0:k=0:=by exact aR ‹_›
  subst h0
  unfold reDrive
  have e:m.runFor reTurnSteps=m':=by
   have:=h.run 3
   rw [ES ho]at this
   exact this
  simp only [e,ho,if_true]
  exact wpAny_pure hq
 |t+1,k,m,hk,h=>by
  unfold reDrive
  by_cases h4:k+1<=4
  ·have e:m.runFor reTurnSteps=m':=by
    have:=h.run (4-(k+1))
    rw [ES ho,show k+1+(4-(k+1))=4 by exact ZB ‹_›]at this
    exact this
   simp only [e,ho,if_true]
   exact wpAny_pure hq
  ·have h5:=u0.split (a:=4) (by lia) h
   obtain⟨j,hj⟩:∃j,k+1-4=j+1:=⟨k+1-5,by exact Ys ‹_›⟩
   rw [hj]at h5
   have ha:=h5.alive
   show wpAny M A (if(m.runFor 4).outcome.isSome then pure (m.runFor 4)else do rule "sre.turn";reDrive (t+1) (m.runFor 4)) Q E s
   rw [ha,if_neg (by decide)]
   exact wpAny_bind (wpAny_rule (Ia ho hq t j (m.runFor 4) (by lia) h5))
theorem Cs{c:Nat->Bool}{tag:Nat->String}{Q:PUnit->Shared->Prop}(hq:Q ⟨⟩ s):∀(l:List Nat),wpAny M A (forIn l PUnit.unit fun i _=>do
  if c i then rule (tag i)
  pure (ForInStep.yield PUnit.unit)) Q E s
 | []=>by rw [List.forIn_nil];exact wpAny_pure hq
 |i::r=>by
  rw [forIn_cons]
  refine wpAny_bind ?_
  by_cases h:c i=true
  ·rw [if_pos h]
   exact wpAny_bind (wpAny_rule (wpAny_pure (Cs hq r)))
  ·rw [if_neg h]
   exact wpAny_pure (Cs hq r)
theorem Mg{m':Sre.M}{Q:Sre.M->Shared->Prop}(ho:m'.outcome.isSome=true)(hq:Q m' s){t k:Nat}{m:Sre.M}(hk:k<=4*t)(h:u0 k m m'):wpAny M A (reDrive (t+1) m) Q E s:=by
 cases k with
 |succ k=>exact Ia ho hq t k m (by lia) h
 |zero=>
  cases h
  unfold reDrive
  have e:m'.runFor reTurnSteps=m':=ES ho _
  simp only [e,ho,if_true]
  exact wpAny_pure hq
theorem KJ{m m':Sre.M}{k:Nat}{Q:Option Sre.M->Shared->Prop}(hk:k<=2^60)(h:u0 k m m')(hq:(m'.outcome=some .matched∧Q (some m') s)∨(m'.outcome=some .failed∧Q none s)):wpAny M A (reRunToEnd m) Q E s:=by
 have ho:m'.outcome.isSome=true:=by rcases hq with⟨e,_⟩ |⟨e,_⟩<;>rw [e]<;>rfl
 unfold reRunToEnd
 have hd:=Mg (M:=M) (A:=A) (E:=E) (s:=s) (Q:=fun m'' s'=>m''=m'∧s'=s) ho ⟨rfl,rfl⟩ (t:=2^64-1) (by exact u2 ‹_› rfl) h
 rw [show 2^64-1+1=2^64 by exact aU]at hd
 refine wpAny_bind (wpAny_mono hd (fun m'' s' e=> ?_) fun _ _ e=>e)
 refine b7 e fun ee0 ee1=> ?_
 clear e
 subst ee0
 subst ee1
 refine wpAny_bind (Cs ?_ _)
 rcases hq with⟨e,hq⟩ |⟨e,hq⟩
 ·rw [e];exact wpAny_pure hq
 ·rw [e];exact wpAny_pure hq
end
structure BE(h:Heap)(a:Addr)(code:Array Nat):Prop where
 out:∃fs T tup n,h.get? a=some {cls:= .type "re.Pattern",dict:=none,data:= .fields fs,slots:= #[]}∧fs.getD 5 .none= .ref T∧reRawNat (fs.getD 2 .none)=0∧reRawNat (fs.getD 6 .none)=0∧h.get? T=some tup∧(∃items,tup.data= .seq items n∧(items.map reRawOf).map (·.toNat)=code)
theorem Zf(P:Params):∃fs T tup n items,(KK P).lookup 114=some {cls:= .type "re.Pattern",dict:=none,data:= .fields fs,slots:= #[]}∧fs.getD 5 .none= .ref T∧reRawNat (fs.getD 2 .none)=0∧reRawNat (fs.getD 6 .none)=0∧(KK P).lookup T=some tup∧tup.data= .seq items n∧(items.map reRawOf).map (·.toNat)=X4:=by
 refine⟨#[.str (Str.ofString "(?m)^\\.") 423,.int 40 436,.int 0 0,.none,.none,.ref 113,.int 0 0],113,{cls:= .type "tuple",data:= .seq #[.int 14 0,.int 4 0,.int 0 0,.int 1 0,.int 1 0,.int 6 0,.int 1 0,.int 16 0,.int 46 0,.int 1 0]},0,#[.int 14 0,.int 4 0,.int 0 0,.int 1 0,.int 1 0,.int 6 0,.int 1 0,.int 16 0,.int 46 0,.int 1 0],?_,?_,?_,?_,?_,?_,?_⟩<;>kernel_rfl
theorem Yh(P:Params):∃fs T tup n items,(KK P).lookup 119=some {cls:= .type "re.Pattern",dict:=none,data:= .fields fs,slots:= #[]}∧fs.getD 5 .none= .ref T∧reRawNat (fs.getD 2 .none)=0∧reRawNat (fs.getD 6 .none)=0∧(KK P).lookup T=some tup∧tup.data= .seq items n∧(items.map reRawOf).map (·.toNat)=N4:=by
 refine⟨#[.str (Str.ofString "(?:\\r\\n|\\n|\\r(?!\\n))") 439,.int 32 478,.int 0 0,.none,.none,.ref 118,.int 0 0],118,{cls:= .type "tuple",data:= .seq (N4.map fun(c:Nat)=> .int c 0)},0,N4.map fun(c:Nat)=> .int c 0,?_,?_,?_,?_,?_,?_,?_⟩<;>kernel_rfl
section
variable{M:Model}{A:Around}{E:Value->Shared->Prop}{s:Shared}
theorem FS{a:Addr}{code:Array Nat}(hp:BE s.heap a code){x:Str}{t:Tok}{Q:ReTarget->Shared->Prop}(hq:∀v w,Q ⟨v,w,code,x.cps,0,0,0,x.cps.size⟩ s):wpAny M A (reWholeTarget (.ref a) (.str x t)) Q E s:=by
 refine FO (hp.out) fun fs T tup n h1 h2 h3 h4 h5 rr2=> ?_
 obtain⟨items,h6,h7⟩:=rr2
 unfold reWholeTarget
 refine wpAny_bind (wpAny_fieldsOf h1 rfl ?_)
 show wpAny M A (do
  let want:=reRawNat (fs.getD 6 .none)
  if want==0&&(0:Nat)==1 then raiseError "TypeError" "cannot use a string pattern on a bytes-like object"
  if want==1&&(0:Nat)==0 then raiseError "TypeError" "cannot use a bytes pattern on a string-like object"
  reNoCollectionInside (.str x t) 0
  pure ({pattern:= .ref a,string:= .str x t,code:=(←reRawItems (fs.getD 5 .none)).map (·.toNat),text:=x.cps,kind:=0,groups:=reRawNat (fs.getD 2 .none),pos:=0,lim:=x.cps.size}:ReTarget)) Q E s
 rw [h4,h3,h2]
 show wpAny M A (do
  let is ←reRawItems (.ref T)
  pure ({pattern:= .ref a,string:= .str x t,code:=is.map (·.toNat),text:=x.cps,kind:=0,groups:=0,pos:=0,lim:=x.cps.size}:ReTarget)) Q E s
 unfold reRawItems
 refine wpAny_bind (wpAny_bind (wpAny_seqItems h5 h6 (wpAny_pure (wpAny_pure ?_))))
 show Q ⟨_,_,(items.map reRawOf).map (·.toNat),x.cps,0,0,0,x.cps.size⟩ s
 rw [h7];exact hq _ _
end
end
section
open PySem.Builtin.Re
structure Kg(code:Array Nat)(find:Array Nat->Nat->Option (Nat×Nat)):Prop where
 out:∀(text:Array Nat)(s:Nat)(ma:Bool),text.size<=1000000->∃k m',k<=2^60∧u0 k (Sre.forSearch code text 0 s text.size ma) m'∧match find text s with
  |some (p,e)=>m'.outcome=some .matched∧m'.start=p∧m'.handed=e∧s<=p∧p<e∧e<=text.size
  |none=>m'.outcome=some .failed
noncomputable def D6(text:Array Nat)(s:Nat):Option (Nat×Nat):=(N7 text (text.size+1-s) s).map fun p=>(p,p+1)
noncomputable def D7(text:Array Nat)(s:Nat):Option (Nat×Nat):=(N2 text (text.size+1-s) s).map fun p=>(p,p+Z7 text p)
theorem Z4(text:Array Nat):∀(f s p:Nat),N7 text f s=some p->s<=p∧p<text.size
 |0,s,p,h=>by exact on h
 |f+1,s,p,h=>by
  unfold N7 at h
  split at h
  ·split at h
   ·(replace h:=Option.some.inj h;subst h);exact⟨Nat.le_refl _,by assumption⟩
   ·have:=Z4 text f (s+1) p h;lia
  ·exact on h
theorem Af(text:Array Nat):∀(f s p:Nat),N2 text f s=some p->s<=p∧p<text.size
 |0,s,p,h=>by exact on h
 |f+1,s,p,h=>by
  unfold N2 at h
  split at h
  ·exact on h
  ·split at h
   ·(replace h:=Option.some.inj h;subst h);exact⟨Nat.le_refl _,by exact n2 ‹_›⟩
   ·have:=Af text f (s+1) p h;lia
theorem KY(text:Array Nat)(p:Nat)(h:p<text.size):1<=Z7 text p∧p+Z7 text p<=text.size:=by
 unfold Z7
 by_cases hc:(text.getD p 0==13&&decide (p+1<text.size)&&text.getD (p+1) 0==10)=true
 ·rw [if_pos hc]
  simp only [Bool.and_eq_true,decide_eq_true_eq]at hc
  lia
 ·rw [if_neg hc];lia
theorem TF:Kg N4 D7:=⟨fun text s ma hs=>by
 refine o4 (PO text s ma) fun k m' hk hst hm=> ?_
 refine⟨k,m',by exact u2 ‹_› rfl,hst,?_⟩
 unfold D7
 cases h:N2 text (text.size+1-s) s with
 |none=>rw [h]at hm;exact hm
 |some p=>
  rw [h]at hm
  refine b7 (Af text _ _ _ h) fun h1 h2=> ?_
  refine b7 (KY text p h2) fun h3 h4=> ?_
  exact⟨hm.1,hm.2.1,hm.2.2,h1,by lia,h4⟩⟩
theorem TM:Kg X4 D6:=⟨fun text s ma hs=>by
 unfold D6
 by_cases h:s<text.size
 ·refine Mx (GY text (text.size+1-s) s ma true (({}:Sre.Seen).add 14) (by lia)) fun k ma' b' seen' s' hk hm=> ?_
  cases hn:N7 text (text.size+1-s) s with
  |none=>
   rw [hn]at hm
   have hst:u0 k (Sre.forSearch X4 text 0 s text.size ma) (Ko text s' ma' b' seen'):=by rw [Pf text s ma h];exact hm
   exact⟨k,_,by lia,hst,rfl⟩
  |some p=>
   rw [hn]at hm
   refine b7 (Z4 text _ _ _ hn) fun h1 h2=> ?_
   have hst:u0 k (Sre.forSearch X4 text 0 s text.size ma) (TZ text p ma' b' seen'):=by rw [Pf text s ma h];exact hm
   exact⟨k,_,by lia,hst,rfl,rfl,rfl,h1,by lia,by lia⟩
 ·have hn:N7 text (text.size+1-s) s=none:=by
   cases hf:text.size+1-s with
   |zero=>rfl
   |succ f=>exact if_neg h
  refine a9 (QI text s ma h) fun m' hst rr6=> ?_
  obtain⟨o,ho,rfl⟩:=rr6
  rw [hn]
  exact⟨1,m',by exact u1 rfl,hst,ho⟩⟩
noncomputable def BY(find:Array Nat->Nat->Option (Nat×Nat))(rp:Str)(text:Array Nat):Nat->Nat->List Str
 |0,_=>[]
 |f+1,s=>match find text s with
  |some (p,e)=>(if s<p then [⟨text.extract s p⟩]else [])++rp::BY find rp text f e
  |none=>if s<text.size then [⟨text.extract s text.size⟩]else []
section
variable{B:Bs}{n:Nat}{ls:Ls}{W:Wd}{A:Around}{E:Value->Shared->Prop}
theorem GP{s:Shared}{W':Wd}{a:Addr}{ps:List Str}(hr:RL B W' (ls++[ps.map .str]) s)(hk:W'.ρ[ls.length]? =some a)(hsz:ps.length<=1000000){y:Str}{t:Tok}{Q:Unit->Shared->Prop}(hq:∀s',RL B W' (ls++[(ps++[y]).map .str]) s'->(∀b o,b≠a->s.heap.get? b=some o->s'.heap.get? b=some o)->Q () s'):
  wpAny (model B.prog B.w) A (updateSeq a (·.push (.str y t))) Q E s:=by
 have hL:(ls++[ps.map AV.str])[ls.length]? =some (ps.map .str):=by rw [getElem?_append_right (Nat.le_refl _),Nat.sub_self];rfl
 refine a9 (hr.lists _ _ _ hk hL) fun vals ee1 hv=> ?_
 obtain⟨m,hg⟩:=ee1
 have hvl:vals.length=ps.length:=by(rw [hv.length,length_map];rfl)
 refine wpAny_updateSeq hg rfl ?_ (by rw [size_toArray,sizeLine_eq];exact e8 ‹_› ‹_› rfl) (by rw [Array.size_push,size_toArray,sizeLine_eq];lia)
 have:=hr.setL (s':={s with heap:=s.heap.update a (Obj.mapSeq (·.push (Value.str y t)))}) hk (Heap.SameBut.update ..).extBut (vals:=vals++[Value.str y t]) (vs:=ps.map .str++[.str y]) (by
  have:=PySem.IsL.update hg (fun x=>x.push (Value.str y t))
  refine⟨m+1,?_⟩
  simpa using this) (hv.append (l5.one (a:= .str y) ⟨t,rfl⟩)) rfl rfl
 rw [set_append_right _ _ (Nat.le_refl _),Nat.sub_self]at this
 refine hq _ ?_ fun b o hb e=>((Heap.SameBut.update s.heap a (Obj.mapSeq (·.push (Value.str y t)))).2 b hb).trans e
 rw [map_append]
 exact this
end
end
section
open PySem.Builtin.Re
theorem ZF(text:Array Nat):(⟨text.extract 0 0⟩:Str)=Str.empty:=by simp [Str.empty]
theorem Ep(args:Args):(Code.builtin "re.Pattern.sub.loop" args).quiet=true:=plainId_quiet EQ args
section
variable{B:Bs}{n:Nat}{ls:Ls}{W:Wd}{A:Around}{E:Value->Shared->Prop}
theorem Li{s:Shared}{W':Wd}{a:Addr}{ps:List Str}(hr:RL B W' (ls++[ps.map .str]) s)(hk:W'.ρ[ls.length]? =some a){text:Array Nat}(hok:JoinOk Str.empty ps=true){K:Value->Sem PySem.Fin}{Q:PySem.Fin->Shared->Prop}
  (hq:∀s' t,RL B W' (ls++[ps.map .str]) s'->wpAny (model B.prog B.w) A (K (.str (Txt.join Str.empty ps) t)) Q E s'):
  wpAny (model B.prog B.w) A (do
   let joiner ←reSlice text 0 0 0
   let l ←seqItems? (.ref a)
   if(l.getD #[]).isEmpty=true then do
    let y ←pure joiner
    K y
   else do
    let y ←call (.builtin (if((0:Nat)==0)=true then"str.join" else"bytes.join")) [joiner,.ref a]
    K y) Q E s:=by
 have hL:(ls++[ps.map AV.str])[ls.length]? =some (ps.map .str):=by rw [getElem?_append_right (Nat.le_refl _),Nat.sub_self];rfl
 refine a9 (hr.lists _ _ _ hk hL) fun vals ee1 hv=> ?_
 obtain⟨m,hg⟩:=ee1
 refine a9 (DI hv) fun l ee1 hl2=> ?_
 subst ee1
 refine wpAny_bind (wpAny_mkStr ?_ (by simp [Str.length]))
 rw [ZF]
 refine wpAny_bind (wpAny_seqItems hg rfl ?_)
 show wpAny _ _ (if(strValues l).toArray.isEmpty=true then _ else _) _ _ _
 by_cases h0:ps=[]
 ·subst h0
  have hl0:l=[]:=by simpa using hl2
  subst hl0
  show wpAny _ _ (pure (Value.str Str.empty s.toks)>>=K) _ _ _
  exact wpAny_bind (wpAny_pure (hq _ _ (hr.keepAll (fun _ _ e=>e) rfl rfl)))
 ·rewrite [if_neg]
  ·show wpAny _ _ (call (.builtin "str.join") [.str Str.empty s.toks,.ref a]>>=K) _ _ _
   exact wpAny_bind (SC.join ⟨_,hg,rfl,_,rfl⟩ hl2 hok fun t' k=>hq _ _ (hr.keepAll (fun _ _ e=>e) rfl rfl))
  ·intro e
   apply h0
   rw [←hl2]
   cases l with
   |nil=>rfl
   |cons x r=>simp [strValues]at e
theorem Iq{code:Array Nat}{find:Array Nat->Nat->Option (Nat×Nat)}(F:Kg code find){rp x:Str}(hx:x.cps.size<=10000){pa:Addr}{W':Wd}{a:Addr}(hne:∀s,RL B W' ls s->True)(hpat:∀s L,RL B W' L s->BE s.heap pa code)(hk:W'.ρ[ls.length]? =some a){t u:Tok}{R:Result->Shared->Prop}:
  ∀(fuel start n:Nat)(must:Bool)(ps:List Str)(s:Shared),x.cps.size-start<fuel->start<=x.cps.size->ps.length+2*(x.cps.size-start)<=100000->RL B W' (ls++[ps.map .str]) s->JoinOk Str.empty (ps++BY find rp x.cps fuel start)=true->
   (∀s' t' L,RL B W' (ls++[L]) s'->R (.ok (.ret (.str (Txt.join Str.empty (ps++BY find rp x.cps fuel start)) t'))) s')->
   codeAny (model B.prog B.w) A (.builtin "re.Pattern.sub.loop" ⟨[.ref pa,.str x t,.str rp u,rawInt (0:Nat),rawInt 0,rawInt n,rawInt start,rawInt start,.bool must,.ref a,.bool false],[]⟩) R s
 |0,start,n,must,ps,s,h,_,_,_,_,_=>by lia
 |fuel+1,start,n,must,ps,s,h,hst,hpl,hr,hok,hR=>by
  refine codeAny_builtin JF ?_
  rw [Around.under_plainId EQ _]
  unfold Builtin.«re.Pattern.sub.loop»
  refine wpAny_bind (FS (hpat s _ hr) fun v w=> ?_)
  refine o4 (F.out x.cps start must (by exact u2 ‹_› rfl)) fun k m' hkk hs hm=> ?_
  dsimp only
  rw [if_pos (show(((0:Nat):Int)==0)=true from rfl)]
  refine wpAny_bind (wpAny_of_eq (a:=()) rfl ?_)
  rw [if_neg (show¬((0:Int) !=0&&decide ((n:Int)≥0))=true from by simp)]
  rw [Int.toNat_natCast]
  cases hf:find x.cps start with
  |some pe=>
   obtain⟨p,e⟩:=pe
   rw [hf]at hm
   refine Vo hm fun m1 m2 m3 m4 m5 m6=> ?_
   clear hm
   refine wpAny_bind (KJ hkk hs (.inl ⟨m1,?_⟩))
   dsimp only
   rw [m2,m3]
   rewrite [if_pos (show(((0:Nat):Int)==0)=true from rfl)]
   have hpc:BY find rp x.cps (fuel+1) start=(if start<p then [⟨x.cps.extract start p⟩]else [])++rp::BY find rp x.cps fuel e:=by
    show(match find x.cps start with
     |some (p,e)=>_
     |none=>_)=_
    (rw [hf];rfl)
   rw [hpc]at hok hR
   have tail:∀(eT:List Str)(dR:Shared),eT.length<=ps.length+1->RL B W' (ls++[eT.map .str]) dR->ps++((if start<p then [⟨x.cps.extract start p⟩]else [])++rp::BY find rp x.cps fuel e)=(eT++[rp])++BY find rp x.cps fuel e->
     wpAny (model B.prog B.w) A.in1 (do
      let item ←pure (Value.str rp u)
      if(item !=Value.none)=true then do
       let _ ←updateSeq a fun y=>y.push item
       again (.builtin "re.Pattern.sub.loop" ⟨[.ref pa,.str x t,.str rp u,rawInt (0:Nat),rawInt 0,rawInt ((n:Int)+1),rawInt e,rawInt e,.bool (e==p),.ref a,.bool false],[]⟩)
      else again (.builtin "re.Pattern.sub.loop" ⟨[.ref pa,.str x t,.str rp u,rawInt (0:Nat),rawInt 0,rawInt ((n:Int)+1),rawInt e,rawInt e,.bool (e==p),.ref a,.bool false],[]⟩))
      (fun fin s'=>match fin with
       | .done f=>R (.ok f) s'
       | .again c'=>c'.quiet=true∧codeAny (model B.prog B.w) A c' R s') (fun e s'=>R (.error e) s') dR:=fun eT dR iO iC he=>by
    refine wpAny_bind (wpAny_pure ?_)
    rw [if_pos (show(Value.str rp u !=Value.none)=true from rfl)]
    refine wpAny_bind (GP iC hk (by lia) fun dY fR _=> ?_)
    refine wpAny_pure ⟨Ep _,?_⟩
    rw [he]at hok hR
    refine Iq F hx hne hpat hk fuel e (n+1) (e==p) (eT++[rp]) dY (by exact cG ‹_› ‹_› ‹_› ‹_›) m6 (by simp;lia) fR hok hR
   by_cases hlt:start<p
   ·rw [if_pos hlt]
    refine wpAny_bind (wpAny_mkStr ?_ (by rw [sizeLine_eq];simp [Str.length];exact Yj ‹_› rfl))
    refine wpAny_bind (GP (s:={s with toks:=s.toks+1}) (hr.keepAll (fun _ _ e=>e) rfl rfl) hk (by lia) fun dY fR _=> ?_)
    refine tail (ps++[⟨x.cps.extract start p⟩]) dY (by simp) fR ?_
    rw [if_pos hlt]
    simp
   ·rw [if_neg hlt]
    refine tail ps s (by exact EW) hr ?_
    rw [if_neg hlt]
    simp
  |none=>
   rw [hf]at hm
   refine wpAny_bind (KJ hkk hs (.inr ⟨hm,?_⟩))
   dsimp only
   have hpc:BY find rp x.cps (fuel+1) start=if start<x.cps.size then [⟨x.cps.extract start x.cps.size⟩]else []:=by
    show(match find x.cps start with
     |some (p,e)=>_
     |none=>_)=_
    (rw [hf];rfl)
   rw [hpc]at hok hR
   by_cases hlt:start<x.cps.size
   ·rw [if_pos hlt]
    rw [if_pos hlt]at hok hR
    refine wpAny_bind (wpAny_mkStr ?_ (by rw [sizeLine_eq];simp [Str.length];lia))
    refine wpAny_bind (GP (s:={s with toks:=s.toks+1}) (hr.keepAll (fun _ _ e=>e) rfl rfl) hk (by lia) fun dY fR _=> ?_)
    refine Li fR hk hok fun eJ t' gI=> ?_
    rw [if_neg (by decide)]
    exact wpAny_pure (hR eJ t' _ gI)
   ·rw [if_neg hlt]
    rw [if_neg hlt,append_nil]at hok hR
    refine Li hr hk hok fun eJ t' gI=> ?_
    rw [if_neg (by decide)]
    exact wpAny_pure (hR eJ t' _ gI)
end
end
section
open PySem.Builtin.Re
theorem BE.keeps{h h':Heap}{a:Addr}{code:Array Nat}(x:BE h a code)(k:∀b o,h.get? b=some o->h'.get? b=some o):BE h' a code:=by
 refine FO (x.out) fun fs T tup n h1 h2 h3 h4 h5 r=> ?_
 exact⟨fs,T,tup,n,k _ _ h1,h2,h3,h4,k _ _ h5,r⟩
theorem Ms(r s:Value):reNamed "re.Pattern.sub" "sub" ["repl","string","count"] 2 [r,s] []=pure [some r,some s,none]:=by kernel_rfl
section
variable{B:Bs}{n:Nat}{ls:Ls}{Q:AV->Ls->Prop}
@[reducible] def XT(B:Bs)(n:Nat)(ls:Ls)(Q:AV->Ls->Prop)(pa:Addr)(rp x:Str):Prop:=∀{code:Array Nat}{find:Array Nat->Nat->Option (Nat×Nat)}(F:Kg code find)(hpat:BE B.eB pa code)(hbs:rp.cps.contains 92=false)(hx:x.cps.size<=10000)(hok:JoinOk Str.empty (BY find rp x.cps (x.cps.size+1) 0)=true)(hq:Q (.str (Txt.join Str.empty (BY find rp x.cps (x.cps.size+1) 0))) ls),Spec B n (.builtin "re.Pattern.sub") [.raw (.ref pa),.str rp,.str x] [] ls Q
noncomputable def CT:Uc:=ec fun u=>XT u.b (u.n 0) (u.l 0) u.q (u.n 1) (u.s 0) (u.s 1)
theorem bQ:XT CT.b (CT.n 0) (CT.l 0) CT.q (CT.n 1) (CT.s 0) (CT.s 1):=fun{code}{find} F hpat hbs hx hok hq=> .pos fun W s vals hR hv=>by
 refine o4 hv fun v _ ee2 hv1 rr2=> ?_
 clear hv
 subst ee2
 obtain⟨v2,_,rfl,⟨u,rfl⟩,v3,_,rfl,⟨t,rfl⟩,rfl⟩:=rr2
 obtain rfl:v= .ref (CT.n 1):=hv1
 refine⟨f4 _ _,fun A E Z hA hZ=> ?_⟩
 have hps:=hpat.keeps hR.old
 refine BQ (hps.out) fun fs T tup m g1 _=> ?_
 refine wpAny_call (codeAny_call_builtin EG.plain LT (EG.check _ _ _ _ _ _ _ _ ⟨_,g1,rfl⟩ (Nt _ _ _) ?_))
 show wpAny _ _ (reSubstitute "re.Pattern.sub" "sub" false ⟨[.ref (CT.n 1),.str (CT.s 0) u,.str (CT.s 1) t],[]⟩) _ _ _
 unfold reSubstitute
 dsimp only
 rw [Ms]
 refine wpAny_bind (wpAny_pure ?_)
 dsimp only
 refine wpAny_bind (wpAny_pure ?_)
 refine wpAny_bind (wpAny_specialOf (typeIs_str _ _ _) Jx ?_)
 rw [if_neg (show¬(Option.isSome (none:Option Value))=true from by decide)]
 refine wpAny_bind (wpAny_of_eq (a:=some (CT.s 0)) rfl ?_)
 dsimp only
 refine wpAny_bind (wpAny_pure ?_)
 rw [hbs,if_neg (show¬(Option.isSome (none:Option Value))=true from by decide),if_pos (show(!false)=true from rfl)]
 refine wpAny_bind (wpAny_pure ?_)
 dsimp only
 refine wpAny_bind (wpAny_holding (FS hps fun v w=> ?_))
 rw [if_neg (show¬((0:Int)==1)=true from by decide)]
 refine wpAny_bind (wpAny_newList ?_ (Nat.zero_le _))
 refine b7 (hR.fresh (Nat.le_refl s.heap.objs.size)) fun f1 f2=> ?_
 have r0:RL CT.b W (CT.l 0) {s with heap:=s.heap.push {cls:= .type "list",data:= .seq #[]}}:=hR.keepAll (fun b o e=>Heap.get?_push_of_some _ e) rfl rfl
 have r1:=r0.addL (a:=s.heap.objs.size) (vals:=[]) (vs:=[]) ⟨0,Heap.get?_push_size _ rfl⟩ f1 f2 rfl
 have hlen0:=hR.len
 have hk:(W.addL s.heap.objs.size).ρ[(CT.l 0).length]? =some s.heap.objs.size:=by
  show(W.ρ++[_])[(CT.l 0).length]? =_
  rw [←hlen0,getElem?_append_right (Nat.le_refl _),Nat.sub_self];rfl
 have hloop:=Iq (B:=CT.b) (ls:=(CT.l 0)) (A:=A) F (rp:=(CT.s 0)) (x:=(CT.s 1)) hx (pa:=(CT.n 1)) (W':=W.addL s.heap.objs.size) (a:=s.heap.objs.size) (fun _ _=>trivial) (fun s L h=>hpat.keeps h.old) hk (t:=t) (u:=u)
  (R:=fun r s'=>match r with
   | .ok (.ret v)=>Z v s'
   | .ok _=>False
   | .error e=>E e s') ((CT.s 1).cps.size+1) 0 0 false [] {s with heap:=s.heap.push {cls:= .type "list",data:= .seq #[]}} (by lia) (Nat.zero_le _) (by simp;lia) r1 hok fun s' t' L hr=>by
   refine b7 (hR.cut hr (B0 _ _) (CU _ _)) fun c1 c2=> ?_
   rw [take_left' rfl]at c1
   exact hZ _ s' _ (.str _) (CT.l 0) c2 c1 ⟨t',rfl⟩ hq
 exact wpAny_pure ⟨Ep _,hloop⟩
theorem Ow{B:Bs}{n:Nat}{ls:Ls}{Q:AV->Ls->Prop}{pa:Addr}{rp x:Str}:XT B n ls Q pa rp x:=by with_unfolding_all exact hk (q:=fun u:Uc=>XT u.b (u.n 0) (u.l 0) u.q (u.n 1) (u.s 0) (u.s 1)) bQ (.mk B CT.p CT.f Q CT.v [ls] [n,pa] [] [] [] [] [] [rp,x] [] [] [] [] [] [] [])
end
end
noncomputable def fl(ps:List Str):List Nat:=(ps.map (·.cps.toList)).flatten
theorem J5(p:Str)(r:List Str):fl (p::r)=p.cps.toList++fl r:=rfl
theorem Ax(a b:List Str):fl (a++b)=fl a++fl b:=by simp [fl]
theorem Hi(ps:List Str):(Txt.join Str.empty ps).cps.toList=fl ps:=by
 have gen:∀(l:List Str)(acc:Array Nat),(l.foldl (fun acc p=>acc++Str.empty.cps++p.cps) acc).toList=acc.toList++fl l:=by
  intro l
  induction l with
  |nil=>intro acc;simp [fl]
  |cons p r ih=>intro acc;rw [foldl_cons,ih,J5];simp [Str.empty]
 unfold Txt.join Builtin.Str.glued
 cases ps with
 |nil=>rfl
 |cons p r=>
  show(r.foldl (fun acc p=>acc++Str.empty.cps++p.cps) p.cps).toList=_
  (rw [gen,J5];rfl)
theorem Ak(ps:List Str)(h:(fl ps).length<=1000000):JoinOk Str.empty ps=true:=by
 have gen:∀(l:List Str)(acc:Nat),l.foldl (fun a p=>a+p.length+Str.empty.length) acc=acc+(fl l).length:=by
  intro l
  induction l with
  |nil=>intro acc;simp [fl]
  |cons p r ih=>intro acc;rw [foldl_cons,ih,J5];simp [Str.empty,Str.length];lia
 unfold JoinOk
 rw [Bool.not_eq_true',List.foldl_toArray,gen]
 unfold Builtin.Str.tooLong
 rw [sizeLine_eq]
 simp;exact u2 ‹_› rfl
noncomputable def BB(c:Nat):Bool:=c==10 ||c==13
noncomputable def B9:List Nat->List Nat
 | []=>[]
 | [c]=>if BB c then [13,10]else [c]
 |c::d::r=>if BB c then 13::10::(if c==13&&d==10 then B9 r else B9 (d::r))else c::B9 (d::r)
theorem Kp{c:Nat}(h:BB c=false)(r:List Nat):B9 (c::r)=c::B9 r:=by
 cases r with
 |nil=>simp [B9,h]
 |cons d r=>(rewrite [B9];rw [h]);rfl
noncomputable def dq:Bool->List Nat->List Nat
 |_,[]=>[]
 |b,c::r=>if b&&c==46 then 46::46::dq false r else c::dq (c==10) r
theorem BX{text:Array Nat}{s p:Nat}(h:s<p)(hp:p<=text.size):(text.extract s p).toList=text.toList.getD s 0::(text.extract (s+1) p).toList:=by
 have h2:s<text.toList.length:=by rw [Array.length_toList];exact t1 ‹_› ‹_›
 rw [Array.toList_extract,Array.toList_extract,List.extract_eq_take_drop,List.extract_eq_take_drop,drop_eq_getElem_cons h2]
 rw [show p-s=(p-(s+1))+1 by exact x9 ‹_›,List.take_succ_cons]
 rw [getD_eq_getElem?_getD,getElem?_eq_getElem h2]
 rfl
theorem B3(text:Array Nat)(i:Nat):text.getD i 0=text.toList.getD i 0:=by
 simp [Array.getD,List.getD]
 split<;>simp_all
theorem Am{l:List Nat}{s:Nat}(h:s<l.length):l.drop s=l.getD s 0::l.drop (s+1):=by
 rw [drop_eq_getElem_cons h]
 congr 1
 simp [List.getD,h]
theorem JQ(text:Array Nat)(f s:Nat)(h:text.size<=s):N2 text f s=none:=by
 cases f with
 |zero=>rfl
 |succ f=>exact if_pos h
theorem QL(text:Array Nat)(rp:Str)(hrp:rp.cps.toList=[13,10]):∀(d s F:Nat),text.size-s=d->d<F->fl (BY D7 rp text F s)=B9 (text.toList.drop s):=by
 intro d
 induction d using Nat.strongRecOn with
 |_ d ih=>
 intro s F hd hF
 obtain⟨f,rfl⟩:∃f,F=f+1:=⟨F-1,by lia⟩
 have hpc:BY D7 rp text (f+1) s=match D7 text s with
  |some (p,e)=>(if s<p then [⟨text.extract s p⟩]else [])++rp::BY D7 rp text f e
  |none=>if s<text.size then [⟨text.extract s text.size⟩]else []:=rfl
 by_cases hs:s<text.size
 ·have hl:s<text.toList.length:=by rw [Array.length_toList];exact hs
  have hdc:=Am hl
  by_cases hn:BB (text.getD s 0)=true
  ·have hf:D7 text s=some (s,s+Z7 text s):=by
    unfold D7
    rw [show text.size+1-s=(text.size-s)+1 by exact x5 ‹_›]
    have hn2:(text.getD s 0==10 ||text.getD s 0==13)=true:=hn
    show(if s≥text.size then none else if(text.getD s 0==10 ||text.getD s 0==13)=true then some s else _:Option Nat).map _=_
    rw [if_neg (by exact n7 ‹_›),if_pos hn2];rfl
   rw [hpc,hf]
   show fl ((if s<s then [_]else [])++rp::BY D7 rp text f (s+Z7 text s))=_
   rw [if_neg (Nat.lt_irrefl _),nil_append,J5,hrp]
   obtain⟨w1,w2⟩:=KY text s hs
   rw [ih (text.size-(s+Z7 text s)) (by exact Wr ‹_› ‹_› ‹_›) _ f rfl (by exact VZ ‹_› ‹_› ‹_› ‹_›),hdc,←B3]
   by_cases hw:(text.getD s 0==13&&decide (s+1<text.size)&&text.getD (s+1) 0==10)=true
   ·have ew:Z7 text s=2:=if_pos hw
    simp only [Bool.and_eq_true,decide_eq_true_eq]at hw
    have hl2:s+1<text.toList.length:=by rw [Array.length_toList];exact hw.1.2
    (rw [ew,Am hl2,←B3];rewrite [B9];rw [if_pos hn,hw.1.1,hw.2])
    rfl
   ·have ew:Z7 text s=1:=if_neg hw
    rw [ew]
    cases hr:text.toList.drop (s+1)with
    |nil=>
     have e1:B9 [text.getD s 0]=if BB (text.getD s 0)then [13,10]else [text.getD s 0]:=rfl
     rw [e1,if_pos hn];rfl
    |cons d r=>
     have hl2:s+1<text.toList.length:=by
      refine Nat.lt_of_not_le fun h=> ?_
      rw [drop_eq_nil_of_le h]at hr;exact Hw hr
     have hdd:d=text.getD (s+1) 0:=by
      rw [Am hl2,←B3]at hr
      (refine Jd hr fun h1 h2=> ?_;clear hr;subst h1;subst h2);rfl
     have hsz:s+1<text.size:=by rw [Array.length_toList]at hl2;exact hl2
     (rewrite [B9];rw [if_pos hn];rewrite [if_neg])
     ·rfl
     ·intro e
      apply hw
      rw [hdd]at e
      simp only [Bool.and_eq_true]at e ⊢
      exact⟨⟨e.1,decide_eq_true hsz⟩,e.2⟩
  ·have hn':BB (text.getD s 0)=false:=by simpa using hn
   have hf:D7 text s=D7 text (s+1):=by
    unfold D7
    rw [show text.size+1-s=(text.size-s)+1 by exact x5 ‹_›,show text.size+1-(s+1)=text.size-s by lia]
    congr 1
    show(if s≥text.size then none else if(text.getD s 0==10 ||text.getD s 0==13)=true then some s else N2 text (text.size-s) (s+1))=_
    have hn2:¬(text.getD s 0==10 ||text.getD s 0==13)=true:=hn
    (rw [if_neg (by exact n7 ‹_›),if_neg hn2];rfl)
   have ihs:=ih (text.size-(s+1)) (by exact x1 ‹_› ‹_›) (s+1) (f+1) rfl (by exact x3 ‹_› ‹_›)
   have hpc1:BY D7 rp text (f+1) (s+1)=match D7 text (s+1)with
    |some (p,e)=>(if s+1<p then [⟨text.extract (s+1) p⟩]else [])++rp::BY D7 rp text f e
    |none=>if s+1<text.size then [⟨text.extract (s+1) text.size⟩]else []:=rfl
   (rw [hdc,←B3];rewrite [Kp hn'];rw [←ihs,hpc,hpc1,hf])
   cases hp:D7 text (s+1)with
   |none=>
    show fl (if s<text.size then [_]else [])=_::fl (if s+1<text.size then [_]else [])
    rw [if_pos hs,J5]
    show(text.extract s text.size).toList++[]=_
    rw [append_nil,BX hs (Nat.le_refl _),←B3]
    by_cases h2:s+1<text.size
    ·rw [if_pos h2,J5]
     show _=_::((text.extract (s+1) text.size).toList++[])
     (rw [append_nil];rfl)
    ·rw [if_neg h2]
     have:(text.extract (s+1) text.size).toList=[]:=by(rw [Array.extract_empty_of_stop_le_start (by exact n1 ‹_›)];rfl)
     rw [this];rfl
   |some pe=>
    obtain⟨p,e⟩:=pe
    have hr:=(Af text (text.size+1-(s+1)) (s+1) p (by
     unfold D7 at hp
     cases hq:N2 text (text.size+1-(s+1)) (s+1)with
     |none=>rw [hq]at hp;exact on hp
     |some q=>rw [hq]at hp;cases hp;rfl))
    show fl ((if s<p then [_]else [])++rp::BY D7 rp text f e)=_::fl ((if s+1<p then [_]else [])++rp::BY D7 rp text f e)
    rw [if_pos (by lia),Ax,Ax]
    show(text.extract s p).toList++[]++_=_
    rw [append_nil,BX (by lia) (by lia),←B3]
    by_cases h2:s+1<p
    ·rw [if_pos h2]
     show _=_::((text.extract (s+1) p).toList++[]++_)
     rw [append_nil];rfl
    ·rw [if_neg h2]
     have:(text.extract (s+1) p).toList=[]:=by(rw [Array.extract_empty_of_stop_le_start (by exact n1 ‹_›)];rfl)
     rw [this];rfl
 ·have hf:D7 text s=none:=by
   unfold D7
   rw [JQ _ _ _ (by exact n1 ‹_›)];rfl
  rw [hpc,hf]
  show fl (if s<text.size then _ else [])=_
  rw [if_neg hs,drop_eq_nil_of_le (by rw [Array.length_toList];exact n1 ‹_›)]
  rfl
theorem Ju(text:Array Nat)(f s:Nat)(h:text.size<=s):N7 text f s=none:=by
 cases f with
 |zero=>rfl
 |succ f=>exact if_neg (by exact n6 ‹_›)
theorem IA(text:Array Nat)(s:Nat):Ma text (s+1)=(text.getD s 0==10):=by
 show(s+1==0 ||text.getD (s+1-1) 0==10)=_
 rw [show(s+1==0)=false by exact rfl,Nat.add_sub_cancel];rfl
theorem Ve(text:Array Nat)(rp:Str)(hrp:rp.cps.toList=[46,46]):∀(d s F:Nat),text.size-s=d->d<F->fl (BY D6 rp text F s)=dq (Ma text s) (text.toList.drop s):=by
 intro d
 induction d using Nat.strongRecOn with
 |_ d ih=>
 intro s F hd hF
 obtain⟨f,rfl⟩:∃f,F=f+1:=⟨F-1,by lia⟩
 have hpc:BY D6 rp text (f+1) s=match D6 text s with
  |some (p,e)=>(if s<p then [⟨text.extract s p⟩]else [])++rp::BY D6 rp text f e
  |none=>if s<text.size then [⟨text.extract s text.size⟩]else []:=rfl
 by_cases hs:s<text.size
 ·have hl:s<text.toList.length:=by rw [Array.length_toList];exact hs
  have hdc:=Am hl
  by_cases hn:(Ma text s&&text.getD s 0==46)=true
  ·have hf:D6 text s=some (s,s+1):=by
    unfold D6
    rw [show text.size+1-s=(text.size-s)+1 by exact x5 ‹_›]
    show(if s<text.size then(if(Ma text s&&text.getD s 0==46)=true then some s else _)else none:Option Nat).map _=_
    rw [if_pos hs,if_pos hn];rfl
   rw [hpc,hf]
   show fl ((if s<s then [_]else [])++rp::BY D6 rp text f (s+1))=_
   rw [if_neg (Nat.lt_irrefl _),nil_append,J5,hrp]
   rw [ih (text.size-(s+1)) (by exact x1 ‹_› ‹_›) _ f rfl (by exact x2 ‹_› ‹_› ‹_›),hdc,←B3]
   have e1:dq (Ma text s) (text.getD s 0::text.toList.drop (s+1))=46::46::dq false (text.toList.drop (s+1)):=if_pos hn
   have e2:Ma text (s+1)=false:=by
    simp only [Bool.and_eq_true,beq_iff_eq]at hn
    rw [IA,hn.2];rfl
   rw [e1,e2];rfl
  ·have hf:D6 text s=D6 text (s+1):=by
    unfold D6
    rw [show text.size+1-s=(text.size-s)+1 by exact x5 ‹_›,show text.size+1-(s+1)=text.size-s by lia]
    congr 1
    show(if s<text.size then(if(Ma text s&&text.getD s 0==46)=true then some s else N7 text (text.size-s) (s+1))else none)=_
    (rw [if_pos hs,if_neg hn];rfl)
   have ihs:=ih (text.size-(s+1)) (by exact x1 ‹_› ‹_›) (s+1) (f+1) rfl (by exact x3 ‹_› ‹_›)
   have hpc1:BY D6 rp text (f+1) (s+1)=match D6 text (s+1)with
    |some (p,e)=>(if s+1<p then [⟨text.extract (s+1) p⟩]else [])++rp::BY D6 rp text f e
    |none=>if s+1<text.size then [⟨text.extract (s+1) text.size⟩]else []:=rfl
   have e1:dq (Ma text s) (text.getD s 0::text.toList.drop (s+1))=text.getD s 0::dq (text.getD s 0==10) (text.toList.drop (s+1)):=if_neg hn
   rw [hdc,←B3,e1,←IA,←ihs,hpc,hpc1,hf]
   cases hp:D6 text (s+1)with
   |none=>
    show fl (if s<text.size then [_]else [])=_::fl (if s+1<text.size then [_]else [])
    rw [if_pos hs,J5]
    show(text.extract s text.size).toList++[]=_
    rw [append_nil,BX hs (Nat.le_refl _),←B3]
    by_cases h2:s+1<text.size
    ·rw [if_pos h2,J5]
     show _=_::((text.extract (s+1) text.size).toList++[])
     (rw [append_nil];rfl)
    ·rw [if_neg h2]
     have:(text.extract (s+1) text.size).toList=[]:=by(rw [Array.extract_empty_of_stop_le_start (by exact n1 ‹_›)];rfl)
     rw [this];rfl
   |some pe=>
    obtain⟨p,e⟩:=pe
    have hr:=(Z4 text (text.size+1-(s+1)) (s+1) p (by
     unfold D6 at hp
     cases hq:N7 text (text.size+1-(s+1)) (s+1)with
     |none=>rw [hq]at hp;exact on hp
     |some q=>rw [hq]at hp;cases hp;rfl))
    show fl ((if s<p then [_]else [])++rp::BY D6 rp text f e)=_::fl ((if s+1<p then [_]else [])++rp::BY D6 rp text f e)
    rw [if_pos (by lia),Ax,Ax]
    show(text.extract s p).toList++[]++_=_
    rw [append_nil,BX (by lia) (by lia),←B3]
    by_cases h2:s+1<p
    ·rw [if_pos h2]
     show _=_::((text.extract (s+1) p).toList++[]++_)
     rw [append_nil];rfl
    ·rw [if_neg h2]
     have:(text.extract (s+1) p).toList=[]:=by(rw [Array.extract_empty_of_stop_le_start (by exact n1 ‹_›)];rfl)
     rw [this];rfl
 ·have hf:D6 text s=none:=by
   unfold D6
   rw [Ju _ _ _ (by exact n1 ‹_›)];rfl
  rw [hpc,hf]
  show fl (if s<text.size then _ else [])=_
  rw [if_neg hs,drop_eq_nil_of_le (by rw [Array.length_toList];exact n1 ‹_›)]
  rfl
theorem DU:∀(n:Nat)(l:List Nat),l.length<=n->(B9 l).length<=2*l.length
 |0,l,h=>by
  cases l with
  |nil=>exact Nat.le_refl _
  |cons c r=>exact absurd h (by simp)
 |n+1,[],h=>Nat.le_refl _
 |n+1,[c],h=>by
  show(if BB c then [13,10]else [c]).length<=2
  split<;>simp
 |n+1,c::d::r,h=>by
  have h1:=DU n (d::r) (by simp at h ⊢;assumption)
  have h2:=DU n r (by simp at h ⊢;lia)
  have e:B9 (c::d::r)=if BB c then 13::10::(if c==13&&d==10 then B9 r else B9 (d::r))else c::B9 (d::r):=by(rewrite [B9];rfl)
  rw [e]
  split
  ·split
   ·simp only [length_cons]at h1 h2 ⊢;lia
   ·simp only [length_cons]at h1 h2 ⊢;lia
  ·simp only [length_cons]at h1 h2 ⊢;lia
theorem Jh:∀(b:Bool)(l:List Nat),(dq b l).length<=2*l.length
 |_,[]=>Nat.le_refl _
 |b,c::r=>by
  have h1:=Jh false r
  have h2:=Jh (c==10) r
  have e:dq b (c::r)=if b&&c==46 then 46::46::dq false r else c::dq (c==10) r:=rfl
  rw [e]
  split<;>simp only [length_cons]<;>lia
noncomputable def qd(l:List Nat):List Nat:=dq true (B9 l)
theorem BO(ps:List Str):Txt.join Str.empty ps=⟨(fl ps).toArray⟩:=by
 have h:=Hi ps
 cases hj:Txt.join Str.empty ps with
 |mk c=>
  rw [hj]at h
  congr 1
  exact Array.toList_inj.mp (by(rw [h];rfl))
theorem HX(x rp:Str)(hrp:rp.cps.toList=[13,10]):fl (BY D7 rp x.cps (x.cps.size+1) 0)=B9 x.cps.toList:=by
 rw [QL x.cps rp hrp _ 0 _ rfl (by lia)];rfl
theorem Oo(x rp:Str)(hrp:rp.cps.toList=[46,46]):fl (BY D6 rp x.cps (x.cps.size+1) 0)=dq true x.cps.toList:=by
 rw [Ve x.cps rp hrp _ 0 _ rfl (by lia)];rfl
section
open PySem.Builtin.Re
noncomputable def HI(P:Params):Value:=((nsIn (KK P) mainGlobals (Str.ofString "CRLF")).getD none).getD .none
noncomputable def VL:Value->Tok
 | .str _ t=>t
 |_=>default
theorem MQ(P:Params):HI P= .str (Str.ofString "\r\n") (VL (HI P)):=by kernel_rfl
noncomputable def GQ(P:Params):List (Str×Value):=[(Str.ofString "_twin_re_1",.ref 114),(Str.ofString "_twin_re_2",.ref 119),(Str.ofString "CRLF",HI P)]
theorem Vj(P:Params):Bx (KK P) (GQ P)=true:=by kernel_rfl
structure CtxQ(B:Bs)(P:Params):Prop extends CtxP B P where
 GQ:i7 B (GQ P)
noncomputable def HT:Stmt->Expr
 | .Return (some e) _=>e
 |_=>default
noncomputable def Uz:Expr->Expr
 | .Call (.Attribute o _ _) _ _ _=>o
 |_=>default
noncomputable def XE:Expr->Pos
 | .Call (.Attribute _ _ p) _ _ _=>p
 |_=>default
noncomputable def Qx:Expr->Pos
 | .Call _ _ _ p=>p
 |_=>default
noncomputable def I8(i:Nat):Expr->Expr
 | .Call _ a _ _=>a.getD i default
 |_=>default
noncomputable def AK(P:Params):Expr:=HT ((i6 (KK P) 126).getD 0 (.Pass default))
noncomputable def YB(P:Params):Pos:=match(i6 (KK P) 126).getD 0 (.Pass default)with
 | .Return _ p=>p
 |_=>default
theorem VS(P:Params):i6 (KK P) 126=[.Return (some (AK P)) (YB P)]:=by kernel_rfl
theorem Yb(P:Params):AK P= .Call (.Attribute (Uz (AK P)) (Str.ofString "sub") (XE (AK P))) [I8 0 (AK P),I8 1 (AK P)] [] (Qx (AK P)):=by kernel_rfl
theorem YP(P:Params):I8 1 (AK P)= .Call (.Attribute (Uz (I8 1 (AK P))) (Str.ofString "sub") (XE (I8 1 (AK P)))) [I8 0 (I8 1 (AK P)),I8 1 (I8 1 (AK P))] [] (Qx (I8 1 (AK P))):=by kernel_rfl
theorem RX(P:Params)(env:Env):starEach [I8 0 (AK P),I8 1 (AK P)] env=(false,eval (I8 0 (AK P)) env)::(false,eval (I8 1 (AK P)) env)::[]:=by kernel_rfl
theorem Uu(P:Params)(env:Env)(p:Pos):∀a∈backTo p (starEach [I8 0 (AK P),I8 1 (AK P)] env),a.1=false:=by
 rw [RX]
 intro a ha
 unfold backTo at ha
 simp only [map_cons,map_nil,mem_cons,not_mem_nil,or_false]at ha
 rcases ha with rfl |rfl<;>rfl
theorem cI(P:Params):D1 (KK P) 126 ["data"] []=true:=by kernel_rfl
theorem HO(P:Params):∀vals:List Value,vals.length=1->bindArgs (f3 (KK P) 126) ⟨vals,[]⟩=pure ((["data"]:List Str).zip vals):=fun vals h=>by
 refine f8 (ND h) fun a ee1=> ?_
 subst ee1
 kernel_rfl
theorem ZJ(P:Params):(d6 (GQ P) ["data"] true (f3 (KK P) 126).scope (Uz (AK P)) (.glob (.ref 114))&&d6 (GQ P) ["data"] true (f3 (KK P) 126).scope (Uz (I8 1 (AK P))) (.glob (.ref 119))
 &&d6 (GQ P) ["data"] true (f3 (KK P) 126).scope (I8 0 (AK P)) (.str "..")&&G5 (GQ P) ["data"] true (f3 (KK P) 126).scope [I8 0 (I8 1 (AK P)),I8 1 (I8 1 (AK P))] (.cons (.glob (HI P)) (.cons (.var 0) .nil))
 && !O1 (Uz (AK P))&& !O1 (Uz (I8 1 (AK P)))&&(XE (AK P)).endLine==(Qx (AK P)).line&&(XE (I8 1 (AK P))).endLine==(Qx (I8 1 (AK P))).line)=true:=by kernel_rfl
section
variable{B:Bs}{n:Nat}{G:List (Str×Value)}
theorem Sc(hG:i7 B G){pa:Addr}{code:Array Nat}(hpa:BE B.eB pa code){C:FC}{o:Expr}{ap p:Pos}{args:List Expr}{σ:St}{Q:AV->St->Prop}(hz:O1 o=false)(hlen:args.length<20)(hp:(ap.endLine==p.line)=true)(hplain:∀a∈backTo p (starEach args C.env),a.1=false)
  (ho:d6 G C.Γ C.mine C.env.scope o (.glob (.ref pa))=true)
  (ha:T B n C l5 (spliced (backTo p (starEach args C.env))) σ fun vs σ=>Spec B n (.builtin "re.Pattern.sub") (.raw (.ref pa)::vs) [] σ.lists fun v ls=>Q v ⟨σ.vars,ls⟩):
  T B n C VR (eval (.Call (.Attribute o (Str.ofString "sub") ap) args [] p) C.env) σ Q:=by
 intro W s A E Z hA hR hZ
 have hq:t9 B n (.glob (.ref pa)) σ fun av eG=>av= .raw (.ref pa)∧eG=σ:=JH ⟨rfl,rfl⟩
 refine AJ hz hlen hp hplain (g9 hG _ ho hq W s A _ _ hA hR fun vo dR dX ov dU dW dT dZ dS pl=> ?_)
 refine b7 dS fun ee0 ee1=> ?_
 clear dS
 subst ee0
 subst ee1
 obtain rfl:vo= .ref pa:=dZ
 have hps:=hpa.keeps dT.rl.old
 refine BQ (hps.out) fun fs T tup m g1 _=> ?_
 refine getMethod_builtin ⟨_,g1,rfl⟩ DF EG MF (fun a e=>by cases e;exact⟨_,g1,rfl⟩) ?_
 refine y0 hplain rfl (ha dX dR A _ _ hA dT fun vs dY eE avs eD eF eA eH eC=>wpAny_pure ?_)
 refine b7 (eC _ dY (.ref pa::vs) [] eA.rlF ⟨.ref pa,vs,rfl,rfl,eA.ups eH⟩ rfl) fun k1 k2=> ?_
 exact⟨k1,eA.run hA k2 fun v s' W' x ls' hl hr hv hq'=>hZ v s' W' x _ (Wd.le_trans dW (Wd.le_trans eF hl)) hr hv hq'⟩
theorem Spec.conv{f:Value}{args args':List AV}{ls:Ls}{Q:AV->Ls->Prop}(h:Spec B n f args' [] ls Q)(c:∀W vals,l5 W args vals->l5 W args' vals):Spec B n f args [] ls Q:=
 fun W s vals kvs hR hv hk=>h W s vals kvs hR (c W vals hv) hk
end
theorem RR{B:Bs}{P:Params}(X:(KK P).In B.eB):BE B.eB 114 X4:=by
 refine KB (Zf P) fun fs T tup n items h1 h2 h3 h4 h5 h6 h7=> ?_
 exact⟨fs,T,tup,n,X _ _ h1,h2,h3,h4,X _ _ h5,items,h6,h7⟩
theorem Se{B:Bs}{P:Params}(X:(KK P).In B.eB):BE B.eB 119 N4:=by
 refine KB (Yh P) fun fs T tup n items h1 h2 h3 h4 h5 h6 h7=> ?_
 exact⟨fs,T,tup,n,X _ _ h1,h2,h3,h4,X _ _ h5,items,h6,h7⟩
section
variable{B:Bs}{P:Params}(C:CtxQ B P){K:Nat}{ls:Ls}{Q:AV->Ls->Prop}
include C
@[reducible] def Xw(B:Bs)(P:Params)(K:Nat)(ls:Ls)(Q:AV->Ls->Prop)(x:Str):Prop:=∀(C:CtxQ B P)(hx:x.cps.size<=2500)(hq:Q (.str ⟨(qd x.cps.toList).toArray⟩) ls),Spec B (K+1) (.ref 126) [.str x] [] ls Q
noncomputable def T9:Uc:=ec fun u=>Xw u.b u.p (u.n 0) (u.l 0) u.q (u.s 0)
@[irreducible] noncomputable def K66.x:Str:=(T9.s 0)
omit C in
open K66 in
theorem dA:Xw T9.b T9.p (T9.n 0) (T9.l 0) T9.q x:=fun C hx hq=>by
 intro W s vals kvs hR hv hk
 obtain rfl:kvs=[]:=hk
 refine BM (CC C.X C.lim (cI T9.p)) fun F h1 h2 h3=> ?_
 refine a9 (F.obj) fun o hob hod=> ?_
 have ho:=hR.keep _ _ (hR.base _ _ hob)
 refine⟨fun a e=>by cases e;exact⟨o,_,ho,hod⟩,fun A E Z hA hZ=>wpAny_call ?_⟩
 have hbs:=BindsTo.of_eq (s:=s) (HO T9.p vals (by rw [hv.length];rfl))
 have hold:∀b o,T9.b.eB.get? b=some o->s.heap.get? b=some o:=fun b o e=>hR.keep _ _ (hR.base _ _ e)
 refine codeAny_call_function (by have:=hA.1;lia) ho hod F.co F.gen F.body (F.code.keeps hold) (hbs _ _ _ _ ?_)
 rw [h1]
 refine wpAny_newFunctionEnv_cells F.kind (fun x hx=> ?_) fun env he s' x'=> ?_
 ·have hp:=(of_mem_zip hx).1
  rcases h3 x.1 hp with hk |hk
  ·exact .inl hk
  ·refine f8 (o9 (n:=s.heap.objs.size+1) (acc:=[]) (mem_of_lookup hk)) fun c hc=> ?_
   exact .inr ⟨hk,j0 hc⟩
 subst he
 have hlim:s'.heap.NoLimit:=(F.lim.keeps hold).keeps x'.toInCall.keep
 refine⟨hlim,codeAny_func ?_⟩
 have hf:=S9 F h2 hR hv rfl h3 x'
 rw [VS]
 have hA':Br (T9.n 0) (A.deeper (callEnvC (f3 (KK T9.p) 126) s.heap.objs.size 126)):=hA.deeper
 have ck:=ZJ T9.p
 simp only [Bool.and_eq_true,Bool.not_eq_true']at ck
 refine b7 ck fun ee0 k8=> ?_
 clear ck
 obtain⟨⟨⟨⟨⟨⟨k1,k2⟩,k3⟩,k4⟩,k5⟩,k6⟩,k7⟩:=ee0
 have l1:=DU _ x.cps.toList (Nat.le_refl _)
 have l0:x.cps.toList.length=x.cps.size:=Array.length_toList ..
 have l2:=Jh true (B9 x.cps.toList)
 have hcr:(Str.ofString "\r\n").cps.toList=[13,10]:=by decide+kernel
 have hdd:(Str.ofString "..").cps.toList=[46,46]:=by decide+kernel
 have in1:T T9.b (T9.n 0) ⟨callEnvC (f3 (KK T9.p) 126) s.heap.objs.size 126,(["data"]:List Str)++[],true⟩ VR (eval (I8 1 (AK T9.p)) (callEnvC (f3 (KK T9.p) 126) s.heap.objs.size 126)) ⟨[some (.str x)],(T9.l 0)⟩ fun v σ=>v= .str ⟨(B9 x.cps.toList).toArray⟩∧σ=⟨[some (.str x)],(T9.l 0)⟩:=by
  rw [YP]
  refine Sc C.GQ (Se C.X) k6 (show 2<20 by decide) k8 (u8 k4) k2 ?_
  refine Aa C.GQ _ k4 ?_
  change AU T9.b (T9.n 0) _ ⟨[some (.str x)],(T9.l 0)⟩ _
  walk_at "B!"
  refine Spec.conv (args':=[.raw (.ref 119),.str (Str.ofString "\r\n"),.str x]) ?_ fun W vals h=> ?_
  ·refine Ow TF (Se C.X) (by decide+kernel) (by exact u2 ‹_› rfl) (Ak _ ?_) ?_
   ·rw [HX x _ hcr];lia
   ·rw [BO,HX x _ hcr]
    exact⟨rfl,rfl⟩
  ·refine o4 h fun v _ ee2 hv1 rr11=> ?_
   clear h
   subst ee2
   obtain⟨v2,_,rfl,hv2,r⟩:=rr11
   obtain rfl:v2=HI T9.p:=hv2
   exact⟨v,_,rfl,hv1,_,_,rfl,⟨_,MQ T9.p⟩,r⟩
 have out1:T T9.b (T9.n 0) ⟨callEnvC (f3 (KK T9.p) 126) s.heap.objs.size 126,(["data"]:List Str)++[],true⟩ VR (eval (AK T9.p) (callEnvC (f3 (KK T9.p) 126) s.heap.objs.size 126)) ⟨[some (.str x)],(T9.l 0)⟩ fun v σ=>v= .str ⟨(qd x.cps.toList).toArray⟩∧σ=⟨[some (.str x)],(T9.l 0)⟩:=by
  rw [Yb]
  refine Sc C.GQ (RR C.X) k5 (show 2<20 by decide) k7 (Uu T9.p _ _) k1 ?_
  rw [RX]
  intro W s A E Z hA hR hZ
  have hq1:t9 T9.b (T9.n 0) (.str "..") ⟨[some (.str x)],(T9.l 0)⟩ fun av eG=>av= .str (Str.ofString "..")∧eG=⟨[some (.str x)],(T9.l 0)⟩:=Sj ⟨rfl,rfl⟩
  refine spliced_cons (g9 C.GQ _ k3 hq1 W s A _ _ hA hR fun v dR dX av dU dW dT dZ dS=> ?_)
  refine b7 dS fun ee0 ee1=> ?_
  clear dS
  subst ee0
  subst ee1
  refine spliced_cons (in1 dX dR A _ _ hA dT fun v2 dY eE av eD eF eA eH eC=> ?_)
  refine b7 eC fun ee0 ee1=> ?_
  clear eC
  subst ee0
  subst ee1
  refine wpAny_pure (hZ _ dY eE _ _ (Wd.le_trans dW eF) eA (l5.cons (dZ.mono eF) (l5.cons (as:=[]) (vs:=[]) eH rfl)) ?_)
  refine Ow TM (RR C.X) (by decide+kernel) (by simp;lia) (Ak _ ?_) ?_
  ·rw [Oo _ _ hdd];show(dq true (B9 x.cps.toList)).length<=_;lia
  ·rw [BO,Oo _ _ hdd]
   exact⟨rfl,rfl⟩
 refine wpAny_execs_cons (wpAny_Return_some (out1 W s' _ _ _ hA' hf fun v dR dX av dU dW dT dZ dS=> ?_))
 refine b7 dS fun ee0 ee1=> ?_
 clear dS
 subst ee0
 subst ee1
 refine r5 (V7 hR dT.rl dW dZ (Q:=T9.q) (m9 (vs:=[]) (ls:=(T9.l 0)) rfl hq)) fun W'' av' L' g1 g2 g3 g4=> ?_
 exact hZ _ _ W'' _ _ g1 g2 g3 g4
omit C in
theorem HU{B:Bs}{P:Params}{K:Nat}{ls:Ls}{Q:AV->Ls->Prop}{x:Str}:Xw B P K ls Q x:=by with_unfolding_all exact hk (q:=fun u:Uc=>Xw u.b u.p (u.n 0) (u.l 0) u.q (u.s 0)) dA (.mk B P T9.f Q T9.v [ls] [K] [] [] [] [] [] [x] [] [] [] [] [] [] [])
end
end
theorem LI{α:Type}(xs:List α)(a k:Nat):((List.range k).map (a+ ·)).filterMap (xs[·]?)=(xs.drop a).take k:=by
 have h:=pick_run xs.toArray a k
 simpa using h
theorem P2{α:Type}(xs:List α)(lo hi:Option Int):F7 xs lo hi none=(xs.drop (lo.elim 0 (clipAt xs.length))).take (hi.elim xs.length (clipAt xs.length)-lo.elim 0 (clipAt xs.length)):=by
 unfold F7
 rw [sliceBounds_plain]
 simp only [sliceRange_one,LI]
theorem Kc{α:Type}(xs:List α)(a:Nat):F7 xs (some (a:Int)) none none=xs.drop a:=by
 rw [P2]
 simp only [Option.elim,clipAt_nat]
 rcases Nat.le_total a xs.length with h |h
 ·(rw [Nat.min_eq_left h,take_of_length_le (by simp)];rfl)
 ·rw [Nat.min_eq_right h,List.drop_of_length_le (Nat.le_refl _),List.drop_of_length_le h];simp
theorem Bg{α:Type}(xs:List α)(b:Nat):F7 xs none (some (b:Int)) none=xs.take b:=by
 rw [P2]
 simp only [Option.elim,clipAt_nat,drop_zero,Nat.sub_zero]
 rcases Nat.le_total b xs.length with h |h
 ·(rw [Nat.min_eq_left h];rfl)
 ·(rw [Nat.min_eq_right h,take_length,take_of_length_le h];rfl)
theorem LJ{α:Type}(xs:List α)(a b:Nat)(hab:a<=b)(hb:b<=xs.length):F7 xs (some (a:Int)) (some (b:Int)) none=(xs.drop a).take (b-a):=by
 rw [P2]
 simp only [Option.elim,clipAt_nat]
 (rw [Nat.min_eq_left hb,Nat.min_eq_left (by exact t4 ‹_› ‹_›)];rfl)
theorem HS{α:Type}(x y:α)(xs:List α):F7 (x::xs++[y]) (some 1) (some (-1)) none=xs:=by
 rw [P2]
 have e1:clipAt (x::xs++[y]).length 1=1:=by
  have:=clipAt_nat (x::xs++[y]).length 1
  rw [show((1:Nat):Int)=1 from rfl]at this
  rw [this];simp
 have e2:clipAt (x::xs++[y]).length (-1)=xs.length+1:=by
  have:=clipAt_neg (x::xs++[y]).length 1 (by decide)
  rw [show -((1:Nat):Int)= -1 from rfl]at this
  rw [this];simp
 simp only [Option.elim,e1,e2]
 simp
theorem Cq{α:Type}(xs:List α):F7 xs none none (some (-1))=xs.reverse:=by
 have hb:sliceBounds none none (some (-1)) xs.length=((xs.length:Int)-1,-1,-1):=by
  simp [sliceBounds]
 unfold F7
 rw [hb]
 have hr:sliceRange ((xs.length:Int)-1) (-1) (-1)=(List.range xs.length).map fun k=>xs.length-1-k:=by
  unfold sliceRange
  simp only [show¬((-1:Int)>0) by decide,if_false]
  by_cases h:(xs.length:Int)-1> -1
  ·rw [if_pos h]
   have e:((xs.length:Int)-1 - -1 - -1-1)/(- -1)=(xs.length:Int):=by
    rw [show(- -1:Int)=1 by decide,Int.ediv_one];lia
   rw [e,Int.toNat_natCast]
   apply map_congr_left
   intro k hk
   rw [mem_range]at hk
   exact YL
  ·rw [if_neg h]
   have:xs.length=0:=by lia
   rw [this];rfl
 rw [hr]
 have gen:∀m,m<=xs.length->((List.range m).map fun k=>xs.length-1-k).filterMap (xs[·]?)=(xs.drop (xs.length-m)).reverse:=by
  intro m
  induction m with
  |zero=>intro _;simp
  |succ m ih=>
   intro hm
   rw [range_succ,map_append,List.filterMap_append,ih (by lia)]
   have hlt:xs.length-(m+1)<xs.length:=by exact x7 ‹_›
   rw [drop_eq_getElem_cons hlt,show xs.length-(m+1)+1=xs.length-m by exact x8 ‹_›,List.reverse_cons]
   congr 1
   have:xs.length-1-m=xs.length-(m+1):=by lia
   show([xs.length-1-m]:List Nat).filterMap (xs[·]?)=_
   rw [this,filterMap_cons,getElem?_eq_getElem hlt];rfl
 rw [gen _ (Nat.le_refl _)];simp
section
variable{B:Bs}{n:Nat}{σ:St}
theorem s7{a b:Int}(h:a<b):o2 a b= .int a::o2 (a+1) b:=by
 unfold o2
 rw [show(b-a).toNat=(b-(a+1)).toNat+1 by exact SJ ‹_›,List.range_succ_eq_map,map_cons,map_map]
 congr 1
 ·simp
 ·apply map_congr_left
  intro k _
  show AV.int (a+((k+1:Nat):Int))=_
  congr 1;lia
theorem KD{L:Ls}{vs:List (Option AV)}{F:Fl->St->Prop}{k j:Nat}{xs:List AV}{v:AV}(hk:L[k]? =some xs)(hj:j<xs.length)(hl:xs.length<=1000000)(h:F .next ⟨vs,L.set k (xs.set j v)⟩):
  (match(AV.lst k),AV.int j with
  | .lst k,.int j=>match L[k]? with
   |some xs=>0<=j∧j<xs.length∧xs.length<=1000000∧F .next ⟨vs,L.set k (xs.set j.toNat v)⟩
   |Option.none=>False
  |_,_=>False):=by
 dsimp only
 rw [hk]
 exact⟨by exact c1,by exact c3 ‹_›,hl,by rw [Int.toNat_natCast];exact h⟩
theorem D2{eB:Heap}{k:Nat}{xs:List AV}{l h s:AV}{lo hi st:Option Int}{Q:AV->St->Prop}(hk:σ.lists[k]? =some xs)(e1:AT l=some lo)(e2:AT h=some hi)(e3:AT s=some st)(h0:st≠some 0)(hl:xs.length<=1000000)(hq:Q (.lst σ.lists.length) ⟨σ.vars,σ.lists++[F7 xs lo hi st]⟩):Ba eB (.lst k) l h s σ Q:=by
 exact b8 e1 (b8 e2 (b8 e3 ⟨h0,b8 hk ⟨hl,hq⟩⟩))
end
noncomputable def Z8(p last x:Int):List Int->List Int->List Int
 |a::r,b::t=>((p*a-x*b).fdiv last)::Z8 p last x r t
 |_,_=>[]
noncomputable def j7(p last:Int)(t:List Int):List Int->List Int
 |x::r=>Z8 p last x r t
 | []=>[]
noncomputable def Y0:Nat->Int->List (List Int)->List Int
 |f+1,last,(p::t)::rs=>p::if p=0 then []else Y0 f p (rs.map (j7 p last t))
 |_,_,_=>[]
def Bd(β:Nat)(l:List Int):Prop:=∀x∈l,x.natAbs<2^β
theorem I7{x:Int}{m:Nat}(h:x.natAbs<2^m):Builtin.Int.intBits x<=m:=intBits_le_iff.mpr h
theorem KR{a b:Int}{β:Nat}(h:β<=8000)(ha:a.natAbs<2^β)(hb:b.natAbs<2^β):IntMulOk a b:=IntMulOk.of_le (I7 ha) (I7 hb) (by lia)
theorem Oh{p a x b last:Int}{β:Nat}(hp:p.natAbs<2^β)(ha:a.natAbs<2^β)(hx:x.natAbs<2^β)(hb:b.natAbs<2^β):((p*a-x*b).fdiv last).natAbs<2^(2*β+1):=by
 have h1:∀c d:Int,c.natAbs<2^β->d.natAbs<2^β->(c*d).natAbs<2^(2*β):=fun c d h h'=>by
  rw [Int.natAbs_mul,Nat.two_mul,Nat.pow_add]
  exact Nat.mul_lt_mul'' h h'
 have h2:=h1 p a hp ha
 have h3:=h1 x b hx hb
 rw [Nat.pow_succ]
 have h4:(p*a-x*b).natAbs<=(p*a).natAbs+(x*b).natAbs:=Int.natAbs_sub_le _ _
 generalize p*a-x*b=y at h4 ⊢
 have h5:(y.fdiv last).natAbs<=y.natAbs:=by
  rcases Decidable.em (last=0)with h |h
  ·subst h;simp
  ·rcases Int.lt_or_gt_of_ne h with hl |hl
   ·rw [show y.fdiv last=(-y).fdiv (-last) by(rw [Int.neg_fdiv_neg];rfl)]
    rw [Int.fdiv_eq_ediv_of_nonneg _ (by lia)]
    have:=Int.natAbs_ediv_le_natAbs (-y) (-last)
    rw [Int.natAbs_neg]at this
    exact this
   ·rw [Int.fdiv_eq_ediv_of_nonneg _ (by exact z3 ‹_›)]
    exact Int.natAbs_ediv_le_natAbs _ _
 lia
noncomputable def Ky:o7:=(.cons (.seti (.var 5) (.var 6) (.bin .fdiv (.bin .sub (.bin .mul (.var 4) (.item (.var 5) (.var 6))) (.bin .mul (.item (.var 5) (.var 3)) (.item (.item (.var 0) (.var 3)) (.var 6)))) (.var 2)))
 .nil)
noncomputable def FB:o7:=(.cons (.for (.one 6) (.range (.bin .add (.var 3) (.int 1)) (.call (.glob (.builtin "len")) (.cons (.var 0) .nil))) Ky) .nil)
theorem Av{α:Type}(a:List α)(x:α)(b:List α){s:Nat}(h:a.length=s):(a++x::b)[s]? =some x:=by
 subst h;rw [getElem?_append_right (Nat.le_refl _)];simp
theorem Qw{α:Type}(a:List α)(x y:α)(b:List α){s:Nat}(h:a.length=s):(a++x::b).set s y=a++y::b:=by
 subst h;rw [set_append_right _ _ (Nat.le_refl _)];simp
theorem Uf{α:Type}{L:List α}{k:Nat}{x:α}(h:L[k]? =some x):L.set k x=L:=by
 apply List.ext_getElem?
 intro i
 by_cases e:k=i
 ·subst e;(rw [getElem?_set_self (List.getElem?_eq_some_iff.mp h).1,h];rfl)
 ·(rw [getElem?_set_ne e];rfl)
section
variable{B:Bs}{n:Nat}
@[reducible] def Xa(B:Bs)(n T n0 kh kr s N β:Nat)(p last x:Int)(ks:List Nat)(v5':AV)(F:Fl->St->Prop)(rp tp:List Int):Prop:=∀(hN:N<=1000)(hks:ks[s]? =some kh)(hkl:ks.length=N)(hT:T≠kr)(hh:kh≠kr)(gJ:β<=8000)(h0:last≠0)(hlast:last.natAbs<2^β)(hp:p.natAbs<2^β)(hx:x.natAbs<2^β)(hrp:rp.length=s)(htp:tp.length=s),∀(r t done td:List Int)(j:Nat)(v6:Option AV)(L:Ls),Bd β r->Bd β t->done.length=j->td.length=j->r.length=t.length->s+1+j+r.length=N->
  L[T]? =some (ks.map .lst)->L[kh]? =some ((tp++p::(td++t)).map .int)->L[kr]? =some ((rp++x::(done++r)).map .int)->
  (∀v6,F .next ⟨[some (.lst T),some (.lst n0),some (.int last),some (.int s),some (.int p),some (.lst kr),v6],L.set kr ((rp++x::(done++Z8 p last x r t)).map .int)⟩)->
  A2 (fun _=>True) (.one 6) (d9 B n Ky) (o2 ((s+1+j:Nat):Int) (N:Int)) ⟨[some (.lst T),some (.lst n0),some (.int last),some (.int s),some (.int p),some (.lst kr),v6],L⟩ F
noncomputable def A0:Uc:=ec fun u=>Xa u.b (u.n 0) (u.n 1) (u.n 2) (u.n 3) (u.n 4) (u.n 5) (u.n 6) (u.n 7) (u.i 0) (u.i 1) (u.i 2) (u.d 0) (u.y 0) u.f (u.j 0) (u.j 1)
theorem cP:Xa A0.b (A0.n 0) (A0.n 1) (A0.n 2) (A0.n 3) (A0.n 4) (A0.n 5) (A0.n 6) (A0.n 7) (A0.i 0) (A0.i 1) (A0.i 2) (A0.d 0) (A0.y 0) A0.f (A0.j 0) (A0.j 1):=fun hN hks hkl hT hh gJ h0 hlast hp hx hrp htp=>by
 intro r
 induction r with
 |nil=>
  intro t done td j v6 L _ _ _ _ hlen hNn _ _ h3 hF
  rw [y8 (by simp at hNn;lia)]
  cases t with
  |cons b t=>simp at hlen
  |nil=>
   have:=hF v6
   have e:L.set (A0.n 4) (((A0.j 0)++(A0.i 2)::(done++[])).map .int)=L:=by
    rw [append_nil]at h3 ⊢
    exact Uf h3
   exact⟨trivial,by rw [show Z8 (A0.i 0) (A0.i 1) (A0.i 2) [] []=[]from rfl,e]at this;exact this⟩
 |cons a r ih=>
  intro t done td j v6 L hr ht hd htd hlen hNn h1 h2 h3 hF
  cases t with
  |nil=>simp at hlen
  |cons b t=>
  rw [length_cons]at hNn
  rw [s7 (by lia)]
  refine⟨trivial,?_⟩
  show d9 A0.b (A0.n 0) Ky ⟨[some (.lst (A0.n 1)),some (.lst (A0.n 2)),some (.int (A0.i 1)),some (.int (A0.n 5)),some (.int (A0.i 0)),some (.lst (A0.n 4)),some (.int (((A0.n 5)+1+j:Nat):Int))],L⟩ _
  have ha:=hr a (.head _)
  have hb:=ht b (.head _)
  have lr:(((A0.j 0)++(A0.i 2)::(done++a::r)).map AV.int).length=(A0.n 6):=by simp;lia
  have lh:(((A0.j 1)++(A0.i 0)::(td++b::t)).map AV.int).length=(A0.n 6):=by simp at hlen ⊢;lia
  have i1:t8 L (.lst (A0.n 4)) (.int (((A0.n 5)+1+j:Nat):Int))=some (.int a):=s0 h3 (by
   rw [map_append,map_cons,map_append,map_cons,←cons_append,←append_assoc]
   exact Av _ _ _ (by simp;lia)) (by with_reducible_and_instances exact e8 ‹_› ‹_› rfl)
  have i2:t8 L (.lst (A0.n 4)) (.int ((A0.n 5):Int))=some (.int (A0.i 2)):=s0 h3 (by
   rw [map_append,map_cons]
   exact Av _ _ _ (by simp;with_reducible_and_instances assumption)) (by with_reducible_and_instances exact e8 ‹_› ‹_› rfl)
  have i3:t8 L (.lst (A0.n 1)) (.int ((A0.n 5):Int))=some (.lst (A0.n 3)):=s0 h1 (by rw [getElem?_map,hks];rfl) (by rw [length_map];with_reducible_and_instances exact e8 ‹_› ‹_› rfl)
  have i4:t8 L (.lst (A0.n 3)) (.int (((A0.n 5)+1+j:Nat):Int))=some (.int b):=s0 h2 (by
   rw [map_append,map_cons,map_append,map_cons,←cons_append,←append_assoc]
   exact Av _ _ _ (by simp;lia)) (by with_reducible_and_instances exact e8 ‹_› ‹_› rfl)
  unfold Ky
  walk_at "#Z111%.!"
  with_reducible refine b8 i1 ?_
  refine u4 (KR gJ hp ha) ?_
  walk_at "1!.!"
  with_reducible refine b8 i2 ?_
  walk_at "3.!"
  with_reducible refine b8 i3 ?_
  walk_at "%!"
  with_reducible refine b8 i4 ?_
  refine u4 (KR gJ hx hb) ?_
  walk_at "]%!"
  refine Jv h0 (Nat.lt_of_lt_of_le hlast (Nat.pow_le_pow_right (by decide) (by exact u2 ‹_› rfl))) ?_
  walk_at "%%!"
  refine KD (j:=(A0.n 5)+1+j) h3 (by lia) (by with_reducible_and_instances exact e8 ‹_› ‹_› rfl) ?_
  walk_at "k$!"
  have es:(((A0.j 0)++(A0.i 2)::(done++a::r)).map AV.int).set ((A0.n 5)+1+j) (.int (((A0.i 0)*a-(A0.i 2)*b).fdiv (A0.i 1)))=((A0.j 0)++(A0.i 2)::((done++[((A0.i 0)*a-(A0.i 2)*b).fdiv (A0.i 1)])++r)).map AV.int:=by
   rw [map_append,map_cons,map_append,map_cons,←cons_append,←append_assoc,Qw _ _ _ _ (by simp;lia)]
   simp
  rw [es]
  have hkr:(A0.n 4)<L.length:=(List.getElem?_eq_some_iff.mp h3).1
  have:=ih t (done++[((A0.i 0)*a-(A0.i 2)*b).fdiv (A0.i 1)]) (td++[b]) (j+1) (some (.int (((A0.n 5)+1+j:Nat):Int))) (L.set (A0.n 4) (((A0.j 0)++(A0.i 2)::((done++[((A0.i 0)*a-(A0.i 2)*b).fdiv (A0.i 1)])++r)).map AV.int)) (fun y hy=>hr y (.tail _ hy)) (fun y hy=>ht y (.tail _ hy)) (by simp [hd]) (by simp [htd]) (by exact Nat.succ.inj hlen) (by with_reducible_and_instances exact RZ ‹_›)
   (by rw [getElem?_set_ne (Ne.symm hT)];exact h1) (by rw [getElem?_set_ne (Ne.symm hh),h2];simp) (by(rw [getElem?_set_self hkr];rfl)) (fun v6=>by
    rw [List.set_set]
    have:=hF v6
    rw [show Z8 (A0.i 0) (A0.i 1) (A0.i 2) (a::r) (b::t)=(((A0.i 0)*a-(A0.i 2)*b).fdiv (A0.i 1))::Z8 (A0.i 0) (A0.i 1) (A0.i 2) r t from rfl]at this
    simpa using this)
  exact this
theorem Tb{B:Bs}{n T n0 kh kr s N β:Nat}{p last x:Int}{ks:List Nat}{v5':AV}{F:Fl->St->Prop}{rp tp:List Int}:Xa B n T n0 kh kr s N β p last x ks v5' F rp tp:=by with_unfolding_all exact hk (q:=fun u:Uc=>Xa u.b (u.n 0) (u.n 1) (u.n 2) (u.n 3) (u.n 4) (u.n 5) (u.n 6) (u.n 7) (u.i 0) (u.i 1) (u.i 2) (u.d 0) (u.y 0) u.f (u.j 0) (u.j 1)) cP (.mk B A0.p F A0.q A0.v [] [n,T,n0,kh,kr,s,N,β] [p,last,x] [ks] [] [] [] [] [rp,tp] [] [] [] [v5'] [] [])
end
noncomputable def Rows(L:Ls)(s:Nat):List Nat->List (List Int)->Prop
 | [],[]=>True
 |k::ks,r::rs=>(∃pre:List Int,pre.length=s∧L[k]? =some ((pre++r).map .int))∧Rows L s ks rs
 |_,_=>False
theorem Rows.same{L L':Ls}{s:Nat}:∀{ks:List Nat}{rs:List (List Int)},Rows L s ks rs->(∀k∈ks,L'[k]? =L[k]?)->Rows L' s ks rs
 | [],[],_,_=>trivial
 |k::ks,r::rs,⟨⟨pre,h1,h2⟩,h⟩,hs=>⟨⟨pre,h1,by rw [hs k (.head _)];exact h2⟩,h.same fun j hj=>hs j (.tail _ hj)⟩
 | [],_::_,h,_=>h.elim
 |_::_,[],h,_=>h.elim
theorem Rows.get{L:Ls}{s:Nat}:∀{ks:List Nat}{rs:List (List Int)},Rows L s ks rs->∀k∈ks,∃l:List Int,L[k]? =some (l.map .int)
 | [],[],_,k,h=>by cases h
 |k::ks,r::rs,⟨⟨pre,h1,h2⟩,h⟩,j,hj=>by
  rcases mem_cons.mp hj with rfl |hj
  ·exact⟨_,h2⟩
  ·exact h.get j hj
 | [],_::_,h,_,_=>h.elim
 |_::_,[],h,_,_=>h.elim
theorem Fp(p last x:Int):∀(r t:List Int),r.length=t.length->(Z8 p last x r t).length=t.length
 | [],[],_=>rfl
 |a::r,b::t,h=>by
  have:=Fp p last x r t (by exact Nat.succ.inj h)
  show(_::Z8 p last x r t).length=_
  (rw [length_cons,this,length_cons];rfl)
 | [],_::_,h=>by simp at h
 |_::_,[],h=>by simp at h
theorem DL{p last x:Int}{β:Nat}(hp:p.natAbs<2^β)(hx:x.natAbs<2^β):∀(r t:List Int),Bd β r->Bd β t->Bd (2*β+1) (Z8 p last x r t)
 |a::r,b::t,h1,h2,y,hy=>by
  rcases mem_cons.mp (show y∈_::Z8 p last x r t from hy)with rfl |hy
  ·exact Oh hp (h1 _ (.head _)) hx (h2 _ (.head _))
  ·exact DL hp hx r t (fun z hz=>h1 z (.tail _ hz)) (fun z hz=>h2 z (.tail _ hz)) y hy
 | [],_,_,_,y,hy=>by cases hy
 |_::_,[],_,_,y,hy=>by cases hy
section
variable{B:Bs}{n:Nat}
@[reducible] def XV(B:Bs)(n T n0 kh s N β m w:Nat)(p last:Int)(ks:List Nat)(items:List AV)(F:Fl->St->Prop)(tp t:List Int):Prop:=∀(hN:N<=1000)(hks:ks[s]? =some kh)(hkl:ks.length=N)(gJ:β<=8000)(h0:last≠0)(hlast:last.natAbs<2^β)(hp:p.natAbs<2^β)(htp:tp.length=s)(ht:Bd β t)(htw:t.length=w)(hw:s+1+w=N),∀(kr:List Nat)(rs:List (List Int))(v5 v6:Option AV)(L:Ls),Rows L s kr rs->(∀r∈rs,r.length=w+1∧Bd β r)->kr.Nodup->T∉kr->kh∉kr->m∉kr->
  L[T]? =some (ks.map .lst)->L[kh]? =some ((tp++p::t).map .int)->L[m]? =some items->
  (∀v5 v6 L',L'.length=L.length->(∀k,k∉kr->L'[k]? =L[k]?)->Rows L' (s+1) kr (rs.map (j7 p last t))->F .next ⟨[some (.lst T),some (.lst n0),some (.int last),some (.int s),some (.int p),v5,v6],L'⟩)->
  A2 (fun σ=>σ.lists[m]? =some items) (.one 5) (d9 B n FB) (kr.map .lst) ⟨[some (.lst T),some (.lst n0),some (.int last),some (.int s),some (.int p),v5,v6],L⟩ F
noncomputable def K6:Uc:=ec fun u=>XV u.b (u.n 0) (u.n 1) (u.n 2) (u.n 3) (u.n 4) (u.n 5) (u.n 6) (u.n 7) (u.n 8) (u.i 0) (u.i 1) (u.d 0) (u.a 0) u.f (u.j 0) (u.j 1)
theorem bR:XV K6.b (K6.n 0) (K6.n 1) (K6.n 2) (K6.n 3) (K6.n 4) (K6.n 5) (K6.n 6) (K6.n 7) (K6.n 8) (K6.i 0) (K6.i 1) (K6.d 0) (K6.a 0) K6.f (K6.j 0) (K6.j 1):=fun hN hks hkl gJ h0 hlast hp htp ht htw hw=>by
 intro kr
 induction kr with
 |nil=>
  intro rs v5 v6 L hr _ _ _ _ _ h1 h2 h3 hF
  cases rs with
  |cons r rs=>exact hr.elim
  |nil=>exact⟨h3,hF v5 v6 L rfl (fun _ _=>rfl) trivial⟩
 |cons k kr ih=>
  intro rs v5 v6 L hr hb hnd hT hh hm h1 h2 h3 hF
  cases rs with
  |nil=>exact hr.elim
  |cons r rs=>
  obtain⟨⟨rp,hrp,hk⟩,hr⟩:=hr
  obtain⟨hrw,hrb⟩:=hb r (.head _)
  cases r with
  |nil=>simp at hrw
  |cons x r=>
  rw [nodup_cons]at hnd
  have hTk:(K6.n 1)≠k:=fun e=>hT (e▸ .head _)
  have hhk:(K6.n 3)≠k:=fun e=>hh (e▸ .head _)
  have hmk:(K6.n 7)≠k:=fun e=>hm (e▸ .head _)
  have hkl':k<L.length:=(List.getElem?_eq_some_iff.mp hk).1
  refine⟨h3,?_⟩
  show d9 K6.b (K6.n 0) FB ⟨[some (.lst (K6.n 1)),some (.lst (K6.n 2)),some (.int (K6.i 1)),some (.int (K6.n 4)),some (.int (K6.i 0)),some (.lst k),v6],L⟩ _
  unfold FB
  walk_at "#Y"
  refine Mb ?_
  walk_at "/c,!"
  refine o5 h1 (by rw [length_map];exact e9 ‹_› ‹_› rfl) ?_
  walk_at "c"
  rw [length_map,hkl]
  refine⟨by lia,by lia,by lia,by lia,?_⟩
  have hc:=Tb (B:=K6.b) (n:=(K6.n 0)) (T:=(K6.n 1)) (n0:=(K6.n 2)) (v5':= .none) hN hks hkl hTk hhk gJ h0 hlast hp (hrb x (.head _)) hrp htp (F:=I3 K6.b (K6.n 0) .nil fun f σ=>match f with
   | .next=>A2 (fun σ=>σ.lists[(K6.n 7)]? =some (K6.a 0)) (.one 5) (d9 K6.b (K6.n 0) FB) (kr.map .lst) σ K6.f
   | .cont=>A2 (fun σ=>σ.lists[(K6.n 7)]? =some (K6.a 0)) (.one 5) (d9 K6.b (K6.n 0) FB) (kr.map .lst) σ K6.f
   | .brk=>K6.f .next σ
   | .ret v=>K6.f (.ret v) σ) r (K6.j 1) [] [] 0 v6 L (fun y hy=>hrb y (.tail _ hy)) ht rfl rfl (by simp at hrw;lia) (by simp at hrw;lia) h1 h2 hk (fun v6=> ?_)
  ·exact hc
  ·walk_at "k$!"
   refine ih rs _ v6 _ (hr.same fun j hj=> ?_) (fun r hr=>hb r (.tail _ hr)) hnd.2 (fun h=>hT (.tail _ h)) (fun h=>hh (.tail _ h)) (fun h=>hm (.tail _ h)) ?_ ?_ ?_ fun v5 v6 L' g1 g2 g3=> ?_
   ·have hne:k≠j:=fun e=>hnd.1 (e▸hj)
    exact getElem?_set_ne hne
   ·rw [getElem?_set_ne (Ne.symm hTk)];exact h1
   ·rw [getElem?_set_ne (Ne.symm hhk)];exact h2
   ·rw [getElem?_set_ne (Ne.symm hmk)];exact h3
   ·refine hF v5 v6 L' (by(rw [g1,length_set];rfl)) (fun j hj=> ?_) ⟨⟨rp++[x],by simp [hrp],?_⟩,g3⟩
    ·(rw [g2 j fun h=>hj (.tail _ h)];rewrite [getElem?_set_ne];rfl)
     exact fun e=>hj (e▸ .head _)
    ·rw [g2 k hnd.1,getElem?_set_self hkl']
     simp [j7]
theorem SI{B:Bs}{n T n0 kh s N β m w:Nat}{p last:Int}{ks:List Nat}{items:List AV}{F:Fl->St->Prop}{tp t:List Int}:XV B n T n0 kh s N β m w p last ks items F tp t:=by with_unfolding_all exact Mine.hk (q:=fun u:Uc=>XV u.b (u.n 0) (u.n 1) (u.n 2) (u.n 3) (u.n 4) (u.n 5) (u.n 6) (u.n 7) (u.n 8) (u.i 0) (u.i 1) (u.d 0) (u.a 0) u.f (u.j 0) (u.j 1)) bR (.mk B K6.p F K6.q K6.v [] [n,T,n0,kh,s,N,β,m,w] [p,last] [ks] [] [] [items] [] [tp,t] [] [] [] [] [] [])
end
noncomputable def HH:o7:=(.cons (.asg 4 (.item (.item (.var 0) (.var 3)) (.var 3)))
 (.cons (.expr (.meth (.var 1) "append" (.cons (.var 4) .nil)))
 (.cons (.ite (.cmp (.var 4) .eq (.int 0)) (.cons (.ret (.var 1))
 .nil) .nil)
 (.cons (.for (.one 5) (.list (.slice (.var 0) (.bin .add (.var 3) (.int 1)) .none .none)) FB)
 (.cons (.asg 2 (.var 4))
 .nil)))))
structure NS(L L':Ls)(n0:Nat)(ks:List Nat)(res:List Int):Prop where
 res:L'[n0]? =some (res.map .int)
 keep:∀k,k<n0->k∉ks->L'[k]? =L[k]?
 isInts:∀k∈ks,∃l:List Int,L'[k]? =some (l.map .int)
section
variable{B:Bs}{n:Nat}
@[reducible] def Rc(B:Bs)(n T n0 N:Nat)(ks:List Nat)(F:Fl->St->Prop):Prop:=∀(hN:N<=10)(hkl:ks.length=N)(hnd:ks.Nodup)(hT:T∉ks)(hTn:T<n0)(hkn:∀k∈ks,k<n0),∀(f s β:Nat)(kd kr:List Nat)(rs:List (List Int))(pivs:List Int)(last:Int)(v3 v4 v5 v6:Option AV)(L:Ls),ks=kd++kr->kd.length=s->s+f=N->(β+1)*2^f<=8000->1<=β->Rows L s kr rs->(∀r∈rs,r.length=f∧Bd β r)->last≠0->last.natAbs<2^β->pivs.length=s->
  L[T]? =some (ks.map .lst)->L[n0]? =some (pivs.map .int)->(∀k∈ks,∃l:List Int,L[k]? =some (l.map .int))->
  (∀last' v3 v4 v5 v6 L',NS L L' n0 ks (pivs++Y0 f last rs)->F .next ⟨[some (.lst T),some (.lst n0),some (.int last'),v3,v4,v5,v6],L'⟩)->
  (∀vs L',NS L L' n0 ks (pivs++Y0 f last rs)->F (.ret (.lst n0)) ⟨vs,L'⟩)->
  A2 (fun _=>True) (.one 3) (d9 B n HH) (o2 (s:Int) (N:Int)) ⟨[some (.lst T),some (.lst n0),some (.int last),v3,v4,v5,v6],L⟩ F
noncomputable def l6:Uc:=ec fun u=>Rc u.b (u.n 0) (u.n 1) (u.n 2) (u.n 3) (u.d 0) u.f
theorem aB:Rc l6.b (l6.n 0) (l6.n 1) (l6.n 2) (l6.n 3) (l6.d 0) l6.f:=fun hN hkl hnd hT hTn hkn=>by
 intro f
 induction f with
 |zero=>
  intro s β kd kr rs pivs last v3 v4 v5 v6 L hks hkd hsN _ _ hr _ _ _ _ h1 h2 h3 hF hR
  rw [y8 (by lia)]
  refine⟨trivial,hF last v3 v4 v5 v6 L ⟨?_,fun _ _ _=>rfl,h3⟩⟩
  rw [show Y0 0 last rs=[]from rfl,append_nil];exact h2
 |succ f ih=>
  intro s β kd kr rs pivs last v3 v4 v5 v6 L hks hkd hsN iR gY hr hb h0 hlast hpl h1 h2 h3 hF hR
  have hkrl:kr.length=f+1:=by
   have:=congrArg List.length hks
   rw [length_append,hkl]at this;lia
  cases kr with
  |nil=>simp at hkrl
  |cons kh kr=>
  cases rs with
  |nil=>exact hr.elim
  |cons r rs=>
  obtain⟨⟨tp,htp,hkh⟩,hr⟩:=hr
  obtain⟨hrl,hrb⟩:=hb r (.head _)
  cases r with
  |nil=>simp at hrl
  |cons p t=>
  have hpB:=hrb p (.head _)
  have hsl:s<(l6.n 3):=by exact bJ ‹_›
  have gT:((l6.d 0).map AV.lst)[s]? =some (.lst kh):=by
   rw [hks,map_append,map_cons];exact Av _ _ _ (by simp [hkd])
  have gk:(l6.d 0)[s]? =some kh:=by rw [hks];exact Av _ _ _ hkd
  have hkm:kh∈(l6.d 0):=by rw [hks];simp
  have hTkh:(l6.n 1)≠kh:=fun e=>hT (e▸hkm)
  have hTl:(l6.n 1)<L.length:=(List.getElem?_eq_some_iff.mp h1).1
  have hnl:(l6.n 2)<L.length:=(List.getElem?_eq_some_iff.mp h2).1
  have hnd2:(kd++kh::kr).Nodup:=hks▸hnd
  rw [nodup_append]at hnd2
  obtain⟨_,hnd3,_⟩:=hnd2
  rw [nodup_cons]at hnd3
  have hkr:∀k∈kr,k∈(l6.d 0):=fun k h=>by rw [hks];simp [h]
  rw [s7 (by exact c3 ‹_›)]
  refine⟨trivial,?_⟩
  show d9 l6.b (l6.n 0) HH ⟨[some (.lst (l6.n 1)),some (.lst (l6.n 2)),some (.int last),some (.int (s:Int)),v4,v5,v6],L⟩ _
  have i1:t8 L (.lst (l6.n 1)) (.int (s:Int))=some (.lst kh):=s0 h1 gT (by rw [length_map];with_reducible_and_instances exact e8 ‹_› ‹_› rfl)
  have i2:t8 L (.lst kh) (.int (s:Int))=some (.int p):=s0 hkh (by
   rw [map_append,map_cons];exact Av _ _ _ (by simp [htp])) (by simp at hrl ⊢;lia)
  unfold HH
  walk_at "#Q3.!"
  with_reducible refine b8 i1 ?_
  walk_at "%!"
  with_reducible refine b8 i2 ?_
  walk_at "k#U-!"
  refine F6 (k:=(l6.n 2)) (xs:=pivs.map .int) h2 (by rw [length_map];lia) ?_
  walk_at "dk#XH"
  have ea:pivs.map AV.int++[AV.int p]=(pivs++[p]).map AV.int:=by simp
  rw [ea]
  generalize hL1:L.set (l6.n 2) ((pivs++[p]).map AV.int)=L1
  have l1:L1.length=L.length:=by(rw [←hL1,length_set];rfl)
  have g1:∀k,k≠(l6.n 2)->L1[k]? =L[k]? :=fun k hk=>by(rw [←hL1,getElem?_set_ne (Ne.symm hk)];rfl)
  have g1n:L1[(l6.n 2)]? =some ((pivs++[p]).map AV.int):=by(rw [←hL1,getElem?_set_self hnl];rfl)
  by_cases hp0:p=0
  ·rw [if_pos (by simp [hp0])]
   walk_at "#Ohh!"
   refine hR _ L1 ⟨?_,fun k hk _=>g1 k (by exact n4 ‹_›),fun k hk=> ?_⟩
   ·rw [g1n]
    have:Y0 (f+1) last ((p::t)::rs)=[p]:=by
     show p::(if p=0 then []else _)=_
     (rw [if_pos hp0];rfl)
    (rw [this];rfl)
   ·have:=hkn k hk
    rw [g1 k (by exact n4 ‹_›)];exact h3 k hk
  ·rw [if_neg (by simp [hp0])]
   walk_at "$k#Y"
   refine z5 ?_
   walk_at "7%/**"
   have hT1:L1[(l6.n 1)]? =some ((l6.d 0).map .lst):=by rw [g1 (l6.n 1) (by exact n4 ‹_›)];exact h1
   refine D2 (lo:=some ((s+1:Nat):Int)) (hi:=none) (st:=none) hT1 rfl rfl rfl (by simp) (by rw [length_map];with_reducible_and_instances exact e8 ‹_› ‹_› rfl) ?_
   rw [Kc]
   have ed:((l6.d 0).map AV.lst).drop (s+1)=kr.map AV.lst:=by
    rw [hks,map_append,map_cons,drop_append,drop_eq_nil_of_le (by simp;lia)]
    simp [hkd]
   rw [ed]
   dsimp only
   have hm:(L1++[kr.map AV.lst])[L1.length]? =some (kr.map .lst):=by rw [getElem?_append_right (Nat.le_refl _)];simp
   with_reducible refine b8 hm ?_
   have gm:∀k,k<L.length->(L1++[kr.map AV.lst])[k]? =L1[k]? :=fun k hk=>getElem?_append_left (by lia)
   have hklt:∀k∈(l6.d 0),k<L.length:=fun k hk=>by have:=hkn k hk;exact t3 ‹_› ‹_›
   have hkn1:∀k∈(l6.d 0),(L1++[kr.map AV.lst])[k]? =L[k]? :=fun k hk=>by
    have:=hkn k hk
    (rw [gm k (by exact t3 ‹_› ‹_›),g1 k (by exact n4 ‹_›)];rfl)
   have gJ:β<=8000:=by
    have:1<=2^(f+1):=Nat.one_le_two_pow
    have:=Nat.mul_le_mul_left (β+1) this
    lia
   have hrow:=SI (B:=l6.b) (n:=(l6.n 0)) (T:=(l6.n 1)) (n0:=(l6.n 2)) (kh:=kh) (s:=s) (N:=(l6.n 3)) (β:=β) (m:=L1.length) (w:=f) (p:=p) (last:=last) (ks:=(l6.d 0)) (items:=kr.map .lst) (by exact u2 ‹_› rfl) gk hkl gJ h0 hlast hpB
    (F:=I3 l6.b (l6.n 0) (.cons (.asg 2 (.var 4)) .nil) fun f σ=>match f with
     | .next=>A2 (fun _=>True) (.one 3) (d9 l6.b (l6.n 0) HH) (o2 ((s:Int)+1) ((l6.n 3):Int)) σ l6.f
     | .cont=>A2 (fun _=>True) (.one 3) (d9 l6.b (l6.n 0) HH) (o2 ((s:Int)+1) ((l6.n 3):Int)) σ l6.f
     | .brk=>l6.f .next σ
     | .ret v=>l6.f (.ret v) σ) htp (fun y hy=>hrb y (.tail _ hy)) (t:=t) (by exact Nat.succ.inj hrl) (by with_reducible_and_instances exact RZ ‹_›) kr rs v5 v6 (L1++[kr.map .lst])
    (hr.same fun k hk=>hkn1 k (hkr k hk)) (fun r hr=>hb r (.tail _ hr)) hnd3.2 (fun h=>hT (hkr _ h)) hnd3.1 (fun h=>by have:=hklt _ (hkr _ h);lia)
    (by rw [gm (l6.n 1) hTl];exact hT1) (by rw [hkn1 kh hkm];exact hkh) hm (fun v5 v6 L' q1 q2 q3=> ?_)
   ·exact hrow
   ·walk_at "k#N!k$!"
    have hpiv:Y0 (f+1) last ((p::t)::rs)=p::Y0 f p (rs.map (j7 p last t)):=by
     show p::(if p=0 then []else _)=_
     (rw [if_neg hp0];rfl)
    have hlow:∀k,k<(l6.n 2)->k∉(l6.d 0)->L'[k]? =L[k]? :=fun k hk hks'=>by
     (rw [q2 k (fun h=>hks' (hkr k h)),gm k (by exact t3 ‹_› ‹_›),g1 k (by exact n4 ‹_›)];rfl)
    have comp:∀L'',NS L' L'' (l6.n 2) (l6.d 0) (pivs++[p]++Y0 f p (rs.map (j7 p last t)))->NS L L'' (l6.n 2) (l6.d 0) (pivs++Y0 (f+1) last ((p::t)::rs)):=fun L'' G=>by
     rw [hpiv]
     exact⟨by rw [G.res];simp,fun k hk hks'=>by(rw [G.keep k hk hks',hlow k hk hks'];rfl),G.isInts⟩
    have hn0kr:(l6.n 2)∉kr:=fun h=>by have:=hkn _ (hkr _ h);lia
    have:=ih (s+1) (2*β+1) (kd++[kh]) kr (rs.map (j7 p last t)) (pivs++[p]) p (some (.int (s:Int))) (some (.int p)) v5 v6 L' (by rw [hks];simp) (by simp [hkd]) (by with_reducible_and_instances exact RZ ‹_›) (by
      have e:(2*β+1+1)*2^f=(β+1)*2^(f+1):=by(rw [Nat.pow_succ,←Nat.mul_assoc,show 2*β+1+1=(β+1)*2 by lia,Nat.mul_assoc];rewrite [Nat.mul_comm 2];rw [←Nat.mul_assoc];rfl)
      with_reducible_and_instances exact e8 ‹_› ‹_› rfl) (by lia) q3 (fun r' hr'=>by
      obtain⟨r,hr2,rfl⟩:=mem_map.mp hr'
      obtain⟨u1,u2⟩:=hb r (.tail _ hr2)
      cases r with
      |nil=>simp at u1
      |cons x r=>
       have hlt:r.length=t.length:=by simp at u1 hrl;lia
       refine⟨?_,DL hpB (u2 x (.head _)) r t (fun y hy=>u2 y (.tail _ hy)) (fun y hy=>hrb y (.tail _ hy))⟩
       show(Z8 p last x r t).length=f
       rw [Fp _ _ _ _ _ hlt];exact Nat.succ.inj hrl) hp0 (Nat.lt_of_lt_of_le hpB (Nat.pow_le_pow_right (by decide) (by lia))) (by simp [hpl])
     (by rw [q2 (l6.n 1) (fun h=>hT (hkr _ h)),gm (l6.n 1) hTl];exact hT1) (by rw [q2 (l6.n 2) hn0kr,gm (l6.n 2) hnl];exact g1n)
     (fun k hk=>by
      by_cases hkk:k∈kr
      ·exact q3.get k hkk
      ·rw [q2 k hkk,hkn1 k hk];exact h3 k hk)
     (fun last v3 v4 v5 v6 L'' G=>hF last v3 v4 v5 v6 L'' (comp L'' G)) (fun vs L'' G=>hR vs L'' (comp L'' G))
    exact this
theorem QS{B:Bs}{n T n0 N:Nat}{ks:List Nat}{F:Fl->St->Prop}:Rc B n T n0 N ks F:=by with_unfolding_all exact hk (q:=fun u:Uc=>Rc u.b (u.n 0) (u.n 1) (u.n 2) (u.n 3) (u.d 0) u.f) aB (.mk B l6.p F l6.q l6.v [] [n,T,n0,N] [] [ks] [] [] [] [] [] [] [] [] [] [] [])
end
theorem Bk(k:Nat)(l:List Int):l8 k (l.map .int)=true:=by
 rewrite [G9]
 intro a ha
 obtain⟨i,_,rfl⟩:=mem_map.mp ha;rfl
section
variable{B:Bs}{P:Params}(C:Ctx B P){n:Nat}{ls:Ls}{Q:AV->Ls->Prop}
include C
theorem NK{T β:Nat}{ks:List Nat}{tab:List (List Int)}(hT:ls[T]? =some (ks.map .lst))(hTk:T∉ks)(hnd:ks.Nodup)(hN:ks.length<=10)(gY:1<=β)(gJ:(β+1)*2^ks.length<=8000)(hr:Rows ls 0 ks tab)(hb:∀r∈tab,r.length=ks.length∧Bd β r)
  (hq:∀L',L'.length=ls.length->(∀k,k∉ks->L'[k]? =ls[k]?)->Q (.lst ls.length) (L'++[(Y0 ks.length 1 tab).map .int])):Spec B (n+1) (.ref 175) [.lst T] [] ls Q:=by
 refine y7 C (DT P) (Dx P) rfl (Gr P) ?_
 unfold AH
 change d9 _ _ _ ⟨[some (.lst T),none,none,none,none,none,none],ls⟩ _
 have hTl:T<ls.length:=(List.getElem?_eq_some_iff.mp hT).1
 have hkl:∀k∈ks,k<ls.length:=fun k hk=>by
  obtain⟨l,e⟩:=hr.get k hk
  exact(List.getElem?_eq_some_iff.mp e).1
 walk_at "#Q9!B!ik#N!k#Y"
 refine C6 ?_
 have hl0:∀k,k<ls.length->(ls++[[]])[k]? =ls[k]? :=fun k hk=>getElem?_append_left hk
 walk_at ",!"
 refine o5 (xs:=ks.map .lst) (by rw [hl0 T hTl];exact hT) (by rw [length_map];exact u3 ‹_› rfl) ?_
 walk_at "c"
 rw [length_map]
 refine⟨by lia,by lia,?_⟩
 have fin:∀vs L',NS (ls++[[]]) L' ls.length ks (Y0 ks.length 1 tab)->D8 ls Q (.ret (.lst ls.length)) ⟨vs,L'⟩:=fun vs L' G=>by
  have hlt:ls.length<L'.length:=(List.getElem?_eq_some_iff.mp G.res).1
  refine⟨Nat.le_refl _,_,G.res,Bk _ _,fun k l hk h=> ?_,?_⟩
  ·by_cases hm:k∈ks
   ·obtain⟨l',e⟩:=G.isInts k hm
    rw [e]at h;(replace h:=Option.some.inj h;subst h)
    exact .inr (Bk _ _)
   ·rw [G.keep k hk hm,hl0 k hk]at h;exact .inl h
  ·refine hq (L'.take ls.length) (by rw [length_take];lia) fun k hk=> ?_
   by_cases hkl':k<ls.length
   ·(rw [getElem?_take_of_lt hkl',G.keep k hkl' hk,hl0 k hkl'];rfl)
   ·(rw [getElem?_eq_none (by rw [length_take];lia),getElem?_eq_none (by exact n1 ‹_›)];rfl)
 have:=QS (B:=B) (n:=n) (T:=T) (n0:=ls.length) (N:=ks.length) (ks:=ks) hN rfl hnd hTk hTl hkl (F:=I3 B n (.cons (.ret (.var 1)) .nil) (D8 ls Q)) ks.length 0 β [] ks tab [] 1 none none none none (ls++[[]]) rfl rfl (by exact Pq) gJ gY (hr.same fun k hk=>hl0 k (hkl k hk)) hb (by decide) (Nat.lt_of_lt_of_le (by decide) (Nat.pow_le_pow_right (by decide) gY)) rfl (by rw [hl0 T hTl];exact hT) (by rw [getElem?_append_right (Nat.le_refl _)];simp)
  (fun k hk=>by
   obtain⟨l,e⟩:=hr.get k hk
   exact⟨l,by rw [hl0 k (hkl k hk)];exact e⟩) (fun last v3 v4 v5 v6 L' G=>by
   walk_at "k#Oh"
   exact fin _ L' G) (fun vs L' G=>fin vs L' G)
 exact this
end
noncomputable def A4(l:List Nat):List AV:=l.map fun(o:Nat)=>AV.int o
noncomputable def CA(h:List Int)(row:List Nat)(pr:Int):Int:=row.foldl (fun acc o=>acc*h.getD o 0^2) pr
noncomputable def CJ(h:List Int)(cs:List (List Nat×Int))(sums:List Int):List Int:=cs.foldl (fun s c=>s.set c.1.length (s.getD c.1.length 0+CA h c.1 c.2)) sums
noncomputable def Z2(h:List Int)(place:Nat)(c:List Nat×Int):List Nat×Int:=(c.1++[place],CA h c.1 c.2)
noncomputable def Ef:List (List Int)->Nat->List (List Nat×Int)->List Int->List Int
 | [],_,_,sums=>sums
 |h::H,place,cs,sums=>Ef H (place+1) (cs++cs.map (Z2 h place)) (CJ h cs sums)
noncomputable def Ch(L:Ls)(ex:List Nat):List AV->List (List Nat×Int)->Prop
 | [],[]=>True
 |it::items,c::cs=>(∃k,it= .tup [.lst k,.int c.2]∧L[k]? =some (A4 c.1)∧k∉ex)∧Ch L ex items cs
 |_,_=>False
theorem Ch.same{L L':Ls}{ex:List Nat}:∀{items:List AV}{cs:List (List Nat×Int)},Ch L ex items cs->(∀k,k<L.length->k∉ex->L'[k]? =L[k]?)->Ch L' ex items cs
 | [],[],_,_=>trivial
 |it::items,c::cs,⟨⟨k,h1,h2,h3⟩,h⟩,hs=>⟨⟨k,h1,by rw [hs k (List.getElem?_eq_some_iff.mp h2).1 h3];exact h2,h3⟩,h.same hs⟩
 | [],_::_,h,_=>h.elim
 |_::_,[],h,_=>h.elim
theorem Ch.weak{L:Ls}{ex ex':List Nat}:∀{items:List AV}{cs:List (List Nat×Int)},Ch L ex items cs->(∀k∈ex',k<L.length->k∈ex)->Ch L ex' items cs
 | [],[],_,_=>trivial
 |it::items,c::cs,⟨⟨k,h1,h2,h3⟩,h⟩,hs=>⟨⟨k,h1,h2,fun hk=>h3 (hs k hk (List.getElem?_eq_some_iff.mp h2).1)⟩,h.weak hs⟩
 | [],_::_,h,_=>h.elim
 |_::_,[],h,_=>h.elim
theorem Ch.app{L:Ls}{ex:List Nat}:∀{items:List AV}{cs:List (List Nat×Int)}{items':List AV}{cs':List (List Nat×Int)},Ch L ex items cs->Ch L ex items' cs'->Ch L ex (items++items') (cs++cs')
 | [],[],_,_,_,h=>h
 |it::items,c::cs,_,_,⟨h1,h⟩,h'=>⟨h1,h.app h'⟩
 | [],_::_,_,_,h,_=>h.elim
 |_::_,[],_,_,h,_=>h.elim
theorem Ch.len{L:Ls}{ex:List Nat}:∀{items:List AV}{cs:List (List Nat×Int)},Ch L ex items cs->items.length=cs.length
 | [],[],_=>rfl
 |it::items,c::cs,⟨_,h⟩=>by(rw [length_cons,length_cons,h.len];rfl)
 | [],_::_,h=>h.elim
 |_::_,[],h=>h.elim
noncomputable def Lh:o7:=(.cons (.asg 6 (.bin .mul (.var 6) (.bin .pow (.item (.item (.var 0) (.var 3)) (.var 7)) (.int 2))))
 .nil)
noncomputable def Ge:o7:=(.cons (.for (.one 7) (.list (.var 5)) Lh)
 (.cons (.seti (.var 1) (.call (.glob (.builtin "len")) (.cons (.var 5) .nil)) (.bin .add (.item (.var 1) (.call (.glob (.builtin "len")) (.cons (.var 5) .nil))) (.var 6)))
 (.cons (.expr (.meth (.var 4) "append" (.cons (.tup (.cons (.bin .add (.var 5) (.list (.cons (.var 3) .nil))) (.cons (.var 6) .nil))) .nil)))
 .nil)))
noncomputable def IR:o7:=(.cons (.asg 4 (.list .nil))
 (.cons (.for (.two 5 6) (.list (.var 2)) Ge)
 (.cons (.asg 2 (.bin .add (.var 2) (.var 4)))
 .nil)))
theorem Pt{x:Int}(h:x.natAbs<2^32):Builtin.Int.intBits (x^2)<=64:=by
 refine I7 ?_
 rw [show x^2=x*x by(rw [Int.pow_succ,Int.pow_succ,Int.pow_zero,Int.one_mul];rfl),Int.natAbs_mul,show 2^64=2^32*2^32 by decide]
 exact Nat.mul_lt_mul'' h h
theorem getD_some{l:List Int}{i:Nat}(h:i<l.length):l[i]? =some (l.getD i 0):=by
 rw [getD_eq_getElem?_getD,getElem?_eq_getElem h];rfl
section
variable{B:Bs}{n:Nat}
theorem TP{H n1 kc place kg k hp:Nat}{L:Ls}{hk:List Nat}{h:List Int}{items0:List AV}(hH:L[H]? =some (hk.map .lst))(hkl:hk.length<=1000)(hpl:hk[place]? =some hp)(hh:L[hp]? =some (h.map .int))(hhl:h.length<=1000)(hhb:Bd 32 h)(hi0:L[k]? =some items0){F:Fl->St->Prop}:
  ∀(row:List Nat)(pr:Int)(v7:Option AV),(∀o∈row,o<h.length)->
  (∀v7,F .next ⟨[some (.lst H),some (.lst n1),some (.lst kc),some (.int (place:Int)),some (.lst kg),some (.lst k),some (.int (CA h row pr)),v7],L⟩)->
  A2 (fun σ=>σ.lists[k]? =some items0) (.one 7) (d9 B n Lh) (A4 row) ⟨[some (.lst H),some (.lst n1),some (.lst kc),some (.int (place:Int)),some (.lst kg),some (.lst k),some (.int pr),v7],L⟩ F:=by
 intro row
 induction row with
 |nil=>intro pr v7 _ hF;exact⟨hi0,hF v7⟩
 |cons o row ih=>
  intro pr v7 ho hF
  have ho1:=ho o (.head _)
  refine⟨hi0,?_⟩
  show d9 B n Lh ⟨[some (.lst H),some (.lst n1),some (.lst kc),some (.int (place:Int)),some (.lst kg),some (.lst k),some (.int pr),some (.int (o:Int))],L⟩ _
  have hpk:=(List.getElem?_eq_some_iff.mp hpl).1
  have i1:t8 L (.lst H) (.int (place:Int))=some (.lst hp):=s0 hH (by rw [getElem?_map,hpl];rfl) (by rw [length_map];exact u2 ‹_› rfl)
  have i2:t8 L (.lst hp) (.int (o:Int))=some (.int (h.getD o 0)):=s0 hh (by rw [getElem?_map,getD_some ho1];rfl) (by rw [length_map];exact u2 ‹_› rfl)
  have hb:=hhb (h.getD o 0) (mem_of_getElem? (getD_some ho1))
  unfold Lh
  walk_at "#Q1!%1!3.!"
  with_reducible refine b8 i1 ?_
  walk_at "%!"
  with_reducible refine b8 i2 ?_
  walk_at "&!"
  refine Fx (by decide) (by have:=I7 hb;lia) ?_
  refine u4 (IntMulOk.of_right (Pt hb)) ?_
  walk_at "k$!"
  exact ih _ _ (fun o ho'=>ho o (.tail _ ho')) hF
end
theorem Fr(a b:List Nat):A4 (a++b)=A4 a++A4 b:=by simp [A4]
theorem L5(a:List Nat):(A4 a).length=a.length:=by simp [A4]
section
variable{B:Bs}{n:Nat}
@[reducible] def Xm(B:Bs)(n H n1 kc place kg hp:Nat)(hk:List Nat)(h:List Int)(items0:List AV)(F:Fl->St->Prop):Prop:=∀(hkl:hk.length<=1000)(hpl:hk[place]? =some hp)(hhl:h.length<=1000)(hhb:Bd 32 h)(e1:H≠n1)(e2:H≠kg)(e3:hp≠n1)(e4:hp≠kg)(e5:kc≠n1)(e6:kc≠kg)(e7:n1≠kg),∀(cs:List (List Nat×Int))(items gitems:List AV)(gr:List (List Nat×Int))(sums:List Int)(v5 v6 v7:Option AV)(L:Ls),Ch L [n1,kg] items cs->Ch L [n1,kg] gitems gr->L[n1]? =some (sums.map .int)->L[kg]? =some gitems->L[kc]? =some items0->L[H]? =some (hk.map .lst)->L[hp]? =some (h.map .int)->
  (∀c∈cs,c.1.length<sums.length∧∀o∈c.1,o<h.length)->sums.length<=1000->gitems.length+items.length<=1000->
  (∀v5 v6 v7 L' gitems',L.length<=L'.length->(∀k,k<L.length->k≠n1->k≠kg->L'[k]? =L[k]?)->L'[n1]? =some ((CJ h cs sums).map .int)->L'[kg]? =some gitems'->Ch L' [n1,kg] gitems' (gr++cs.map (Z2 h place))->
   F .next ⟨[some (.lst H),some (.lst n1),some (.lst kc),some (.int (place:Int)),some (.lst kg),v5,v6,v7],L'⟩)->
  A2 (fun σ=>σ.lists[kc]? =some items0) (.two 5 6) (d9 B n Ge) items ⟨[some (.lst H),some (.lst n1),some (.lst kc),some (.int (place:Int)),some (.lst kg),v5,v6,v7],L⟩ F
noncomputable def A7:Uc:=ec fun u=>Xm u.b (u.n 0) (u.n 1) (u.n 2) (u.n 3) (u.n 4) (u.n 5) (u.n 6) (u.d 0) (u.j 0) (u.a 0) u.f
@[irreducible] noncomputable def K87.h:List Int:=(A7.j 0)
open K87 in
theorem dK:Xm A7.b (A7.n 0) (A7.n 1) (A7.n 2) (A7.n 3) (A7.n 4) (A7.n 5) (A7.n 6) (A7.d 0) h (A7.a 0) A7.f:=fun hkl hpl hhl hhb e1 e2 e3 e4 e5 e6 e7=>by
 intro cs
 induction cs with
 |nil=>
  intro items gitems gr sums v5 v6 v7 L hc hg h1 h2 h3 _ _ _ _ _ hF
  cases items with
  |cons it items=>exact hc.elim
  |nil=>exact⟨h3,hF v5 v6 v7 L gitems (Nat.le_refl _) (fun _ _ _ _=>rfl) h1 h2 (by rw [map_nil,append_nil];exact hg)⟩
 |cons c cs ih=>
  intro items gitems gr sums v5 v6 v7 L hc hg h1 h2 h3 h4 h5 hcs hsl hgl hF
  cases items with
  |nil=>exact hc.elim
  |cons it items=>
  obtain⟨⟨k,rfl,hk',hkx⟩,hc⟩:=hc
  obtain⟨hc1,hc2⟩:=hcs c (.head _)
  refine⟨h3,?_⟩
  show d9 A7.b (A7.n 0) Ge ⟨[some (.lst (A7.n 1)),some (.lst (A7.n 2)),some (.lst (A7.n 3)),some (.int ((A7.n 4):Int)),some (.lst (A7.n 5)),some (.lst k),some (.int c.2),v7],L⟩ _
  have hn1:(A7.n 2)<L.length:=(List.getElem?_eq_some_iff.mp h1).1
  have hkg:(A7.n 5)<L.length:=(List.getElem?_eq_some_iff.mp h2).1
  have hkL:k<L.length:=(List.getElem?_eq_some_iff.mp hk').1
  have k1:k≠(A7.n 2):=fun e=>hkx (e▸ .head _)
  have k2:k≠(A7.n 5):=fun e=>hkx (e▸ .tail _ (.head _))
  unfold Ge
  walk_at "#Y"
  refine z5 ?_
  walk_at "%!"
  with_reducible refine b8 hk' ?_
  have hlo:=TP (B:=A7.b) (n:=(A7.n 0)) (n1:=(A7.n 2)) (kc:=(A7.n 3)) (kg:=(A7.n 5)) (k:=k) h4 hkl hpl h5 hhl hhb hk' (F:=I3 A7.b (A7.n 0) (.cons (.seti (.var 1) (.call (.glob (.builtin "len")) (.cons (.var 5) .nil)) (.bin .add (.item (.var 1) (.call (.glob (.builtin "len")) (.cons (.var 5) .nil))) (.var 6)))
   (.cons (.expr (.meth (.var 4) "append" (.cons (.tup (.cons (.bin .add (.var 5) (.list (.cons (.var 3) .nil))) (.cons (.var 6) .nil))) .nil)))
   .nil)) fun f σ=>match f with
    | .next=>A2 (fun σ=>σ.lists[(A7.n 3)]? =some (A7.a 0)) (.two 5 6) (d9 A7.b (A7.n 0) Ge) items σ A7.f
    | .cont=>A2 (fun σ=>σ.lists[(A7.n 3)]? =some (A7.a 0)) (.two 5 6) (d9 A7.b (A7.n 0) Ge) items σ A7.f
    | .brk=>A7.f .next σ
    | .ret v=>A7.f (.ret v) σ) c.1 c.2 v7 hc2 (fun v7=> ?_)
  ·exact hlo
  ·generalize hP:CA h c.1 c.2=P
   walk_at "k#Z13%,!"
   refine o5 hk' (by rw [L5];lia) ?_
   walk_at ""
   rewrite [L5]
   have i1:t8 L (.lst (A7.n 2)) (.int (c.1.length:Int))=some (.int (sums.getD c.1.length 0)):=s0 h1 (by rw [getElem?_map,getD_some hc1];rfl) (by rw [length_map];exact u2 ‹_› rfl)
   with_reducible refine b8 i1 ?_
   walk_at "%![%,!"
   refine o5 hk' (by rw [L5];lia) ?_
   walk_at ""
   rw [L5]
   refine KD h1 (by rw [length_map];assumption) (by rw [length_map];exact u2 ‹_› rfl) ?_
   rw [←List.map_set]
   generalize hs':sums.set c.1.length (sums.getD c.1.length 0+P)=sums'
   generalize hL1:L.set (A7.n 2) (sums'.map AV.int)=L1
   have l1:L1.length=L.length:=by(rw [←hL1,length_set];rfl)
   have g1:∀j,j≠(A7.n 2)->L1[j]? =L[j]? :=fun j hj=>by(rw [←hL1,getElem?_set_ne (Ne.symm hj)];rfl)
   have g1n:L1[(A7.n 2)]? =some (sums'.map .int):=by(rw [←hL1,getElem?_set_self hn1];rfl)
   have ga:∀j x,j<L.length->(L1++[x])[j]? =L1[j]? :=fun j x hj=>getElem?_append_left (by lia)
   walk_at "k#U6%gD8D1%9!B!i"
   refine Bn (xs:=A4 c.1) (ys:=[.int ((A7.n 4):Int)]) (by rw [ga k _ hkL,g1 k k1];exact hk') (by rw [getElem?_append_right (Nat.le_refl _)];simp) (by rw [L5];show _+1<=_;lia) ?_
   walk_at "BiB!"
   have eg:A4 c.1++[AV.int ((A7.n 4):Int)]=A4 (c.1++[(A7.n 4)]):=(Fr c.1 [(A7.n 4)]).symm
   rw [eg]
   generalize hL3:L1++[[AV.int ((A7.n 4):Int)]]++[A4 (c.1++[(A7.n 4)])]=L3
   have l3:L3.length=L.length+2:=by rw [←hL3];simp [l1]
   have g3:∀j,j<L.length->L3[j]? =L1[j]? :=fun j hj=>by
    (rw [←hL3,getElem?_append_left (by simp [l1];lia),ga j _ hj];rfl)
   have g3n:L3[L.length+1]? =some (A4 (c.1++[(A7.n 4)])):=by
    rw [←hL3,getElem?_append_right (by simp [l1])];simp [l1]
   refine F6 (k:=(A7.n 5)) (xs:=gitems) (by rw [g3 (A7.n 5) hkg,g1 (A7.n 5) (Ne.symm e7)];exact h2) (by lia) ?_
   have em:(L1++[[AV.int ((A7.n 4):Int)]]).length=L.length+1:=by simp [l1]
   rw [em]
   walk_at "dk$!"
   generalize hL4:L3.set (A7.n 5) (gitems++[AV.tup [.lst (L.length+1),.int P]])=L4
   have l4:L4.length=L.length+2:=by(rw [←hL4,length_set,l3];rfl)
   have g4:∀j,j<L.length->j≠(A7.n 2)->j≠(A7.n 5)->L4[j]? =L[j]? :=fun j hj h h'=>by
    (rw [←hL4,getElem?_set_ne (Ne.symm h'),g3 j hj,g1 j h];rfl)
   have g4k:L4[(A7.n 5)]? =some (gitems++[AV.tup [.lst (L.length+1),.int P]]):=by(rw [←hL4,getElem?_set_self (by lia)];rfl)
   have g4n:L4[(A7.n 2)]? =some (sums'.map .int):=by rw [←hL4,getElem?_set_ne (Ne.symm e7),g3 (A7.n 2) hn1];exact g1n
   have g4m:L4[L.length+1]? =some (A4 (c.1++[(A7.n 4)])):=by rw [←hL4,getElem?_set_ne (by lia)];exact g3n
   have sm:∀{items cs},Ch L [(A7.n 2),(A7.n 5)] items cs->Ch L4 [(A7.n 2),(A7.n 5)] items cs:=fun h=>h.same fun j hj hx=>g4 j hj (fun e=>hx (e▸ .head _)) (fun e=>hx (e▸ .tail _ (.head _)))
   have hgl':gitems.length+(items.length+1)<=1000:=hgl
   have hHL:(A7.n 1)<L.length:=(List.getElem?_eq_some_iff.mp h4).1
   have hhL:(A7.n 6)<L.length:=(List.getElem?_eq_some_iff.mp h5).1
   have hcL:(A7.n 3)<L.length:=(List.getElem?_eq_some_iff.mp h3).1
   have hsl':sums'.length=sums.length:=by(rw [←hs',length_set];rfl)
   have hng:Z2 h (A7.n 4) c=(c.1++[(A7.n 4)],P):=by rw [←hP];rfl
   refine ih items (gitems++[AV.tup [.lst (L.length+1),.int P]]) (gr++[Z2 h (A7.n 4) c]) sums' _ _ _ L4 (sm hc) ((sm hg).app ⟨⟨L.length+1,by(rw [hng];rfl),by rw [hng];exact g4m,?_⟩,trivial⟩) g4n g4k
    (by rw [g4 (A7.n 3) hcL e5 e6];exact h3) (by rw [g4 (A7.n 1) hHL e1 e2];exact h4) (by rw [g4 (A7.n 6) hhL e3 e4];exact h5) (fun c hc=>by rw [hsl'];exact hcs c (.tail _ hc)) (by exact e8 ‹_› ‹_› rfl) (by rw [length_append];show _+1+_<=_;exact aT ‹_›)
    (fun v5 v6 v7 L' gitems' q1 q2 q3 q4 q5=>hF v5 v6 v7 L' gitems' (by lia) (fun j hj h h'=>by(rw [q2 j (by lia) h h',g4 j hj h h'];rfl)) ?_ q4 ?_)
   ·simp only [mem_cons,not_mem_nil,or_false];lia
   ·rw [q3,←hs',←hP];rfl
   ·rw [append_assoc]at q5;exact q5
theorem Tj{B:Bs}{n H n1 kc place kg hp:Nat}{hk:List Nat}{h:List Int}{items0:List AV}{F:Fl->St->Prop}:Xm B n H n1 kc place kg hp hk h items0 F:=by with_unfolding_all exact Mine.hk (q:=fun u:Uc=>Xm u.b (u.n 0) (u.n 1) (u.n 2) (u.n 3) (u.n 4) (u.n 5) (u.n 6) (u.d 0) (u.j 0) (u.a 0) u.f) dK (.mk B A7.p F A7.q A7.v [] [n,H,n1,kc,place,kg,hp] [] [hk] [] [] [items0] [] [h] [] [] [] [] [] [])
end
theorem FE(h:List Int):∀(cs:List (List Nat×Int))(sums:List Int),(CJ h cs sums).length=sums.length
 | [],_=>rfl
 |c::cs,sums=>by
  show(CJ h cs _).length=_
  (rewrite [FE h cs];rw [length_set];rfl)
section
variable{B:Bs}{n:Nat}
theorem TT{H n1 N n00:Nat}{hk:List Nat}{ls:Ls}(hN:N<=7)(hkl:hk.length=N)(hH:ls[H]? =some (hk.map .lst))(hn0:n00<=n1)(hls:ls.length=n00){F:Fl->St->Prop}:
  ∀(hs:List (List Int))(place:Nat)(cs:List (List Nat×Int))(items:List AV)(kc:Nat)(sums:List Int)(v3 v4 v5 v6 v7:Option AV)(L:Ls),place+hs.length=N->(∀i h,hs[i]? =some h->∃hp,hk[place+i]? =some hp∧ls[hp]? =some (h.map .int)∧h.length=place+i∧Bd 32 h)->
  Ch L [n1] items cs->L[kc]? =some items->kc≠n1->sums.length=N->L[n1]? =some (sums.map .int)->(∀k,k<n00->L[k]? =ls[k]?)->(∀c∈cs,c.1.length<=place∧∀o∈c.1,o<place)->cs.length=2^place->
  (∀v3 v4 v5 v6 v7 kc L',(∀k,k<n00->L'[k]? =ls[k]?)->L'[n1]? =some ((Ef hs place cs sums).map .int)->F .next ⟨[some (.lst H),some (.lst n1),some (.lst kc),v3,v4,v5,v6,v7],L'⟩)->
  A2 (fun _=>True) (.one 3) (d9 B n IR) (o2 (place:Int) (N:Int)) ⟨[some (.lst H),some (.lst n1),some (.lst kc),v3,v4,v5,v6,v7],L⟩ F:=by
 intro hs
 induction hs with
 |nil=>
  intro place cs items kc sums v3 v4 v5 v6 v7 L hpl _ hc h1 h2 h3 h4 h5 h6 h7 hF
  rw [y8 (by simp at hpl;lia)]
  exact⟨trivial,hF v3 v4 v5 v6 v7 kc L h5 h4⟩
 |cons h hs ih=>
  intro place cs items kc sums v3 v4 v5 v6 v7 L hpl hh hc h1 h2 h3 h4 h5 h6 h7 hF
  rw [length_cons]at hpl
  rw [s7 (by lia)]
  refine FD (hh 0 h rfl) fun hp p1 p2 p3 p4=> ?_
  rw [Nat.add_zero]at p1 p3
  have hpn:hp<n00:=by rw [←hls];exact(List.getElem?_eq_some_iff.mp p2).1
  have hHn:H<n00:=by rw [←hls];exact(List.getElem?_eq_some_iff.mp hH).1
  have hn1:n1<L.length:=(List.getElem?_eq_some_iff.mp h4).1
  have hkc:kc<L.length:=(List.getElem?_eq_some_iff.mp h1).1
  refine⟨trivial,?_⟩
  show d9 B n IR ⟨[some (.lst H),some (.lst n1),some (.lst kc),some (.int (place:Int)),v4,v5,v6,v7],L⟩ _
  unfold IR
  walk_at "#Q9!B!ik#Y"
  refine z5 ?_
  walk_at "%!"
  have ga:∀j,j<L.length->(L++[[]])[j]? =L[j]? :=fun j hj=>getElem?_append_left hj
  have hI:(L++[[]])[kc]? =some items:=by rw [ga kc hkc];exact h1
  with_reducible refine b8 hI ?_
  have hle:2^place<=2^6:=Nat.pow_le_pow_right (by decide) (by lia)
  have hcl:=hc.len
  have hcx:Ch (L++[[]]) [n1,L.length] items cs:=(hc.weak (ex':=[n1,L.length]) fun j hj hj2=>by
   simp only [mem_cons,not_mem_nil,or_false]at hj ⊢;lia).same fun j hj _=>ga j hj
  have hm:=Tj (B:=B) (n:=n) (H:=H) (n1:=n1) (kc:=kc) (place:=place) (kg:=L.length) (hp:=hp) (hk:=hk) (h:=h) (items0:=items) (by exact e8 ‹_› ‹_› rfl) p1 (by lia) p4 (by exact UA ‹_› ‹_›) (by lia) (by exact UA ‹_› ‹_›) (by lia) h2 (by exact n4 ‹_›) (by exact n4 ‹_›)
   (F:=I3 B n (.cons (.asg 2 (.bin .add (.var 2) (.var 4))) .nil) fun f σ=>match f with
    | .next=>A2 (fun _=>True) (.one 3) (d9 B n IR) (o2 ((place:Int)+1) (N:Int)) σ F
    | .cont=>A2 (fun _=>True) (.one 3) (d9 B n IR) (o2 ((place:Int)+1) (N:Int)) σ F
    | .brk=>F .next σ
    | .ret v=>F (.ret v) σ) cs items [] [] sums v5 v6 v7 (L++[[]])
   hcx trivial (by rw [ga n1 hn1];exact h4) (by rw [getElem?_append_right (Nat.le_refl _)];simp) hI (by rw [ga H (by lia),h5 H hHn];exact hH) (by rw [ga hp (by lia),h5 hp hpn];exact p2)
   (fun c hc=>by obtain⟨u1,u2⟩:=h6 c hc;exact⟨by lia,fun o ho=>by have:=u2 o ho;lia⟩) (by exact e8 ‹_› ‹_› rfl) (by show 0+_<=_;lia)
   (fun v5 v6 v7 L' gitems' q1 q2 q3 q4 q5=> ?_)
  ·exact hm
  ·simp at q1
   have hgl:=q5.len
   rw [nil_append,length_map]at hgl
   have hcc:L'[kc]? =some items:=by rw [q2 kc (by simp;lia) h2 (by exact n4 ‹_›)];exact hI
   walk_at "k#Q0!"
   refine Bn hcc q4 (by lia) ?_
   walk_at "k$!"
   have gb:∀j,j<L'.length->(L'++[items++gitems'])[j]? =L'[j]? :=fun j hj=>getElem?_append_left hj
   have hpp:2^(place+1)=2^place*2:=Nat.pow_succ ..
   have hcy:Ch (L'++[items++gitems']) [n1] (items++gitems') (cs++cs.map (Z2 h place)):=(((hcx.same fun j hj hx=>q2 j hj (fun e=>hx (e▸ .head _)) (fun e=>hx (e▸ .tail _ (.head _)))).app q5).weak (ex':=[n1]) (fun j hj _=>by
    simp only [mem_cons,not_mem_nil,or_false]at hj ⊢;lia)).same fun j hj _=>gb j hj
   have:=ih (place+1) (cs++cs.map (Z2 h place)) (items++gitems') L'.length (CJ h cs sums) (some (.int (place:Int))) (some (.lst L.length)) v5 v6 v7 (L'++[items++gitems']) (by exact RZ ‹_›) (fun i h' e=>by
     refine FD (hh (i+1) h' e) fun hp' r1 r2 r3 r4=> ?_
     exact⟨hp',by rw [show place+1+i=place+(i+1) by exact VN];exact r1,r2,by lia,r4⟩)
    hcy (by rw [getElem?_append_right (Nat.le_refl _)];simp) (by lia) (by rw [FE];exact h3) (by rw [gb n1 (by lia)];exact q3)
    (fun k hk=>by rw [gb k (by lia),q2 k (by simp;lia) (by exact UA ‹_› ‹_›) (by lia),ga k (by lia)];exact h5 k hk) (fun c hc=> ?_) (by rw [length_append,length_map];lia) (fun v3 v4 v5 v6 v7 kc L'=>hF v3 v4 v5 v6 v7 kc L')
   ·exact this
   ·rcases mem_append.mp hc with hc |hc
    ·refine b7 (h6 c hc) fun u1 u2=> ?_
     exact⟨by exact s1 ‹_›,fun o ho=>by have:=u2 o ho;lia⟩
    ·refine a9 (mem_map.mp hc) fun c' hc' ee2=> ?_
     subst ee2
     refine b7 (h6 c' hc') fun u1 u2=> ?_
     refine⟨by show(c'.1++[place]).length<=_;simp;exact u1,fun o ho=> ?_⟩
     rcases mem_append.mp (show o∈c'.1++[place]from ho)with ho |ho
     ·have:=u2 o ho;lia
     ·rw [mem_singleton.mp ho];lia
end
section
variable{B:Bs}{P:Params}(C:Ctx B P){n:Nat}{ls:Ls}{Q:AV->Ls->Prop}
include C
theorem Tp{H:Nat}{hk:List Nat}{hs:List (List Int)}(hH:ls[H]? =some (hk.map .lst))(hkl:hk.length=hs.length)(hN:hs.length<=7)(hh:∀i h,hs[i]? =some h->∃hp,hk[i]? =some hp∧ls[hp]? =some (h.map .int)∧h.length=i∧Bd 32 h)
  (hq:Q (.lst ls.length) (ls++[(Ef hs 0 [([],1)] (List.replicate hs.length 0)).map .int])):Spec B (n+1) (.ref 168) [.lst H] [] ls Q:=by
 refine y7 C (Hr P) (Hq P) rfl (JN P) ?_
 unfold CY
 change d9 _ _ _ ⟨[some (.lst H),none,none,none,none,none,none,none],ls⟩ _
 have hHl:H<ls.length:=(List.getElem?_eq_some_iff.mp hH).1
 have g0:∀(M:Ls) k,k<ls.length->(ls++M)[k]? =ls[k]? :=fun M k hk=>getElem?_append_left hk
 walk_at "#Q1!9B!i,!"
 refine o5 (xs:=hk.map .lst) (by rw [g0 _ H hHl];exact hH) (by rw [length_map];exact e9 ‹_› ‹_› rfl) ?_
 walk_at ""
 rw [length_map,hkl]
 refine Er (xs:=[.int 0]) (by rw [getElem?_append_right (Nat.le_refl _)];simp) (by simp;exact u2 ‹_› rfl) (by lia) (by lia) ?_
 walk_at "k#Q9!D8D9B!iBiB!ik#Y"
 rw [Int.toNat_natCast,Dt]
 refine C6 ?_
 walk_at ",!"
 simp only [append_assoc,length_append,length_cons,length_nil,cons_append,nil_append]
 refine o5 (xs:=hk.map .lst) (by rw [g0 _ H hHl];exact hH) (by rw [length_map];exact e9 ‹_› ‹_› rfl) ?_
 walk_at "c"
 rw [length_map,hkl]
 refine⟨by lia,by lia,?_⟩
 generalize hM:([[AV.int 0],List.replicate hs.length (AV.int 0),[],[AV.tup [.lst (ls.length+(0+1+1)),.int 1]]]:Ls)=M
 have gM:∀i,(ls++M)[ls.length+i]? =M[i]? :=fun i=>by(rw [getElem?_append_right (Nat.le_add_right _ _),Nat.add_sub_cancel_left];rfl)
 have:=TT (B:=B) (n:=n) (H:=H) (n1:=ls.length+(0+1)) (N:=hs.length) (n00:=ls.length) (hk:=hk) (ls:=ls) hN hkl hH (by exact EW) rfl (F:=I3 B n (.cons (.ret (.var 1)) .nil) (D8 ls Q)) hs 0 [([],1)] [.tup [.lst (ls.length+(0+1+1)),.int 1]] (ls.length+(0+1+1+1)) (List.replicate hs.length 0) none none none none none (ls++M) (by exact Pq) (fun i h e=>by
   refine FD (hh i h e) fun hp r1 r2 r3 r4=> ?_
   exact⟨hp,by rw [Nat.zero_add];exact r1,r2,by lia,r4⟩) ⟨⟨_,rfl,by rw [gM,←hM];rfl,by simp⟩,trivial⟩ (by rw [gM,←hM];rfl) (by lia) (by simp) (by rw [gM,←hM];simp) (fun k hk=>g0 _ k hk) (fun c hc=>by
   rw [mem_singleton.mp hc];exact⟨Nat.le_refl _,fun o ho=>by cases ho⟩) rfl (fun v3 v4 v5 v6 v7 kc L' q1 q2=>by
   walk_at "k#Oh"
   refine⟨by exact EW,_,q2,Bk _ _,fun k l hk h=> ?_,?_⟩
   ·rw [q1 k hk]at h;exact .inl h
   ·have:L'.take ls.length=ls:=by
     apply List.ext_getElem?
     intro i
     by_cases hi:i<ls.length
     ·(rw [getElem?_take_of_lt hi,q1 i hi];rfl)
     ·(rw [getElem?_eq_none (by rw [length_take];lia),getElem?_eq_none (by exact n1 ‹_›)];rfl)
    show Q _ (L'.take ls.length++_)
    rw [this];exact hq)
 exact this
end
noncomputable def hv:List Nat->List Nat->List (List Int)
 |_,[]=>[]
 |A,x::X=>(A.map fun(a:Nat)=>(x:Int)-(a:Int))::hv (A++[x]) X
noncomputable def f5:List Nat->List Nat
 | []=>[]
 |d::r=>match r with
  | []=>[d]
  |c::_=>if Nat.beq d c then f5 r else d::f5 r
noncomputable def LV(D:List Nat)(j:Nat):Nat:=D.foldl (fun a d=>Nat.add a (Nat.pow d j)) 0
noncomputable def Cl(D:List Nat)(n:Nat):List Int:=(List.range (2*n)).map fun j=>Int.ofNat (LV D j)
noncomputable def D0(P:List Int)(n:Nat):List (List Int):=(List.range n).map fun i=>(P.drop i).take (n+1)
noncomputable def Dz(n:Nat)(e:Nat):List Int:=(List.range (n+1)).map fun j=>Int.ofNat (Nat.pow e j)
noncomputable def HN(ks:List Nat)(e:Int):Int:=ks.foldl (fun a(d:Nat)=>a*(e-(d:Int))) 1
noncomputable def AQ(x:Nat)(row:List Nat)(pr:Nat):Nat:=row.foldl (fun acc o=>Nat.mul acc (Nat.mul (Nat.sub x o) (Nat.sub x o))) pr
noncomputable def BD:List Nat->Nat->Nat->List Nat
 | [],_,_=>[]
 |x::r,0,v=>Nat.add x v::r
 |x::r,k+1,v=>x::BD r k v
noncomputable def Bu:List Nat->List (List Nat×Nat)->List Nat->List Nat
 | [],_,sums=>sums
 |x::D,cs,sums=>Bu D (cs++cs.map fun c=>(c.1++[x],AQ x c.1 c.2)) (cs.foldl (fun s c=>BD s c.1.length (AQ x c.1 c.2)) sums)
noncomputable def J7:Nat->Int->List (List Int)->List (List Int)->List Int×List (List Int)
 |f+1,last,(p::t)::rs,es=>if p=0 then([],[])else(fun r=>(p::r.1,r.2)) (J7 f p (rs.map (j7 p last t)) (es.map (j7 p last t)))
 |_,_,_,es=>([],es)
noncomputable def Fw(D:List Nat)(E:List Nat):Bool:=(fun ks=>(fun n=>(fun s:List Nat=>J7 n 1 (D0 (Cl D n) n) (E.map (Dz n))==((s.take n).map Int.ofNat,E.map fun(e:Nat)=>[Int.ofNat (s.getD (n-1) 0)*HN ks (Int.ofNat e)])) (Bu D [([],1)] [0,0,0,0,0])) (List.length ks)) (f5 D)
noncomputable def DQ(V E:List Nat):Bool:=V.all fun a=>V.all fun b=> !Nat.ble a b ||V.all fun c=> !Nat.ble b c ||V.all fun d=> !Nat.ble c d ||V.all fun f=> !Nat.ble d f ||Fw [a,b,c,d,f] E
theorem UV:DQ [0,2,3,4,5,6,7] [0,3,6,9]=true:=by decide+kernel
theorem Wu:DQ [0,3,4,5,6,7,8] [1,4,7,10]=true:=by decide+kernel
theorem Wa:DQ [0,4,5,6,7,8,9] [2,5,8,11]=true:=by decide+kernel
noncomputable def Hu(A:List Nat)(c:List Nat×Int):List Nat×Nat:=(c.1.map fun o=>A.getD o 0,c.2.toNat)
def MX(A:List Nat)(cs:List (List Nat×Int)):Prop:=∀c∈cs,0<=c.2∧∀o∈c.1,o<A.length
theorem FL:∀(s:List Nat)(k v:Nat),(s.map Int.ofNat).set k ((s.map Int.ofNat).getD k 0+Int.ofNat v)=(BD s k v).map Int.ofNat
 | [],_,_=>rfl
 |x::r,0,v=>rfl
 |x::r,k+1,v=>by
  have:=FL r k v
  show Int.ofNat x::(r.map Int.ofNat).set k ((r.map Int.ofNat).getD k 0+Int.ofNat v)=_
  rw [this];rfl
theorem Gk{A:List Nat}{f:Nat->Int}{o:Nat}(h:o<A.length):(A.map f).getD o 0=f (A.getD o 0):=by
 rw [getD_eq_getElem?_getD,getElem?_map,getD_eq_getElem?_getD,getElem?_eq_getElem h];rfl
theorem Dg{A:List Nat}{x:Nat}(hx:∀a∈A,a<=x):∀(row:List Nat)(pr:Nat),(∀o∈row,o<A.length)->CA (A.map fun(a:Nat)=>(x:Int)-(a:Int)) row (Int.ofNat pr)=Int.ofNat (AQ x (row.map fun o=>A.getD o 0) pr)
 | [],pr,_=>rfl
 |o::row,pr,h=>by
  have ho:=h o (.head _)
  have hle:A.getD o 0<=x:=hx _ (by rw [getD_eq_getElem?_getD,getElem?_eq_getElem ho];exact getElem_mem _)
  show CA _ row (Int.ofNat pr*((A.map fun(a:Nat)=>(x:Int)-(a:Int)).getD o 0)^2)=Int.ofNat (AQ x (row.map _) (Nat.mul pr (Nat.mul (Nat.sub x (A.getD o 0)) (Nat.sub x (A.getD o 0)))))
  rw [Gk ho,←Dg hx row _ fun o ho=>h o (.tail _ ho)]
  congr 1
  rw [show((x:Int)-(A.getD o 0:Nat))=Int.ofNat (x-A.getD o 0) by show _=((x-A.getD o 0:Nat):Int);exact Sr ‹_›,Int.pow_succ,Int.pow_succ,Int.pow_zero,Int.one_mul]
  rfl
theorem Op{A:List Nat}{x:Nat}{c:List Nat×Int}(hx:∀a∈A,a<=x)(h0:0<=c.2)(hc:∀o∈c.1,o<A.length):Hu (A++[x]) (Z2 (A.map fun(a:Nat)=>(x:Int)-(a:Int)) A.length c)=((Hu A c).1++[x],AQ x (Hu A c).1 (Hu A c).2):=by
 have hp:=Dg hx c.1 c.2.toNat hc
 rw [show Int.ofNat c.2.toNat=c.2 from Int.toNat_of_nonneg h0]at hp
 unfold Z2 Hu
 dsimp only
 rw [hp]
 congr 1
 rw [map_append]
 congr 1
 ·apply map_congr_left
  intro o ho
  (rw [getD_eq_getElem?_getD,getElem?_append_left (hc o ho),←getD_eq_getElem?_getD];rfl)
 ·simp
theorem Rj{A:List Nat}{x:Nat}{c:List Nat×Int}(hc:∀o∈c.1,o<A.length):Hu (A++[x]) c=Hu A c:=by
 unfold Hu
 congr 1
 apply map_congr_left
 intro o ho
 (rw [getD_eq_getElem?_getD,getElem?_append_left (hc o ho),←getD_eq_getElem?_getD];rfl)
theorem Iz{A:List Nat}{x:Nat}(hx:∀a∈A,a<=x):∀(cs:List (List Nat×Int))(sV:List Nat),MX A cs->CJ (A.map fun(a:Nat)=>(x:Int)-(a:Int)) cs (sV.map Int.ofNat)=((cs.map (Hu A)).foldl (fun s c=>BD s c.1.length (AQ x c.1 c.2)) sV).map Int.ofNat
 | [],_,_=>rfl
 |c::cs,sV,h=>by
  refine b7 (h c (.head _)) fun h0 hc=> ?_
  have hp:=Dg hx c.1 c.2.toNat hc
  rw [show Int.ofNat c.2.toNat=c.2 from Int.toNat_of_nonneg h0]at hp
  show CJ _ cs ((sV.map Int.ofNat).set c.1.length ((sV.map Int.ofNat).getD c.1.length 0+CA _ c.1 c.2))=((cs.map (Hu A)).foldl _ (BD sV (Hu A c).1.length (AQ x (Hu A c).1 (Hu A c).2))).map Int.ofNat
  rw [hp,FL,Iz hx cs _ fun c hc=>h c (.tail _ hc)]
  rw [show(Hu A c).1.length=c.1.length by simp [Hu]]
  rfl
theorem KZ:∀(X A:List Nat)(cs:List (List Nat×Int))(sV:List Nat),(A++X).Pairwise (· <= ·)->MX A cs->Ef (hv A X) A.length cs (sV.map Int.ofNat)=(Bu X (cs.map (Hu A)) sV).map Int.ofNat
 | [],_,_,_,_,_=>rfl
 |x::X,A,cs,sV,hs,hg=>by
  have hx:∀a∈A,a<=x:=fun a ha=>(List.pairwise_append.mp hs).2.2 a ha x (.head _)
  have hs':((A++[x])++X).Pairwise (· <= ·):=by rw [append_assoc];exact hs
  have hg':MX (A++[x]) (cs++cs.map (Z2 (A.map fun(a:Nat)=>(x:Int)-(a:Int)) A.length)):=fun c hc=>by
   rcases mem_append.mp hc with hc |hc
   ·refine b7 (hg c hc) fun h0 h1=> ?_
    exact⟨h0,fun o ho=>by have:=h1 o ho;rw [length_append];lia⟩
   ·refine a9 (mem_map.mp hc) fun c' hc' ee2=> ?_
    subst ee2
    refine b7 (hg c' hc') fun h0 h1=> ?_
    have hp:=Dg hx c'.1 c'.2.toNat h1
    rw [show Int.ofNat c'.2.toNat=c'.2 from Int.toNat_of_nonneg h0]at hp
    refine⟨by show 0<=CA _ c'.1 c'.2;rw [hp];exact Int.natCast_nonneg _,fun o ho=> ?_⟩
    rcases mem_append.mp (show o∈c'.1++[A.length]from ho)with ho |ho
    ·have:=h1 o ho;rw [length_append];lia
    ·rw [mem_singleton.mp ho,length_append];exact Nat.lt_succ_self _
  have ih:=KZ X (A++[x]) (cs++cs.map (Z2 (A.map fun(a:Nat)=>(x:Int)-(a:Int)) A.length)) ((cs.map (Hu A)).foldl (fun s c=>BD s c.1.length (AQ x c.1 c.2)) sV) hs' hg'
  rw [length_append]at ih
  show Ef (hv (A++[x]) X) (A.length+1) (cs++cs.map (Z2 _ A.length)) (CJ _ cs (sV.map Int.ofNat))=(Bu X (cs.map (Hu A)++(cs.map (Hu A)).map fun c=>(c.1++[x],AQ x c.1 c.2)) _).map Int.ofNat
  rw [Iz hx cs sV hg]
  refine ih.trans ?_
  congr 2
  rw [map_append,map_map,map_map]
  congr 1
  ·exact map_congr_left fun c hc=>Rj (hg c hc).2
  ·exact map_congr_left fun c hc=>Op hx (hg c hc).1 (hg c hc).2
theorem Pk:∀(f:Nat)(last:Int)(main es:List (List Int))(pv:List Int)(fs:List (List Int)),main.length=f->J7 f last main es=(pv,fs)->pv.length=f->∀(i:Nat)(er:List Int)(x:Int),es[i]? =some er->fs[i]? =some [x]->Y0 (f+1) last (main++[er])=pv++[x]
 |0,last,main,es,pv,fs,hm,he,hp,i,er,x,h1,h2=>by
  obtain rfl:main=[]:=List.eq_nil_of_length_eq_zero hm
  obtain⟨rfl,rfl⟩:[]=pv∧es=fs:=by
   have:J7 0 last [] es=([],es):=by unfold J7;rfl
   rw [this]at he;cases he;exact⟨rfl,rfl⟩
  rw [h1]at h2;(replace h2:=Option.some.inj h2;subst h2)
  show x::(if x=0 then []else Y0 0 x [])=[x]
  split<;>rfl
 |f+1,last,[],es,pv,fs,hm,_,_,_,_,_,_,_=>by exact T6 (·.ctorIdx) hm rfl
 |f+1,last,[]::rs,es,pv,fs,hm,he,hp,_,_,_,_,_=>by
  have:J7 (f+1) last ([]::rs) es=([],es):=by unfold J7;rfl
  rw [this]at he;cases he;exact T6 (·.ctorIdx) hp rfl
 |f+1,last,(p::t)::rs,es,pv,fs,hm,he,hp,i,er,x,h1,h2=>by
  have e:J7 (f+1) last ((p::t)::rs) es=if p=0 then([],[])else(p::(J7 f p (rs.map (j7 p last t)) (es.map (j7 p last t))).1,(J7 f p (rs.map (j7 p last t)) (es.map (j7 p last t))).2):=by
   conv=>lhs;unfold J7
  rw [e]at he
  by_cases h0:p=0
  ·rw [if_pos h0]at he;cases he;exact T6 (·.ctorIdx) hp rfl
  ·rw [if_neg h0]at he
   cases hr:J7 f p (rs.map (j7 p last t)) (es.map (j7 p last t))with
   |mk pv' fs'=>
    rw [hr]at he
    cases he
    have:=Pk f p (rs.map (j7 p last t)) (es.map (j7 p last t)) pv' _ (by rw [length_map];exact Nat.succ.inj hm) hr (by exact Nat.succ.inj hp) i (j7 p last t er) x (by rw [getElem?_map,h1];rfl) h2
    show p::(if p=0 then []else Y0 (f+1) p ((rs++[er]).map (j7 p last t)))=_
    rw [if_neg h0,map_append,map_cons,map_nil,this];rfl
theorem G7{V E D:List Nat}(h:DQ V E=true)(hl:D.length=5)(hs:D.Pairwise (· <= ·))(hV:∀d∈D,d∈V):Fw D E=true:=by
 match D,hl with
 | [a,b,c,d,f],_=>
  simp only [pairwise_cons,mem_cons,not_mem_nil,or_false,List.Pairwise.nil,and_true,forall_eq_or_imp,forall_eq,false_implies,implies_true]at hs
  unfold DQ at h
  simp only [all_eq_true,Bool.or_eq_true,Bool.not_eq_true',]at h
  have q:=fun x y(hxy:x<=y)=>show¬Nat.ble x y=false by simp [hxy]
  have h1:=(h a (hV a (by simp)) b (hV b (by simp))).resolve_left (q _ _ hs.1.1) c (hV c (by simp))
  have h2:=h1.resolve_left (q _ _ hs.2.1.1) d (hV d (by simp))
  have h3:=h2.resolve_left (q _ _ hs.2.2.1.1) f (hV f (by simp))
  exact h3.resolve_left (q _ _ hs.2.2.2)
theorem FP:∀(s:List Nat)(k v:Nat),(BD s k v).length=s.length
 | [],_,_=>rfl
 |x::r,0,v=>rfl
 |x::r,k+1,v=>by show(x::BD r k v).length=_;(rw [length_cons,FP,length_cons];rfl)
theorem An:∀(D:List Nat)(cs:List (List Nat×Nat))(s:List Nat),(Bu D cs s).length=s.length
 | [],_,_=>rfl
 |x::D,cs,s=>by
  show(Bu D _ _).length=_
  rewrite [An D]
  have:∀(l:List (List Nat×Nat))(s:List Nat),(l.foldl (fun s c=>BD s c.1.length (AQ x c.1 c.2)) s).length=s.length:=by
   intro l
   induction l with
   |nil=>intro s;rfl
   |cons c l ih=>intro s;(rw [foldl_cons,ih,FP];rfl)
  exact this _ _
theorem K7(d c:Nat)(r:List Nat):f5 (d::c::r)=if Nat.beq d c then f5 (c::r)else d::f5 (c::r):=by
 (rewrite [f5];rfl)
theorem V9(d:Nat):f5 [d]=[d]:=by(rewrite [f5];rfl)
theorem X0:∀(D:List Nat),(f5 D).length<=D.length
 | []=>by rewrite [f5];exact Nat.le_refl _
 | [d]=>by rw [V9];exact Nat.le_refl _
 |d::c::r=>by
  have:=X0 (c::r)
  rw [K7]
  split<;>simp only [length_cons]at this ⊢ <;>(first |exact s1 ‹_› |lia)
noncomputable def B8(D:List Nat):List Int:=Ef (hv [] D) 0 [([],1)] (List.replicate 5 0)
theorem Ci{D:List Nat}(hs:D.Pairwise (· <= ·)):B8 D=(Bu D [([],1)] [0,0,0,0,0]).map Int.ofNat:=by
 have:=KZ D [] [([],1)] [0,0,0,0,0] hs (fun c hc=>by rw [mem_singleton.mp hc];exact⟨by decide,fun o ho=>by cases ho⟩)
 exact this
theorem Rn{t e:Nat}{D:List Nat}(ht:t=1∨t=2∨t=3)(hl:D.length=5)(hs:D.Pairwise (· <= ·))(hV:∀d∈D,d=0∨(t+1<=d∧d<=t+6))(he:e<12)(het:e%3=t-1):
  Y0 ((f5 D).length+1) 1 (D0 (Cl D (f5 D).length) (f5 D).length++[Dz (f5 D).length e])=(B8 D).take (f5 D).length++[(B8 D).getD ((f5 D).length-1) 0*HN (f5 D) (e:Int)]:=by
 have key:∀E:List Nat,e∈E->Fw D E=true->Y0 ((f5 D).length+1) 1 (D0 (Cl D (f5 D).length) (f5 D).length++[Dz (f5 D).length e])=(B8 D).take (f5 D).length++[(B8 D).getD ((f5 D).length-1) 0*HN (f5 D) (e:Int)]:=fun E hE h=>by
  unfold Fw at h
  dsimp only at h
  rw [beq_iff_eq]at h
  have hn:=X0 D
  obtain⟨i,hi,rfl⟩:=getElem_of_mem hE
  have:=Pk (f5 D).length 1 _ _ _ _ (by simp [D0]) h (by rw [length_map,length_take,An];simp;lia) i (Dz (f5 D).length E[i]) _ (by rw [getElem?_map,getElem?_eq_getElem hi];rfl) (by rw [getElem?_map,getElem?_eq_getElem hi];rfl)
  rw [this,Ci hs,map_take]
  congr 2
  have hg:∀(s:List Nat)(k:Nat),(s.map Int.ofNat).getD k 0=Int.ofNat (s.getD k 0):=fun s k=>by
   rw [getD_eq_getElem?_getD,getElem?_map,getD_eq_getElem?_getD]
   cases s[k]? <;>rfl
  rw [hg];rfl
 rcases ht with rfl |rfl |rfl
 ·exact key [0,3,6,9] (by simp;lia) (G7 UV hl hs fun d hd=>by have:=hV d hd;simp;lia)
 ·exact key [1,4,7,10] (by simp;lia) (G7 Wu hl hs fun d hd=>by have:=hV d hd;simp;lia)
 ·exact key [2,5,8,11] (by simp;lia) (G7 Wa hl hs fun d hd=>by have:=hV d hd;simp;lia)
noncomputable def Lk(X:Int):List (Nat×Nat)->Int
 | []=>1
 |k::K=>(X-(k.1:Int))*Lk X K
noncomputable def Rk(X:Int)(N:Nat):List (Nat×Nat)->Int
 | []=>0
 |k::K=>(k.2:Int)*(k.1:Int)^N*Lk X K+(X-(k.1:Int))*Rk X N K
noncomputable def pK(N:Nat):List (Nat×Nat)->Int
 | []=>0
 |k::K=>(k.2:Int)*(k.1:Int)^N+pK N K
theorem Ka(X:Int)(k:Nat×Nat)(K:List (Nat×Nat)):Lk X (k::K)=(X-(k.1:Int))*Lk X K:=rfl
theorem Lr(X:Int)(N:Nat)(k:Nat×Nat)(K:List (Nat×Nat)):Rk X N (k::K)=(k.2:Int)*(k.1:Int)^N*Lk X K+(X-(k.1:Int))*Rk X N K:=rfl
theorem LA(N:Nat)(k:Nat×Nat)(K:List (Nat×Nat)):pK N (k::K)=(k.2:Int)*(k.1:Int)^N+pK N K:=rfl
theorem KF(X:Int)(N:Nat):∀K:List (Nat×Nat),X*Rk X N K=Lk X K*pK N K+Rk X (N+1) K
 | []=>by simp [Rk,pK]
 |k::K=>by
  have ih:=KF X N K
  rw [Lr,LA,Ka,Lr,Int.pow_succ]
  generalize (k.2:Int)=m at*
  generalize (k.1:Int)=d at*
  generalize d^N=q at*
  generalize Lk X K=l at*
  generalize pK N K=p at*
  generalize Rk X N K=r at*
  generalize Rk X (N+1) K=r' at*
  grind
theorem Z5{X:Int}:∀{K:List (Nat×Nat)},(∀k∈K,(k.1:Int)<X)->0<Lk X K
 | [],_=>by unfold Lk;decide
 |k::K,h=>by
  rw [Ka]
  have h1:=h k (.head _)
  exact Int.mul_pos (by lia) (Z5 fun k hk=>h k (.tail _ hk))
theorem L6(N:Nat):∀K:List (Nat×Nat),0<=pK N K
 | []=>by unfold pK;decide
 |k::K=>by
  rw [LA]
  have:=L6 N K
  have h2:(0:Int)<=(k.2:Int)*(k.1:Int)^N:=Int.mul_nonneg (by exact c1) (Int.pow_nonneg (by exact c1))
  exact Va ‹_› ‹_›
theorem Ca{X:Int}(N:Nat):∀{K:List (Nat×Nat)},(∀k∈K,(k.1:Int)<X)->0<=Rk X N K
 | [],_=>by unfold Rk;decide
 |k::K,h=>by
  rw [Lr]
  have h1:=h k (.head _)
  have h2:=Int.le_of_lt (Z5 (K:=K) fun k hk=>h k (.tail _ hk))
  have h3:=Ca N (K:=K) fun k hk=>h k (.tail _ hk)
  have h4:(0:Int)<=(k.2:Int)*(k.1:Int)^N*Lk X K:=Int.mul_nonneg (Int.mul_nonneg (by exact c1) (Int.pow_nonneg (by exact c1))) h2
  have h5:(0:Int)<=(X-k.1)*Rk X N K:=Int.mul_nonneg (by lia) h3
  exact Va ‹_› ‹_›
theorem RS{X c:Int}(hc:0<=c)(N:Nat):∀{K:List (Nat×Nat)},(∀k∈K,(k.1:Int)<X∧c<=X-k.1)->Rk X N K*c<=Lk X K*pK N K
 | [],_=>by simp [Rk,pK]
 |k::K,h=>by
  obtain⟨h1,h1'⟩:=h k (.head _)
  have h2:=Int.le_of_lt (Z5 (K:=K) fun k hk=>(h k (.tail _ hk)).1)
  have h3:=RS hc N (K:=K) fun k hk=>h k (.tail _ hk)
  rw [Lr,LA,Ka]
  have h4:(0:Int)<=(k.2:Int)*(k.1:Int)^N*Lk X K:=Int.mul_nonneg (Int.mul_nonneg (by exact c1) (Int.pow_nonneg (by exact c1))) h2
  generalize (k.2:Int)*(k.1:Int)^N=q at*
  generalize hy:X-(k.1:Int)=y at*
  generalize Lk X K=l at*
  generalize pK N K=p at*
  generalize Rk X N K=r at*
  have e1:(q*l+y*r)*c=q*l*c+y*(r*c):=by grind
  have e2:y*l*(q+p)=q*l*y+y*(l*p):=by grind
  rw [e1,e2]
  exact Int.add_le_add (Int.mul_le_mul_of_nonneg_left h1' h4) (Int.mul_le_mul_of_nonneg_left h3 (by lia))
theorem Ww{X c:Int}(N:Nat){K:List (Nat×Nat)}(h:∀k∈K,(k.1:Int)<X∧c<=X-k.1)(hp:pK N K<c):Rk X N K<Lk X K:=by
 have hl:=Z5 (K:=K) fun k hk=>(h k hk).1
 have h0:=L6 N K
 have h1:=RS (c:=c) (by lia) N h
 have h2:Lk X K*pK N K<Lk X K*c:=Int.mul_lt_mul_of_pos_left hp hl
 exact Int.lt_of_mul_lt_mul_right (Int.lt_of_le_of_lt h1 h2) (by lia)
theorem OP{X:Int}(N:Nat):∀{K:List (Nat×Nat)},(∀k∈K,(k.1:Int)<X)->(∃k∈K,0<k.1∧0<k.2)->0<Rk X N K
 | [],_,⟨_,hk,_⟩=>by cases hk
 |k::K,h,⟨k',hk',h1,h2⟩=>by
  have hl:=Z5 (K:=K) fun k hk=>h k (.tail _ hk)
  have hr:=Ca N (K:=K) fun k hk=>h k (.tail _ hk)
  have hx:=h k (.head _)
  rw [Lr]
  rcases mem_cons.mp hk' with rfl |hk'
  ·have:(0:Int)<(k'.2:Int)*(k'.1:Int)^N*Lk X K:=Int.mul_pos (Int.mul_pos (by exact c3 ‹_›) (Int.pow_pos (by exact c3 ‹_›))) hl
   have:(0:Int)<=(X-k'.1)*Rk X N K:=Int.mul_nonneg (by lia) hr
   exact aQ ‹_› ‹_›
  ·have:(0:Int)<(X-k.1)*Rk X N K:=Int.mul_pos (by lia) (OP N (fun k hk=>h k (.tail _ hk)) ⟨k',hk',h1,h2⟩)
   have:(0:Int)<=(k.2:Int)*(k.1:Int)^N*Lk X K:=Int.mul_nonneg (Int.mul_nonneg (by exact c1) (Int.pow_nonneg (by exact c1))) (Int.le_of_lt hl)
   exact aX ‹_› ‹_›
theorem Kl{X:Int}(N:Nat):∀{K:List (Nat×Nat)},(∀k∈K,k.1=0)->Rk X (N+1) K=0
 | [],_=>rfl
 |k::K,h=>by
  rw [Lr,Kl N fun k hk=>h k (.tail _ hk),h k (.head _),Int.pow_succ]
  simp
noncomputable def R0(X:Int)(K:List (Nat×Nat))(a:Nat):Nat->Int
 |0=>0
 |N+1=>X*R0 X K a N+pK (a+N) K
theorem JU(X:Int)(K:List (Nat×Nat))(a:Nat):∀N:Nat,Rk X a K*X^N=Lk X K*R0 X K a N+Rk X (a+N) K
 |0=>by simp [R0]
 |N+1=>by
  have ih:=JU X K a N
  have st:=KF X (a+N) K
  show Rk X a K*X^(N+1)=Lk X K*(X*R0 X K a N+pK (a+N) K)+Rk X (a+N+1) K
  rw [Int.pow_succ]
  generalize X^N=y at*
  generalize R0 X K a N=h at*
  generalize pK (a+N) K=p at*
  generalize Rk X (a+N) K=r at*
  generalize Rk X (a+N+1) K=r' at*
  generalize Rk X a K=r0 at*
  generalize Lk X K=l at*
  grind
theorem Nv{X:Int}:∀(K:List (Nat×Nat))(c:Int),(∀k∈K,(k.1:Int)<X)->(K.map fun k=>(k.2:Int)*((c*Lk X K).fdiv (X-(k.1:Int)))).foldl (· + ·) 0=c*Rk X 0 K:=by
 have shift:∀(l:List Int)(a:Int),l.foldl (· + ·) a=a+l.foldl (· + ·) 0:=by
  intro l
  induction l with
  |nil=>intro a;simp
  |cons x l ih=>intro a;rw [foldl_cons,ih,foldl_cons,ih (0+x)];lia
 intro K
 induction K with
 |nil=>intro c _;simp [Rk]
 |cons k K ih=>
  intro c h
  have hx:=h k (.head _)
  have hne:X-(k.1:Int)≠0:=by lia
  have e1:(c*Lk X (k::K)).fdiv (X-k.1)=c*Lk X K:=by
   rw [show c*Lk X (k::K)=(X-k.1)*(c*Lk X K) by rw [Ka];grind]
   exact Int.mul_fdiv_cancel_left _ hne
  have:=ih (c*(X-k.1)) fun k hk=>h k (.tail _ hk)
  rw [map_cons,foldl_cons,shift,e1]
  have e2:∀l:List Int,c*(X-k.1)*Lk X K=c*Lk X (k::K):=fun _=>by show _=c*((X-k.1)*Lk X K);(rw [Int.mul_assoc];rfl)
  rw [←e2 [],this]
  show 0+(k.2:Int)*(c*Lk X K)+c*(X-k.1)*Rk X 0 K=c*((k.2:Int)*(k.1:Int)^0*Lk X K+(X-k.1)*Rk X 0 K)
  rw [Int.pow_zero]
  generalize Lk X K=l at*
  generalize Rk X 0 K=r at*
  generalize (k.2:Int)=m at*
  generalize (k.1:Int)=d at*
  grind
structure Ix(w:Nat)(K:List (Nat×Nat)):Prop where
 w1:36<=w
 w2:w<=1500
 d:∀k∈K,k.1<=9∧0<k.2
 l1:1<=K.length
 l2:K.length<=5
 p:∀N,N<=10->pK N K<2^35
theorem NU{w:Nat}(h:36<=w):(2:Int)^36<=2^w:=A8 h
theorem EA(w:Nat)(K:List (Nat×Nat))(a:Nat):∀N:Nat,(∀j,j<N->pK (a+j) K<2^w)->F5 w N (R0 (2^w) K a N)=((List.range N).map fun j=>pK (a+j) K).reverse
 |0,_=>rfl
 |N+1,h=>by
  have hp:=h N (by lia)
  have hp0:=L6 (a+N) K
  have hX:(0:Int)<2^w:=Int.pow_pos (by decide)
  have ih:=EA w K a N fun j hj=>h j (by lia)
  rw [range_succ,map_append,List.reverse_append]
  show R0 (2^w) K a (N+1)%2^w::F5 w N (R0 (2^w) K a (N+1)/2^w)=pK (a+N) K::_
  have e:R0 (2^w) K a (N+1)=pK (a+N) K+2^w*R0 (2^w) K a N:=by show _*_+_=_;exact XH
  rw [e,Int.add_mul_emod_self_left,Int.emod_eq_of_lt hp0 hp,Int.add_mul_ediv_left _ _ (Int.ne_of_gt hX),Int.ediv_eq_zero_of_lt hp0 hp,Int.zero_add,ih]
  rfl
theorem H3{X:Int}(hX:0<=X)(K:List (Nat×Nat))(a:Nat):∀N,0<=R0 X K a N
 |0=>by unfold R0;decide
 |N+1=>by
  have:=Int.mul_nonneg hX (H3 hX K a N)
  have:=L6 (a+N) K
  show 0<=_*_+_;exact Va ‹_› ‹_›
theorem EV{X:Int}(hX:0<X)(K:List (Nat×Nat))(a:Nat):∀N,(∀j,j<N->pK (a+j) K<X)->R0 X K a N<X^N
 |0,_=>by rw [Int.pow_zero];exact Int.one_pos
 |N+1,h=>by
  have hp:=h N (by lia)
  have ih:=EV hX K a N fun j hj=>h j (by lia)
  have:X*(R0 X K a N+1)<=X*X^N:=Int.mul_le_mul_of_nonneg_left (by lia) (by exact z3 ‹_›)
  rw [Int.mul_add,Int.mul_one]at this
  (rw [Int.pow_succ];rewrite [Int.mul_comm (X^N)])
  show _*_+_<_;exact Om ‹_› ‹_›
theorem JJ{X:Int}(hX:0<X)(K:List (Nat×Nat))(a:Nat)(h:0<pK a K):∀N,X^N<=R0 X K a (N+1)
 |0=>by show X^0<=X*0+pK (a+0) K;rw [Int.pow_zero,Nat.add_zero];lia
 |N+1=>by
  have ih:=JJ hX K a h N
  have:=Int.mul_le_mul_of_nonneg_left ih (Int.le_of_lt hX)
  have:=L6 (a+(N+1)) K
  (rw [Int.pow_succ];rewrite [Int.mul_comm (X^N)])
  show _<=X*R0 X K a (N+1)+_;exact PT ‹_› ‹_›
theorem U9(w N:Nat):((2:Int)^w)^N=2^(w*N):=by(rw [Int.pow_mul];rfl)
theorem RJ{w N:Nat}{x:Int}(hw:1<=w)(h1:(2^w)^N<=x)(h2:x<(2^w)^(N+1)):(Builtin.Int.intBits x+w-1)/w=N+1:=by
 rw [U9]at h1 h2
 have h0:(0:Int)<2^(w*N):=Int.pow_pos (by decide)
 have b1:=o6 (x:=x) (by lia) h2
 have b2:¬Builtin.Int.intBits x<=w*N:=fun h=>by
  have:=I1 (x:=x) (by lia) h;lia
 rw [Nat.mul_succ]at b1
 refine Nat.div_eq_of_lt_le ?_ ?_
 ·rw [Nat.mul_comm,Nat.mul_succ];exact Yd ‹_›
 ·rw [Nat.mul_comm,Nat.mul_succ,Nat.mul_succ];exact YA ‹_› ‹_›
theorem Sb{X:Int}:∀{K:List (Nat×Nat)},(∀k∈K,(k.1:Int)<X)->Lk X K<=X^K.length
 | [],_=>by simp [Lk]
 |k::K,h=>by
  have h1:=h k (.head _)
  have ih:=Sb (K:=K) fun k hk=>h k (.tail _ hk)
  have h0:=Int.le_of_lt (Z5 (K:=K) fun k hk=>h k (.tail _ hk))
  (rw [Ka,length_cons,Int.pow_succ];rewrite [Int.mul_comm (X^_)])
  exact Int.le_trans (Int.mul_le_mul_of_nonneg_right (by lia) h0) (Int.mul_le_mul_of_nonneg_left ih (by lia))
theorem Sh{X Y:Int}(hY:0<=Y):∀{K:List (Nat×Nat)},(∀k∈K,Y<=X-(k.1:Int))->Y^K.length<=Lk X K
 | [],_=>by simp [Lk]
 |k::K,h=>by
  have h1:=h k (.head _)
  have ih:=Sh hY (K:=K) fun k hk=>h k (.tail _ hk)
  (rw [Ka,length_cons,Int.pow_succ];rewrite [Int.mul_comm (Y^_)])
  exact Int.le_trans (Int.mul_le_mul_of_nonneg_left ih hY) (Int.mul_le_mul_of_nonneg_right h1 (Int.le_trans (Int.pow_nonneg hY) ih))
section
variable{w:Nat}{K:List (Nat×Nat)}(H:Ix w K)
include H
theorem Ix.lt:∀k∈K,(k.1:Int)<2^w:=fun k hk=>by
 have:=(H.d k hk).1
 have:=NU H.w1
 lia
theorem Ix.c:∀k∈K,(k.1:Int)<2^w∧2^35<=(2:Int)^w-k.1:=fun k hk=>by
 have:=(H.d k hk).1
 have:=NU H.w1
 lia
theorem Ix.Lpos:0<Lk (2^w) K:=Z5 H.lt
theorem Ix.Rlt{N:Nat}(h:N<=10):Rk (2^w) N K<Lk (2^w) K:=Ww (c:=2^35) N H.c (H.p N h)
theorem Ix.Rnn(N:Nat):0<=Rk (2^w) N K:=Ca N H.lt
theorem Ix.plt{N:Nat}(h:N<=10):pK N K<2^w:=by
 have:=H.p N h
 have:=NU H.w1
 lia
end
theorem AW{N b q r:Int}(h:N=b*q+r)(h0:0<=r)(h1:r<b):N.fdiv b=q∧N.fmod b=r:=by
 have hb:0<b:=by exact z7 ‹_› ‹_›
 refine b7 (G4 (N:=N) (b:=b) (q:=q) (r:=r) (by(rw [h,Int.mul_comm];rfl)) h0 h1) fun e1 e2=> ?_
 exact⟨by(rw [Int.fdiv_eq_ediv_of_nonneg _ (by exact z3 ‹_›),e1];rfl),by(rw [Int.fmod_eq_emod_of_nonneg _ (by exact z3 ‹_›),e2];rfl)⟩
theorem Cf{s a b:Int}(hs:s=1∨s= -1):(s*a).fdiv (s*b)=a.fdiv b∧(s*a).fmod (s*b)=s*a.fmod b:=by
 rcases hs with rfl |rfl
 ·simp
 ·rw [Int.neg_one_mul,Int.neg_one_mul,Int.neg_one_mul]
  refine⟨Int.neg_fdiv_neg ..,?_⟩
  have e1:=Int.mul_fdiv_add_fmod a b
  have e2:=Int.mul_fdiv_add_fmod (-a) (-b)
  rw [Int.neg_fdiv_neg]at e2
  rw [Int.neg_mul]at e2;lia
section
variable{w:Nat}{K:List (Nat×Nat)}(H:Ix w K)
include H
theorem OT{s:Int}(hs:s=1∨s= -1):(s*Rk (2^w) 0 K*(2^w)^K.length).fdiv (s*Lk (2^w) K)=R0 (2^w) K 0 K.length∧(s*Rk (2^w) 0 K*(2^w)^K.length).fmod (s*Lk (2^w) K)=s*Rk (2^w) K.length K:=by
 have h1:=JU (2^w) K 0 K.length
 rw [Nat.zero_add]at h1
 have h2:=AW h1 (H.Rnn _) (H.Rlt (by have:=H.l2;exact u2 ‹_› rfl))
 have h3:=Cf (a:=Rk (2^w) 0 K*(2^w)^K.length) (b:=Lk (2^w) K) hs
 rw [Int.mul_assoc,h3.1,h3.2,h2.1,h2.2]
 exact⟨rfl,rfl⟩
noncomputable def D5(K:List (Nat×Nat)):Int:=if K.any (fun k=>decide (0<k.1))then 1 else 0
@[reducible] def PE(w:Nat)(K:List (Nat×Nat))(s:Int):Prop:=∀(H:Ix w K)(hs:s=1∨s= -1),(-(s*Rk (2^w) K.length K)*(2^w)^K.length).fdiv (s*Lk (2^w) K)= -R0 (2^w) K K.length K.length-D5 K
noncomputable def s4:Uc:=ec fun u=>PE (u.n 0) (u.e 0) (u.i 0)
omit H in
theorem Yp:PE (s4.n 0) (s4.e 0) (s4.i 0):=fun H hs=>by
 have h1:=JU (2^(s4.n 0)) (s4.e 0) (s4.e 0).length (s4.e 0).length
 have e: -((s4.i 0)*Rk (2^(s4.n 0)) (s4.e 0).length (s4.e 0))*(2^(s4.n 0))^(s4.e 0).length=(s4.i 0)*(-(Rk (2^(s4.n 0)) (s4.e 0).length (s4.e 0)*(2^(s4.n 0))^(s4.e 0).length)):=by
  generalize (2^(s4.n 0):Int)^(s4.e 0).length=y
  grind
 rw [e,(Cf hs).1,h1]
 have hl:=H.Lpos
 have hr:=H.Rlt (N:=(s4.e 0).length+(s4.e 0).length) (by have:=H.l2;lia)
 unfold D5
 by_cases hk:(s4.e 0).any (fun k=>decide (0<k.1))=true
 ·rw [if_pos hk]
  refine a9 (any_eq_true.mp hk) fun k hk1 hk2=> ?_
  have hp:=OP ((s4.e 0).length+(s4.e 0).length) H.lt ⟨k,hk1,by exact of_decide_eq_true hk2,(H.d k hk1).2⟩
  exact(AW (r:=Lk (2^(s4.n 0)) (s4.e 0)-Rk (2^(s4.n 0)) ((s4.e 0).length+(s4.e 0).length) (s4.e 0)) (by grind) (by lia) (by lia)).1
 ·rw [if_neg hk]
  have hz:∀k∈(s4.e 0),k.1=0:=fun k hk1=>by
   refine Nat.eq_zero_of_not_pos fun h=>hk (any_eq_true.mpr ⟨k,hk1,by exact decide_eq_true h⟩)
  have hR:Rk (2^(s4.n 0)) ((s4.e 0).length+(s4.e 0).length) (s4.e 0)=0:=by
   have:=Kl (X:=2^(s4.n 0)) ((s4.e 0).length+(s4.e 0).length-1) hz
   rw [show(s4.e 0).length+(s4.e 0).length-1+1=(s4.e 0).length+(s4.e 0).length by have:=H.l1;lia]at this
   exact this
  rw [hR]
  exact(AW (r:=0) (by grind) (by exact c1) (by assumption)).1
omit H in
theorem LK{w:Nat}{K:List (Nat×Nat)}{s:Int}:PE w K s:=by with_unfolding_all exact Mine.hk (q:=fun u:Uc=>PE (u.n 0) (u.e 0) (u.i 0)) Yp (.mk s4.b s4.p s4.f s4.q s4.v [] [w] [s] [] [K] [] [] [] [] [] [] [] [] [] [])
theorem Qu{s a:Int}(hs:s=1∨s= -1):0<=s*(s*a).fmod (s*Lk (2^w) K)∧s*(s*a).fmod (s*Lk (2^w) K)<Lk (2^w) K:=by
 rw [(Cf hs).2,←Int.mul_assoc,show s*s=1 by rcases hs with rfl |rfl<;>rfl,Int.one_mul]
 exact⟨Int.fmod_nonneg_of_pos _ H.Lpos,Int.fmod_lt_of_pos _ H.Lpos⟩
theorem Jt{s:Int}(hs:s=1∨s= -1):Builtin.Int.intBits (s*Lk (2^w) K)<=8000:=by
 have h1:=Sb (K:=K) H.lt
 have h2:=H.Lpos
 refine intBits_le_iff.mpr ?_
 have e:(s*Lk (2^w) K).natAbs=(Lk (2^w) K).natAbs:=by
  rw [Int.natAbs_mul];rcases hs with rfl |rfl<;>simp
 (rw [e];rewrite [←intBits_le_iff])
 refine Nat.le_trans (m:=w*K.length+1) (o6 (Int.le_of_lt h2) ?_) ?_
 ·refine Int.lt_of_le_of_lt h1 ?_
  rw [U9]
  have:(0:Int)<2^(w*K.length):=Int.pow_pos (by decide)
  rw [Int.pow_succ];lia
 ·have:=Nat.mul_le_mul H.w2 H.l2
  exact JA ‹_› rfl
@[reducible] def Qg(w:Nat)(K:List (Nat×Nat))(R a:Int):Prop:=∀(H:Ix w K){s:Int}(hs:s=1∨s= -1)(h0:0<=R)(hR:R<Lk (2^w) K)(ha:a.natAbs=(R*(2^w)^K.length).natAbs),Builtin.Int.intBits a<=19*Builtin.Int.intBits (s*Lk (2^w) K)
noncomputable def A5:Uc:=ec fun u=>Qg (u.n 0) (u.e 0) (u.i 0) (u.i 1)
omit H in
theorem Yi:Qg (A5.n 0) (A5.e 0) (A5.i 0) (A5.i 1):=fun H{s} hs h0 hR ha=>by
 have hb:∀x y:Int,x.natAbs=y.natAbs->Builtin.Int.intBits x=Builtin.Int.intBits y:=fun x y e=>by
  refine Nat.le_antisymm (intBits_le_iff.mpr ?_) (intBits_le_iff.mpr ?_)
  ·rw [e];exact intBits_le_iff.mp (Nat.le_refl _)
  ·rw [←e];exact intBits_le_iff.mp (Nat.le_refl _)
 have e:(s*Lk (2^(A5.n 0)) (A5.e 0)).natAbs=(Lk (2^(A5.n 0)) (A5.e 0)).natAbs:=by
  rw [Int.natAbs_mul];rcases hs with rfl |rfl<;>simp
 rw [hb _ _ e,hb _ _ ha]
 have hX:(0:Int)<(2^(A5.n 0))^(A5.e 0).length:=Int.pow_pos (Int.pow_pos (by decide))
 have hl:=H.Lpos
 have g1:(A5.i 0)*(2^(A5.n 0))^(A5.e 0).length<2^(Builtin.Int.intBits (Lk (2^(A5.n 0)) (A5.e 0))+(A5.n 0)*(A5.e 0).length):=by
  rw [Int.pow_add,←U9]
  exact Int.mul_lt_mul_of_pos_right (Int.lt_trans hR (I1 (Int.le_of_lt hl) (Nat.le_refl _))) hX
 have g2:=o6 (Int.mul_nonneg h0 (Int.le_of_lt hX)) g1
 have hw1:=H.w1
 have g3:((2:Int)^((A5.n 0)-1))^(A5.e 0).length<=Lk (2^(A5.n 0)) (A5.e 0):=Sh (Int.le_of_lt (Int.pow_pos (by decide))) fun k hk=>by
  have:=(H.c k hk)
  have hd:=(H.d k hk).1
  have e2:(2:Int)^(A5.n 0)=2^((A5.n 0)-1)*2:=by rw [←Int.pow_succ];congr 1;lia
  have:=A8 (m:=35) (n:=(A5.n 0)-1) (by lia)
  lia
 have g4:((A5.n 0)-1)*(A5.e 0).length<Builtin.Int.intBits (Lk (2^(A5.n 0)) (A5.e 0)):=by
  refine Nat.lt_of_not_le fun h=> ?_
  have:=I1 (Int.le_of_lt hl) h
  rw [U9]at g3;lia
 have:(A5.n 0)*(A5.e 0).length<=((A5.n 0)-1)*(A5.e 0).length+(A5.e 0).length:=by
  rw [←Nat.succ_mul];exact Nat.mul_le_mul_right _ (by lia)
 have:=Nat.mul_le_mul (show 35<=(A5.n 0)-1 by lia) (Nat.le_refl (A5.e 0).length)
 lia
omit H in
theorem Mr{w:Nat}{K:List (Nat×Nat)}{R a:Int}:Qg w K R a:=by with_unfolding_all exact Mine.hk (q:=fun u:Uc=>Qg (u.n 0) (u.e 0) (u.i 0) (u.i 1)) Yi (.mk A5.b A5.p A5.f A5.q A5.v [] [w] [R,a] [] [K] [] [] [] [] [] [] [] [] [] [])
theorem PI(hp:0<pK 0 K):(Builtin.Int.intBits (R0 (2^w) K 0 K.length)+w-1)/w=K.length∧F5 w K.length (R0 (2^w) K 0 K.length)=((List.range K.length).map fun j=>pK j K).reverse:=by
 have hX:(0:Int)<2^w:=Int.pow_pos (by decide)
 have hlt:∀j,j<K.length->pK (0+j) K<2^w:=fun j hj=>H.plt (by have:=H.l2;lia)
 refine⟨?_,?_⟩
 ·have h1:=H.l1
  have:=RJ (w:=w) (N:=K.length-1) (x:=R0 (2^w) K 0 K.length) (by have:=H.w1;exact u7 ‹_› rfl) (by
   have:=JJ hX K 0 hp (K.length-1)
   rw [show K.length-1+1=K.length by exact x8 ‹_›]at this;exact this) (by
   rw [show K.length-1+1=K.length by exact x8 ‹_›];exact EV hX K 0 _ hlt)
  lia
 ·rw [EA w K 0 _ hlt]
  congr 1
  apply map_congr_left
  intro j _;(rw [Nat.zero_add];rfl)
theorem Qz(hs:D5 K=1):(Builtin.Int.intBits (R0 (2^w) K K.length K.length)+w-1)/w=K.length∧F5 w K.length (R0 (2^w) K K.length K.length)=((List.range K.length).map fun j=>pK (K.length+j) K).reverse:=by
 have hX:(0:Int)<2^w:=Int.pow_pos (by decide)
 have hlt:∀j,j<K.length->pK (K.length+j) K<2^w:=fun j hj=>H.plt (by have:=H.l2;lia)
 have hp:0<pK K.length K:=by
  unfold D5 at hs
  have hk:K.any (fun k=>decide (0<k.1))=true:=by
   refine Decidable.by_contra fun h=> ?_
   rw [if_neg h]at hs;cases hs
  refine a9 (any_eq_true.mp hk) fun k hk1 hk2=> ?_
  have hkd:=(H.d k hk1).2
  have gen:∀(K:List (Nat×Nat))(N:Nat),k∈K->0<pK N K:=by
   intro K N
   induction K with
   |nil=>intro h;cases h
   |cons c K ih=>
    intro h
    rw [LA]
    have h1:(0:Int)<=(c.2:Int)*(c.1:Int)^N:=Int.mul_nonneg (by exact c1) (Int.pow_nonneg (by exact c1))
    have h2:=L6 N K
    rcases mem_cons.mp h with rfl |h
    ·have hk3:0<k.1:=by exact of_decide_eq_true hk2
     have h3:(0:Int)<(k.2:Int)*(k.1:Int)^N:=Int.mul_pos (by exact c3 ‹_›) (Int.pow_pos (by exact c3 ‹_›))
     exact aQ ‹_› ‹_›
    ·have:=ih h;exact aX ‹_› ‹_›
  exact gen K _ hk1
 refine⟨?_,EA w K _ _ hlt⟩
 have h1:=H.l1
 have:=RJ (w:=w) (N:=K.length-1) (x:=R0 (2^w) K K.length K.length) (by have:=H.w1;exact u7 ‹_› rfl) (by
  have:=JJ hX K K.length hp (K.length-1)
  rw [show K.length-1+1=K.length by exact x8 ‹_›]at this;exact this) (by
  rw [show K.length-1+1=K.length by exact x8 ‹_›];exact EV hX K _ _ hlt)
 lia
end
noncomputable def tw(d:Nat)(r:List Nat):Nat:=(r.takeWhile (· ==d)).length
noncomputable def km:Option Nat->List Nat->List (Nat×Nat)
 |_,[]=>[]
 |p,d::r=>if p=some d then km (some d) r else(d,1+tw d r)::km (some d) r
noncomputable def Y3(N:Nat):List Nat->Int
 | []=>0
 |d::r=>(d:Int)^N+Y3 N r
theorem GB(N d:Nat):∀r:List Nat,Y3 N r=(tw d r:Int)*(d:Int)^N+Y3 N (r.dropWhile (· ==d))
 | []=>by simp [Y3,tw]
 |c::r=>by
  have ih:=GB N d r
  unfold tw at ih ⊢
  by_cases h:(c==d)=true
  ·rw [List.takeWhile_cons_of_pos (p:=fun x=>x==d) h,List.dropWhile_cons_of_pos (p:=fun x=>x==d) h,length_cons]
   have:c=d:=by exact of_decide_eq_true h
   subst this
   show(c:Int)^N+Y3 N r=_
   rw [ih]
   generalize (c:Int)^N=q
   generalize (List.takeWhile (fun x=>x==c) r).length=t
   rw [show((t+1:Nat):Int)=t+1 by exact c7]
   grind
  ·rw [List.takeWhile_cons_of_neg (p:=fun x=>x==d) h,List.dropWhile_cons_of_neg (p:=fun x=>x==d) h];simp
theorem RY(N:Nat):∀(r:List Nat)(d:Nat),pK N (km (some d) r)=Y3 N (r.dropWhile (· ==d))
 | [],_=>rfl
 |c::r,d=>by
  have ih:=RY N r c
  by_cases h:d=c
  ·subst h
   (rw [List.dropWhile_cons_of_pos (by simp),←ih];rewrite [km];rw [if_pos rfl];rfl)
  ·(rw [List.dropWhile_cons_of_neg (by simp;exact fun e=>h e.symm)];rewrite [km];rw [if_neg (by simpa using h),LA,ih])
   show((1+tw c r:Nat):Int)*(c:Int)^N+_=(c:Int)^N+Y3 N r
   rw [GB N c r]
   generalize (c:Int)^N=q
   rw [show((1+tw c r:Nat):Int)=1+tw c r by lia]
   grind
theorem KU(d:Nat)(r:List Nat):km none (d::r)=(d,1+tw d r)::km (some d) r:=by(rewrite [km];rw [if_neg (by simp)];rfl)
theorem Hm(N:Nat):∀D:List Nat,pK N (km none D)=Y3 N D
 | []=>rfl
 |d::r=>by
  rw [KU,LA,RY]
  show((1+tw d r:Nat):Int)*(d:Int)^N+_=(d:Int)^N+Y3 N r
  rw [GB N d r]
  generalize (d:Int)^N=q
  rw [show((1+tw d r:Nat):Int)=1+tw d r by lia]
  grind
theorem Cc(N:Nat)(D:List Nat):Int.ofNat (LV D N)=Y3 N D:=by
 have gen:∀(D:List Nat)(a:Nat),Int.ofNat (D.foldl (fun a d=>Nat.add a (Nat.pow d N)) a)=(a:Int)+Y3 N D:=by
  intro D
  induction D with
  |nil=>intro a;simp [Y3]
  |cons d D ih=>
   intro a
   rw [foldl_cons,ih]
   show((a+d^N:Nat):Int)+_=(a:Int)+((d:Int)^N+Y3 N D)
   rw [Int.natCast_add,Int.natCast_pow];lia
 have:=gen D 0
 unfold LV
 rw [this];simp
theorem JS:∀(r:List Nat)(d:Nat),d::(km (some d) r).map (·.1)=f5 (d::r)
 | [],d=>by rw [V9];rfl
 |c::r,d=>by
  rw [K7,←JS r c]
  by_cases h:d=c
  ·subst h
   (rw [if_pos (by simp)];rewrite [km];rw [if_pos rfl];rfl)
  ·(rw [if_neg (by simpa using h)];rewrite [km];rw [if_neg (by simpa using h)]);rfl
theorem BR(D:List Nat):(km none D).map (·.1)=f5 D:=by
 cases D with
 |nil=>rfl
 |cons d r=>rw [KU,←JS];rfl
theorem DB:∀(D:List Nat)(p:Option Nat)(k:Nat×Nat),k∈km p D->k.1∈D∧0<k.2
 | [],_,_,h=>by cases h
 |d::r,p,k,h=>by
  rw [km]at h
  split at h
  ·refine b7 (DB r _ k h) fun h1 h2=> ?_
   exact⟨.tail _ h1,h2⟩
  ·rcases mem_cons.mp h with rfl |h
   ·exact⟨.head _,by show 0<1+_;lia⟩
   ·refine b7 (DB r _ k h) fun h1 h2=> ?_
    exact⟨.tail _ h1,h2⟩
theorem N9:∀(D:List Nat)(d:Nat),d∈D↔d∈f5 D
 | [],d=>by(rewrite [f5];rfl)
 | [c],d=>by(rw [V9];rfl)
 |a::c::r,d=>by
  have ih:=N9 (c::r) d
  rw [K7]
  by_cases h:a=c
  ·subst h
   (rw [if_pos (by simp)];rewrite [←ih]);simp
  ·(rw [if_neg (by simpa using h)];rewrite [mem_cons,ih,mem_cons];rfl)
theorem P9:∀(D:List Nat),D.Pairwise (· <= ·)->(f5 D).Pairwise (· < ·)
 | [],_=>by rewrite [f5];exact .nil
 | [c],_=>by rw [V9];simp
 |a::c::r,h=>by
  have ih:=P9 (c::r) (pairwise_cons.mp h).2
  rw [K7]
  by_cases e:a=c
  ·rw [if_pos (by simpa using e)];exact ih
  ·rw [if_neg (by simpa using e)]
   refine pairwise_cons.mpr ⟨fun x hx=> ?_,ih⟩
   rw [←N9]at hx
   have h1:=(pairwise_cons.mp h).1 c (.head _)
   rcases mem_cons.mp hx with rfl |hx
   ·exact n8 ‹_› ‹_›
   ·have:=(pairwise_cons.mp (pairwise_cons.mp h).2).1 x hx
    lia
theorem Gy(N:Nat):∀D:List Nat,(∀d∈D,d<=9)->Y3 N D<=D.length*9^N
 | [],_=>by simp [Y3]
 |d::r,h=>by
  have ih:=Gy N r fun d hd=>h d (.tail _ hd)
  have h1:(d:Int)^N<=9^N:=by
   have:=Nat.pow_le_pow_left (h d (.head _)) N
   have e:((d^N:Nat):Int)<=((9^N:Nat):Int):=by exact c4 ‹_›
   rw [Int.natCast_pow,Int.natCast_pow]at e;exact e
  show(d:Int)^N+Y3 N r<=((r.length+1:Nat):Int)*9^N
  generalize (9:Int)^N=q at*
  rw [show((r.length+1:Nat):Int)=r.length+1 by exact c7,Int.add_mul];lia
structure MP(t:Nat)(D:List Nat):Prop where
 len:D.length=5
 srt:D.Pairwise (· <= ·)
 t3:t=1∨t=2∨t=3
 val:∀d∈D,d=0∨(t+1<=d∧d<=t+6)
section
variable{t:Nat}{D:List Nat}(H:MP t D)
include H
theorem MP.le9:∀d∈D,d<=9:=fun d hd=>by
 have:=H.val d hd
 have:=H.t3;lia
theorem MP.kl:(km none D).length=(f5 D).length:=by(rw [←BR,length_map];rfl)
theorem MP.n1:1<=(f5 D).length:=by
 have hl:=H.len
 cases D with
 |nil=>exact T6 (·.ctorIdx) hl rfl
 |cons d r=>rw [←JS];simp
theorem MP.n5:(f5 D).length<=5:=by have:=X0 D;have:=H.len;exact Zs ‹_› ‹_›
theorem MP.kok{w:Nat}(w1:36<=w)(w2:w<=1500):Ix w (km none D):={
 w1:=w1
 w2:=w2
 d:=fun k hk=>⟨H.le9 _ (DB D none k hk).1,(DB D none k hk).2⟩
 l1:=by rw [H.kl];exact H.n1
 l2:=by rw [H.kl];exact H.n5
 p:=fun N hN=>by
  rw [Hm]
  have h1:=Gy N D H.le9
  rw [H.len]at h1
  have h2:(9:Int)^N<=9^10:=by
   have e:=Nat.pow_le_pow_right (show 0<9 by decide) hN
   have:((9^N:Nat):Int)<=((9^10:Nat):Int):=by exact c4 ‹_›
   rw [Int.natCast_pow,Int.natCast_pow]at this;exact this
  have h3:((5:Nat):Int)*9^N<=5*9^10:=Int.mul_le_mul_of_nonneg_left h2 (by decide)
  have:(5:Int)*9^10<2^35:=by decide
  lia}
theorem MP.some_eq:D5 (km none D)=if D.any (fun d=>decide (0<d))then 1 else 0:=by
 unfold D5
 have:(km none D).any (fun k=>decide (0<k.1))=D.any (fun d=>decide (0<d)):=by
  rewrite [Bool.eq_iff_iff,any_eq_true,any_eq_true]
  constructor
  ·intro hh_ex
   refine a9 hh_ex fun k h1 h2=> ?_
   clear hh_ex
   exact⟨k.1,(DB D none k h1).1,h2⟩
  ·intro hh_ex
   refine a9 hh_ex fun d h1 h2=> ?_
   clear hh_ex
   rw [N9,←BR]at h1
   refine a9 (mem_map.mp h1) fun k h3 ee2=> ?_
   subst ee2
   exact⟨k,h3,h2⟩
 (rw [this];rfl)
theorem MP.p0:0<pK 0 (km none D):=by
 rw [Hm]
 have hl:=H.len
 cases D with
 |nil=>exact T6 (·.ctorIdx) hl rfl
 |cons d r=>
  have:0<=Y3 0 r:=by rw [←Cc];exact Int.natCast_nonneg _
  show 0<(d:Int)^0+Y3 0 r
  rw [Int.pow_zero];lia
theorem LP{w m1 m2:Nat}(w1:36<=w)(w2:w<=1500)(h1:m1=(Builtin.Int.intBits (R0 (2^w) (km none D) 0 (km none D).length)+w-1)/w)(h2:m2=(Builtin.Int.intBits (R0 (2^w) (km none D) (km none D).length (km none D).length)+w-1)/w):
  (F5 w m1 (R0 (2^w) (km none D) 0 (km none D).length)).reverse++(F5 w m2 (R0 (2^w) (km none D) (km none D).length (km none D).length)).reverse++List.replicate (1-D5 (km none D)).toNat 0=Cl D (f5 D).length:=by
 have hk:=H.kok w1 w2
 refine b7 (PI hk H.p0) fun a1 a2=> ?_
 rw [h1,a1,a2,List.reverse_reverse]
 have hpow:∀j,pK j (km none D)=Int.ofNat (LV D j):=fun j=>by(rw [Hm,Cc];rfl)
 unfold Cl
 rw [←H.kl]
 by_cases hs:D5 (km none D)=1
 ·refine b7 (Qz hk hs) fun b1 b2=> ?_
  rw [h2,b1,b2,List.reverse_reverse,hs]
  show _++_++[]=_
  rw [append_nil,Nat.two_mul,List.range_add,map_append,map_map]
  congr 1
  ·exact map_congr_left fun j _=>hpow j
  ·exact map_congr_left fun j _=>hpow _
 ·have hz:∀d∈D,d=0:=fun d hd=>by
   rw [H.some_eq]at hs
   refine Nat.eq_zero_of_not_pos fun h=>hs (if_pos (any_eq_true.mpr ⟨d,hd,by exact decide_eq_true h⟩))
  obtain rfl:D=[0,0,0,0,0]:=by
   have:=List.eq_replicate_of_mem hz
   rw [H.len]at this;exact this
  have e:(km none [0,0,0,0,0])=[(0,5)]:=by decide
  rw [h2,e]
  have e2:R0 (2^w) [(0,5)] ([(0,5)]:List (Nat×Nat)).length ([(0,5)]:List (Nat×Nat)).length=0:=by
   show 2^w*0+pK (1+0) [(0,5)]=0
   rw [Int.mul_zero];decide
  rw [e2,show(Builtin.Int.intBits 0+w-1)/w=0 by
   rw [show Builtin.Int.intBits 0=0 by decide,Nat.zero_add];exact Nat.div_eq_of_lt (by lia)]
  show List.map (fun j=>pK j [(0,5)]) (List.range 1)++[]++List.replicate (1-D5 [(0,5)]).toNat 0=_
  decide+kernel
end
noncomputable def K3(d:Nat)(b:Bool):List Nat:=List.replicate d 46++[if b then 65 else 97,46]
noncomputable def Qi(d:Nat):Nat:=if d=0 then 0 else d+1
noncomputable def Df(z:List Nat):List ((Nat×Bool)×List Nat)->List Nat
 | []=>z
 |r::rs=>K3 r.1.1 r.1.2++(r.2++Df z rs)
def Fz(e:List Nat):Prop:=e=[10]∨e=[13,10]∨e=[13]
noncomputable def Go(rs:List ((Nat×Bool)×List Nat)):List ((Nat×Bool)×List Nat):=rs.map fun r=>(r.1,[13,10])
noncomputable def KT(rs:List ((Nat×Bool)×List Nat)):List ((Nat×Bool)×List Nat):=rs.map fun r=>((Qi r.1.1,r.1.2),r.2)
theorem FM:∀(p rest:List Nat),(∀c∈p,BB c=false)->B9 (p++rest)=p++B9 rest
 | [],_,_=>rfl
 |c::p,rest,h=>by
  (rw [cons_append];rewrite [Kp (h c (.head _))];rw [FM p rest fun c hc=>h c (.tail _ hc)]);rfl
theorem AS(c d:Nat)(r:List Nat):B9 (c::d::r)=if BB c then 13::10::(if c==13&&d==10 then B9 r else B9 (d::r))else c::B9 (d::r):=by(rewrite [B9];rfl)
theorem Nk{e rest:List Nat}(he:Fz e)(hr:rest.head? ≠some 10):B9 (e++rest)=13::10::B9 rest:=by
 rcases he with rfl |rfl |rfl
 ·cases rest with
  |nil=>rfl
  |cons d r=>
   show B9 (10::d::r)=_
   rw [AS];rfl
 ·show B9 (13::10::rest)=_
  rw [AS];rfl
 ·cases rest with
  |nil=>rfl
  |cons d r=>
   show B9 (13::d::r)=_
   rw [AS]
   have hd:(d==10)=false:=by
    rewrite [beq_eq_false_iff_ne];intro e;subst e;exact hr rfl
   rw [hd];rfl
theorem Ar(d:Nat)(b:Bool):∀c∈K3 d b,BB c=false:=fun c hc=>by
 rcases mem_append.mp hc with h |h
 ·rw [List.eq_of_mem_replicate h];rfl
 ·cases b<;>simp at h<;>rcases h with rfl |rfl<;>rfl
theorem LD(d:Nat)(b:Bool)(r:List Nat):∃c t,K3 d b++r=c::t∧BB c=false:=by
 have h:=Ar d b
 unfold K3 at h ⊢
 cases d with
 |zero=>exact⟨_,_,rfl,h _ (by simp)⟩
 |succ d=>exact⟨_,_,rfl,h _ (by simp [replicate_succ])⟩
theorem Os(z:List Nat)(hz:z.head? ≠some 10)(rs:List ((Nat×Bool)×List Nat)):(Df z rs).head? ≠some 10:=by
 cases rs with
 |nil=>exact hz
 |cons r rs=>
  refine o1 (LD r.1.1 r.1.2 (r.2++Df z rs)) fun c t e h=> ?_
  show(K3 r.1.1 r.1.2++(r.2++Df z rs)).head? ≠_
  rw [e]
  intro hc
  (replace hc:=Option.some.inj hc;subst hc);exact tf h
theorem Im{z:List Nat}(hz:z=[13]∨z=[13,10]):∀rs:List ((Nat×Bool)×List Nat),(∀r∈rs,Fz r.2)->B9 (Df z rs)=Df [13,10] (Go rs)
 | [],_=>by rcases hz with rfl |rfl<;>rfl
 |r::rs,h=>by
  show B9 (K3 r.1.1 r.1.2++(r.2++Df z rs))=K3 r.1.1 r.1.2++([13,10]++Df [13,10] (Go rs))
  rw [FM _ _ (Ar _ _),Nk (h r (.head _)) (Os z (by rcases hz with rfl |rfl<;>decide) rs),Im hz rs fun r hr=>h r (.tail _ hr)];rfl
theorem KM:∀(p rest:List Nat),(∀c∈p,(c==10)=false)->dq false (p++rest)=p++dq false rest
 | [],_,_=>rfl
 |c::p,rest,h=>by
  show c::dq (c==10) (p++rest)=_
  rw [h c (.head _),KM p rest fun c hc=>h c (.tail _ hc)];rfl
theorem YR{c:Nat}(h:BB c=false):(c==10)=false:=by
 unfold BB at h
 rw [Bool.or_eq_false_iff]at h;exact h.1
theorem Tl(d:Nat)(b:Bool)(rest:List Nat):dq true (K3 d b++rest)=K3 (Qi d) b++dq false rest:=by
 have h:=Ar d b
 cases d with
 |zero=>
  cases b
  ·show 97::dq false (46::rest)=[97,46]++dq false rest
   rfl
  ·rfl
 |succ d=>
  have e:K3 (d+1) b++rest=46::(K3 d b++rest):=rfl
  have e2:K3 (Qi (d+1)) b=46::46::K3 d b:=rfl
  rw [e,e2]
  show 46::46::dq false (K3 d b++rest)=_
  rw [KM _ _ fun c hc=>YR (Ar d b c hc)];rfl
theorem Nq:∀rs:List ((Nat×Bool)×List Nat),dq true (Df [13,10] (Go rs))=Df [13,10] (KT (Go rs))
 | []=>rfl
 |r::rs=>by
  show dq true (K3 r.1.1 r.1.2++(13::10::Df [13,10] (Go rs)))=K3 (Qi r.1.1) r.1.2++(13::10::Df [13,10] (KT (Go rs)))
  rw [Tl]
  show _++(13::10::dq true (Df [13,10] (Go rs)))=_
  (rw [Nq rs];rfl)
theorem SN{z:List Nat}(hz:z=[13]∨z=[13,10])(rs:List ((Nat×Bool)×List Nat))(h:∀r∈rs,Fz r.2):qd (Df z rs)=Df [13,10] (KT (Go rs)):=by
 unfold qd
 (rw [Im hz rs h,Nq];rfl)
noncomputable def BA(m d:Nat):Nat:=if d=0 then 0 else d+m
noncomputable def Q3(m:Nat)(rs:List ((Nat×Bool)×List Nat)):List ((Nat×Bool)×List Nat):=rs.map fun r=>((BA m r.1.1,r.1.2),[13,10])
theorem HG{z:List Nat}(hz:z=[13]∨z=[13,10])(rs:List ((Nat×Bool)×List Nat))(h:∀r∈rs,Fz r.2):qd (Df z rs)=Df [13,10] (Q3 1 rs):=by
 rw [SN hz rs h]
 congr 1
 unfold KT Go Q3
 rw [map_map];rfl
theorem Rf(m:Nat)(rs:List ((Nat×Bool)×List Nat)):qd (Df [13,10] (Q3 m rs))=Df [13,10] (Q3 (m+1) rs):=by
 rw [HG (.inr rfl) _ fun r hr=>by
  obtain⟨q,_,rfl⟩:=mem_map.mp hr;exact .inr (.inl rfl)]
 congr 1
 unfold Q3
 rw [map_map]
 apply map_congr_left
 intro r _
 show((BA 1 (BA m r.1.1),r.1.2),_)=((BA (m+1) r.1.1,r.1.2),_)
 congr 2
 unfold BA
 by_cases h:r.1.1=0
 ·rw [if_pos h,if_pos h];rfl
 ·rw [if_neg h,if_neg h,if_neg (by lia)];exact aU
theorem Ho{z:List Nat}(hz:z.length<=2):∀rs:List ((Nat×Bool)×List Nat),(∀r∈rs,r.1.1<=9∧r.2.length<=2)->(Df z rs).length<=13*rs.length+2
 | [],_=>by show z.length<=2;exact hz
 |r::rs,h=>by
  have ih:=Ho hz rs fun r hr=>h r (.tail _ hr)
  refine b7 (h r (.head _)) fun h1 h2=> ?_
  show(K3 r.1.1 r.1.2++(r.2++Df z rs)).length<=_
  simp only [K3,length_append,length_replicate,length_cons,length_nil]
  lia
section
open PySem.StrLaws PySem.Builtin PySem.Builtin.Str
noncomputable def IU:Str:=Str.ofString "\r\n"
theorem Ih:IU.cps.toList=[13,10]:=by decide+kernel
theorem V5:IU.length=2:=by decide+kernel
noncomputable def O4:List Nat->Nat->Nat->List Nat
 | [],_,_=>[]
 |c::r,i,free=>if free<=i∧c=13∧r.head? =some 10 then i::O4 r (i+1) (i+2)else O4 r (i+1) free
@[reducible] def PA(x:Str)(i:Nat):Prop:=∀(c:Nat)(r:List Nat)(h:x.cps.toList.drop i=c::r),(i+IU.length<=x.length∧subAt x IU i=true)↔(c=13∧r.head? =some 10)
noncomputable def GG:Uc:=ec fun u=>PA (u.s 0) (u.n 0)
theorem YN:PA (GG.s 0) (GG.n 0):=fun c r h=>by
 rw [subAt_eq,Ih,V5,h]
 have hl:(GG.s 0).length=(GG.s 0).cps.toList.length:=by exact rfl
 have hd:=congrArg List.length h
 rw [length_drop,length_cons]at hd
 constructor
 ·rintro⟨h1,h2⟩
  cases r with
  |nil=>rw [length_nil]at hd;lia
  |cons d r=>
   have:=eq_of_beq h2
   simp at this
   exact⟨this.1,by simp [this.2]⟩
 ·rintro⟨rfl,h2⟩
  cases r with
  |nil=>exact on h2
  |cons d r=>
   (replace h2:=Option.some.inj h2;subst h2)
   exact⟨by rw [length_cons]at hd;lia,by exact rfl⟩
theorem TY(x:Str)(i:Nat):PA x i:=by with_unfolding_all exact hk (q:=fun u:Uc=>PA (u.s 0) (u.n 0)) YN (.mk GG.b GG.p GG.f GG.q GG.v [] [i] [] [] [] [] [] [x] [] [] [] [] [] [] [])
theorem Jy(x:Str):∀(suf:List Nat)(i:Nat)(arr:Array Nat)(free:Nat),x.cps.toList.drop i=suf->arr.size<=i->(forIn (List.range' i (suf.length+1)) (arr,free) (occBody x IU x.length (x.length+1))).run.fst.toList=arr.toList++O4 suf i free
 | [],i,arr,free,h,ha=>by
  have hl:x.length=x.cps.toList.length:=by exact rfl
  have hd:=congrArg List.length h
  rw [length_drop,length_nil]at hd
  rw [length_nil,Nat.zero_add,range'_succ,forIn_cons]
  unfold occBody
  rw [if_neg (fun h=>by have:=h.1.2;rw [V5]at this;lia),show O4 [] i free=[]from rfl,append_nil]
  rfl
 |c::r,i,arr,free,h,ha=>by
  have hl:x.length=x.cps.toList.length:=by exact rfl
  have hd:=congrArg List.length h
  rw [length_drop,length_cons]at hd
  have hr:x.cps.toList.drop (i+1)=r:=by
   rw [←drop_drop,h];rfl
  rw [length_cons,range'_succ,forIn_cons]
  have hat:=TY x i c r h
  unfold occBody
  by_cases hc:free<=i∧c=13∧r.head? =some 10
  ·have h2:=hat.mpr hc.2
   rw [if_pos ⟨⟨⟨by show arr.size<_;lia,hc.1⟩,h2.1⟩,h2.2⟩]
   have ih:=Jy x r (i+1) (arr.push i) (i+2) hr (by rw [Array.size_push];lia)
   rw [V5]
   refine Eq.trans ih ?_
   (rw [Array.toList_push];rewrite [O4];rw [if_pos hc]);simp
  ·rw [if_neg (fun h'=>hc ⟨h'.1.1.2,hat.mp ⟨h'.1.2,h'.2⟩⟩)]
   have ih:=Jy x r (i+1) arr free hr (by exact s1 ‹_›)
   refine Eq.trans ih ?_
   (rewrite [O4];rw [if_neg hc];rfl)
theorem Hh(x:Str):occurrences x IU 0 x.length (x.length+1)=O4 x.cps.toList 0 0:=by
 rw [occ_eq]
 have hl:x.length=x.cps.toList.length:=by exact rfl
 rw [show x.length+1-0=x.cps.toList.length+1 by lia]
 exact Jy x x.cps.toList 0 #[] 0 rfl (Nat.zero_le _)
noncomputable def E7:List (List Nat)->List Nat
 | []=>[13,10]
 |R::rs=>R++(13::10::E7 rs)
theorem Fh:∀(R rest:List Nat)(i free:Nat),(∀c∈R,c≠13)->O4 (R++rest) i free=O4 rest (i+R.length) free
 | [],_,_,_,_=>rfl
 |c::R,rest,i,free,h=>by
  show O4 (c::(R++rest)) i free=_
  (rewrite [O4];rw [if_neg (fun hc=>h c (.head _) hc.2.1),Fh R rest _ _ fun c hc=>h c (.tail _ hc),length_cons])
  congr 1;exact VN
theorem Ld(rest:List Nat)(i free:Nat)(h:free<=i):O4 (13::10::rest) i free=i::O4 rest (i+2) (i+2):=by
 (rewrite [O4];rw [if_pos ⟨h,rfl,rfl⟩];rewrite [O4];rw [if_neg (fun hc=>by lia)];rfl)
theorem Cd:∀(rs:List (List Nat))(i free:Nat),(∀R∈rs,∀c∈R,c≠13)->free<=i->O4 (E7 rs) i free=match rs with
  | []=>[i]
  |R::rs=>(i+R.length)::O4 (E7 rs) (i+R.length+2) (i+R.length+2)
 | [],i,free,_,h=>by show O4 (13::10::[]) i free=_;rw [Ld _ _ _ h];rfl
 |R::rs,i,free,hR,h=>by
  show O4 (R++(13::10::E7 rs)) i free=_
  (rw [Fh R _ i free (hR R (.head _)),Ld _ _ _ (by lia)];rfl)
theorem EO(x:Str):∀(rs:List (List Nat))(i:Nat),(∀R∈rs,∀c∈R,c≠13)->x.cps.toList.drop i=E7 rs->partsFrom x 2 i (O4 (E7 rs) i i)=(rs.map fun R=>(⟨R.toArray⟩:Str))++[⟨#[]⟩,⟨#[]⟩]
 | [],i,hR,h=>by
  rw [Cd [] i i hR (Nat.le_refl _)]
  show [strSub x i i,strSub x (i+2) x.length]=[⟨#[]⟩,⟨#[]⟩]
  have e1:strSub x i i=⟨#[]⟩:=Mine.Str.ext' (by rw [strSub_toList,Nat.sub_self];rfl)
  have e2:strSub x (i+2) x.length=⟨#[]⟩:=Mine.Str.ext' (by rw [strSub_toList,←drop_drop,h];show List.take _ []=[];exact List.take_nil)
  (rw [e1,e2];rfl)
 |R::rs,i,hR,h=>by
  rw [Cd (R::rs) i i hR (Nat.le_refl _)]
  have hd:x.cps.toList.drop (i+R.length+2)=E7 rs:=by
   rw [Nat.add_assoc,←drop_drop,h]
   show(R++(13::10::E7 rs)).drop (R.length+2)=_
   rw [←drop_drop,List.drop_left];rfl
  show strSub x i (i+R.length)::partsFrom x 2 (i+R.length+2) (O4 (E7 rs) (i+R.length+2) (i+R.length+2))=_
  rw [EO x rs _ (fun R hR'=>hR R (.tail _ hR')) hd]
  have e1:strSub x i (i+R.length)=⟨R.toArray⟩:=Mine.Str.ext' (by
   rw [strSub_toList,Nat.add_sub_cancel_left,h]
   show(R++(13::10::E7 rs)).take R.length=R
   (rw [List.take_left];rfl))
  rw [e1];rfl
theorem Ro(x:Str):1<=Builtin.Str.strKind x:=by
 unfold Builtin.Str.strKind
 split
 ·exact Nat.le_refl _
 ·split<;>decide
theorem DW(x:Str)(rs:List (List Nat))(hR:∀R∈rs,∀c∈R,c≠13)(h:x.cps.toList=E7 rs):Txt.split x IU=(rs.map fun R=>(⟨R.toArray⟩:Str))++[⟨#[]⟩,⟨#[]⟩]:=by
 unfold Txt.split
 have hl:x.length=x.cps.toList.length:=by exact rfl
 have h2:2<=(E7 rs).length:=by
  cases rs with
  |nil=>exact Nat.le_refl _
  |cons R rs=>show 2<=(R++(13::10::E7 rs)).length;simp;lia
 (rewrite [if_neg,if_neg];rw [partsBetween_eq,V5,Hh])
 ·have:=EO x rs 0 hR (by(rw [drop_zero,h];rfl))
  rw [h];exact this
 ·rw [Hh,h,Cd rs 0 0 hR (Nat.le_refl _)]
  cases rs<;>simp
 ·have hk:Builtin.Str.strKind IU=1:=by decide+kernel
  have:=Ro x
  rw [V5,hk,h]at*
  simp;lia
theorem Bi(x:Str):∀(suf:List Nat)(i free:Nat),(O4 suf i free).length<=suf.length
 | [],_,_=>Nat.le_refl _
 |c::r,i,free=>by
  rewrite [O4]
  have h1:=Bi x r (i+1) (i+2)
  have h2:=Bi x r (i+1) free
  split<;>simp only [length_cons]<;>(first |lia |exact s1 ‹_›)
theorem EU(x:Str)(h:x.length<=1000):(partsBetween x (occurrences x IU 0 x.length (x.length+1)) IU.length).length<=1000000:=by
 rw [length_partsBetween,Hh]
 have hl:x.length=x.cps.toList.length:=by exact rfl
 have:=Bi x x.cps.toList 0 0
 lia
end
structure G8(xs:List Str)(idx:List Nat)(SH:List Str):Prop where
 out:∃q:List Nat,q.Perm idx∧SH=q.map (fun i=>xs.getD i Str.empty)∧q.Pairwise (Bt (i5 xs))
theorem Bt.asymm{k:Nat->Int}{a b:Nat}(h:Bt k a b)(h':Bt k b a):False:=by
 unfold Bt at*;lia
theorem CG{R:Nat->Nat->Prop}(ha:∀a b,R a b->R b a->False):∀(l l':List Nat),l.Perm l'->l.Pairwise R->l'.Pairwise R->l=l'
 | [],l',h,_,_=>by(rw [List.nil_perm.mp h];rfl)
 |a::l,[],h,_,_=>by have:=h.length_eq;simp at this
 |a::l,b::l',h,h1,h2=>by
  rw [pairwise_cons]at h1 h2
  have e:a=b:=by
   refine Decidable.by_contra fun hne=> ?_
   have ha1:a∈l':=by
    have:=h.mem_iff.mp (List.mem_cons_self (a:=a))
    rcases mem_cons.mp this with e |h'
    ·exact absurd e hne
    ·exact h'
   have hb1:b∈l:=by
    have:=h.mem_iff.mpr (List.mem_cons_self (a:=b))
    rcases mem_cons.mp this with e |h'
    ·exact absurd e.symm hne
    ·exact h'
   exact ha _ _ (h1.1 b hb1) (h2.1 a ha1)
  subst e
  (rw [CG ha l l' (List.perm_cons a |>.mp h) h1.2 h2.2];rfl)
theorem V0{xs:List Str}{q:List Nat}{i:Nat}(h:i<q.length):f9 (q.map fun i=>xs.getD i Str.empty) i=i5 xs q[i]:=by
 unfold f9 i5
 rw [getD_eq_getElem?_getD,getElem?_map,getElem?_eq_getElem h];rfl
section
variable{xs SH:List Str}{idx:List Nat}
theorem G8.len(h:G8 xs idx SH):SH.length=idx.length:=by
 refine E6 (h.out) fun q h1 ee2 _=> ?_
 subst ee2
 (rw [length_map,h1.length_eq];rfl)
theorem G8.sorted(h:G8 xs idx SH):∀i j,i<=j->j<SH.length->f9 SH i<=f9 SH j:=by
 refine E6 (h.out) fun q h1 ee2 h3=> ?_
 subst ee2
 intro i j hij hj
 rw [length_map]at hj
 rw [V0 (by exact t2 ‹_› ‹_›),V0 hj]
 rcases Nat.lt_or_eq_of_le hij with hlt |rfl
 ·have:=List.pairwise_iff_getElem.mp h3 i j (by exact t3 ‹_› ‹_›) hj hlt
  unfold Bt at this;lia
 ·exact Int.le_refl _
theorem G8.ins(h:G8 xs idx SH){m r:Nat}(hr:r<=SH.length)
  (h1:∀i,i<r->∀k∈idx,f9 SH i=i5 xs k->Bt (i5 xs) k m) (h2:∀i,r<=i->i<SH.length->∀k∈idx,f9 SH i=i5 xs k->Bt (i5 xs) m k):
  G8 xs (m::idx) (Y5 SH r (xs.getD m Str.empty)):=by
 refine E6 (h.out) fun q g1 ee2 g3=> ?_
 subst ee2
 rw [length_map]at hr h2
 have hspl:q=q.take r++q.drop r:=(List.take_append_drop r q).symm
 refine⟨q.take r++m::q.drop r,?_,?_,?_⟩
 ·refine List.perm_middle.trans (List.Perm.cons m ?_)
  rw [List.take_append_drop];exact g1
 ·unfold Y5
  (rw [map_append,map_cons,map_take,map_drop];rfl)
 ·have g4:=g3
  rw [hspl,List.pairwise_append]at g4
  rewrite [List.pairwise_append,pairwise_cons]
  have hb:∀a∈q.take r,Bt (i5 xs) a m:=fun a ha=>by
   obtain⟨i,hi,rfl⟩:=getElem_of_mem ha
   rw [length_take]at hi
   have hiq:i<q.length:=by exact YO ‹_›
   rw [List.getElem_take]
   exact h1 i (by exact Fd ‹_›) _ (g1.mem_iff.mp (getElem_mem hiq)) (V0 hiq)
  have hc:∀a∈q.drop r,Bt (i5 xs) m a:=fun a ha=>by
   obtain⟨i,hi,rfl⟩:=getElem_of_mem ha
   rw [length_drop]at hi
   have hiq:r+i<q.length:=by exact Su ‹_›
   rw [List.getElem_drop]
   exact h2 (r+i) (by exact EW) hiq _ (g1.mem_iff.mp (getElem_mem hiq)) (V0 hiq)
  refine⟨g4.1,⟨hc,g4.2.1⟩,fun a ha b hb'=> ?_⟩
  rcases mem_cons.mp hb' with rfl |hb'
  ·exact hb a ha
  ·exact g4.2.2 a ha b hb'
theorem G8.perm(h:G8 xs idx SH){idx':List Nat}(hp:idx.Perm idx'):G8 xs idx' SH:=by
 refine E6 (h.out) fun q h1 h2 h3=> ?_
 exact⟨q,h1.trans hp,h2,h3⟩
theorem G8.eq(h:G8 xs (List.range 5) SH){p:List Nat}(hp:p.Perm (List.range 5))(hs:p.Pairwise (Bt (i5 xs))):SH=p.map fun i=>xs.getD i Str.empty:=by
 refine E6 (h.out) fun q h1 ee2 h3=> ?_
 subst ee2
 (rw [CG (fun a b=>Bt.asymm) q p (h1.trans hp.symm) h3 hs];rfl)
theorem G8.right{m r:Nat}(h:G8 xs (List.range m) SH)(hr:r<=SH.length)(h1:∀i,i<r->f9 SH i<=i5 xs m)(h2:∀i,r<=i->i<SH.length->i5 xs m<f9 SH i):G8 xs (List.range (m+1)) (Y5 SH r (xs.getD m Str.empty)):=by
 refine(h.ins (m:=m) hr (fun i hi k hk e=> ?_) fun i hi hi' k hk e=> ?_).perm ?_
 ·have:=h1 i hi
  have:=mem_range.mp hk
  unfold Bt;lia
 ·have:=h2 i hi hi'
  unfold Bt;lia
 ·rw [range_succ]
  exact(List.perm_append_singleton m (List.range m)).symm
theorem G8.left{m r:Nat}(h:G8 xs ((List.range 5).drop (m+1)) SH)(hm:m<5)(hr:r<=SH.length)(h1:∀i,i<r->f9 SH i<i5 xs m)(h2:∀i,r<=i->i<SH.length->i5 xs m<=f9 SH i):G8 xs ((List.range 5).drop m) (Y5 SH r (xs.getD m Str.empty)):=by
 have e:(List.range 5).drop m=m::(List.range 5).drop (m+1):=by
  (rw [drop_eq_getElem_cons (by rw [length_range];exact hm),getElem_range];rfl)
 rw [e]
 refine h.ins hr (fun i hi k hk e=> ?_) fun i hi hi' k hk e=> ?_
 ·have:=h1 i hi
  unfold Bt;lia
 ·have:=h2 i hi hi'
  have hk2:m<k:=by
   obtain⟨j,hj,rfl⟩:=getElem_of_mem hk
   rw [List.getElem_drop,getElem_range];lia
  unfold Bt;lia
end
noncomputable def SS:Sm:=(.asg 1 (.call (.glob (.builtin "sum")) (.cons (.var 0) .nil)))
noncomputable def SQ:Sm:=(.asg 2 (.comp (.bin .mod (.bin .add (.var 4) (.call (.glob (.builtin "sum")) (.cons (.slice (.var 0) (.var 3) .none (.int 5)) .nil))) (.int 42)) (.two 3 4) (.enum (.tup (.cons (.int 3) (.cons (.int 21) (.cons (.int 40) (.cons (.int 10) (.cons (.int 15) .nil))))))) [0]))
noncomputable def Tm:Sm:=(.asg 5 (.bin .add (.int 1) (.bin .mod (.bin .add (.var 1) (.int 1)) (.int 3))))
noncomputable def TV:Sm:=(.asg 6 (.comp (.call (.glob (.ref 147)) (.cons (.var 7) (.cons (.var 5) .nil))) (.one 7) (.list (.var 2)) [5]))
noncomputable def TH:Sm:=(.asg 8 (.bin .add (.meth (.str "") "join" (.cons (.comp (.bin .add (.call (.glob (.ref 147)) (.cons (.var 7) (.cons (.int 0) .nil))) (.item (.tup (.cons (.str "\n") (.cons (.str "\r\n") (.cons (.str "\r") .nil)))) (.bin .fdiv (.var 7) (.int 14)))) (.one 7) (.list (.var 2)) []) .nil)) (.str "\r")))
noncomputable def UM:o7:=(.cons (.asg 8 (.call (.glob (.ref 126)) (.cons (.var 8) .nil)))
 .nil)
noncomputable def Tk:Sm:=(.for (.one 9) (.range1 (.var 5)) UM)
noncomputable def TU:Sm:=(.ite (.cmp (.var 8) .ne (.bin .add (.meth (.str "") "join" (.cons (.comp (.bin .add (.var 10) (.str "\r\n")) (.one 10) (.list (.var 6)) []) .nil)) (.str "\r\n"))) (.cons (.ret (.bool false))
 .nil) .nil)
noncomputable def Mt:Sm:=(.asg 11 (.bin .mul (.list (.cons (.bin .mul (.str ".") (.int 20)) (.cons (.str "") .nil))) (.bin .mod (.var 1) (.int 2))))
noncomputable def Tn:o7:=(.cons (.ite (.cmp (.bin .mod (.var 1) (.int 2)) .eq (.int 1)) (.cons (.expr (.callk (.glob (.ref 100)) (.cons (.var 11) (.cons (.var 10) (.cons (.int 1) (.cons (.bin .sub (.call (.glob (.builtin "len")) (.cons (.var 11) .nil)) (.int 1)) .nil)))) "key" (.glob (.ref 154))))
 .nil) (.cons (.expr (.callk (.glob (.ref 82)) (.cons (.var 11) (.cons (.var 10) .nil)) "key" (.glob (.ref 154))))
 .nil))
 .nil)
noncomputable def OR:Sm:=(.for (.one 10) (.list (.slice (.meth (.var 8) "split" (.cons (.str "\r\n") .nil)) .none (.int 5) .none)) Tn)
noncomputable def MK:Sm:=(.ite (.cmp (.bin .mod (.var 1) (.int 2)) .eq (.int 1)) (.cons (.asg 11 (.slice (.var 11) (.int 1) (.neg (.int 1)) .none))
 .nil) .nil)
noncomputable def Jc:Sm:=(.ite (.cmp (.var 11) .ne (.callk (.glob (.builtin "sorted")) (.cons (.ite (.cmp (.bin .mod (.var 1) (.int 2)) .eq (.int 1)) (.slice (.var 6) .none .none (.neg (.int 1))) (.var 6)) .nil) "key" (.glob (.ref 154)))) (.cons (.ret (.bool false))
 .nil) .nil)
noncomputable def NZ:Sm:=(.asg 12 (.list .nil))
noncomputable def Sl:o7:=(.cons (.ite (.cmp (.callk (.glob (.ref 109)) (.cons (.var 11) (.cons (.call (.glob (.ref 154)) (.cons (.var 10) .nil)) (.cons (.int 0) (.cons (.bin .add (.var 3) (.int 1)) .nil)))) "key" (.glob (.ref 154))) .eq (.var 3)) (.cons (.expr (.meth (.var 12) "append" (.cons (.tup (.cons (.call (.glob (.ref 154)) (.cons (.var 10) .nil)) (.cons (.bin .sub (.callk (.glob (.ref 91)) (.cons (.var 11) (.cons (.call (.glob (.ref 154)) (.cons (.var 10) .nil)) (.cons (.var 3) .nil))) "key" (.glob (.ref 154))) (.var 3)) .nil))) .nil)))
 .nil) .nil)
 .nil)
noncomputable def Np:Sm:=(.for (.two 3 10) (.enum (.var 11)) Sl)
noncomputable def Ob:Sm:=(.asg 13 (.call (.glob (.builtin "len")) (.cons (.var 12) .nil)))
noncomputable def Pb:Sm:=(.asg 14 (.bin .sub (.int 1) (.bin .mul (.int 2) (.bin .mod (.bin .fdiv (.var 1) (.int 2)) (.int 2)))))
noncomputable def MI:Sm:=(.asg 15 (.bin .add (.bin .add (.int 36) (.bin .mod (.bin .fdiv (.var 1) (.int 3)) (.int 29))) (.bin .mul (.int 1400) (.call (.glob (.type "int")) (.cons (.cmp (.bin .mod (.bin .fdiv (.var 1) (.int 87)) (.int 8)) .eq (.int 5)) .nil)))))
noncomputable def Nm:Sm:=(.asg 16 (.bin .pow (.int 2) (.var 15)))
noncomputable def OE:Sm:=(.asg 17 (.int 1))
noncomputable def Sv:o7:=(.cons (.asg 17 (.bin .mul (.var 17) (.bin .sub (.var 16) (.var 18))))
 .nil)
noncomputable def Pc:Sm:=(.for (.two 18 19) (.list (.var 12)) Sv)
noncomputable def MN:Sm:=(.asg 20 (.call (.glob (.builtin "sum")) (.cons (.comp (.bin .mul (.var 19) (.bin .fdiv (.var 17) (.bin .sub (.var 16) (.var 18)))) (.two 18 19) (.list (.var 12)) [16,17]) .nil)))
noncomputable def OD:Sm:=(.unp 21 22 (.call (.glob (.ref 73)) (.cons (.bin .mul (.bin .mul (.var 14) (.var 20)) (.bin .pow (.var 16) (.var 13))) (.cons (.bin .mul (.var 14) (.var 17)) .nil))))
noncomputable def Mu:Sm:=(.unp 23 24 (.call (.glob (.ref 73)) (.cons (.bin .mul (.neg (.var 22)) (.bin .pow (.var 16) (.var 13))) (.cons (.bin .mul (.var 14) (.var 17)) .nil))))
noncomputable def MU:Sm:=(.ite (.or (.cmp (.bin .add (.bin .mul (.bin .mul (.var 23) (.var 14)) (.var 17)) (.var 24)) .ne (.bin .mul (.neg (.var 22)) (.bin .pow (.var 16) (.var 13)))) (.not (.cmp2 (.int 0) .le (.bin .mul (.var 14) (.var 24)) .lt (.var 17)))) (.cons (.ret (.bool false))
 .nil) .nil)
noncomputable def Pe:Sm:=(.asg 25 (.call (.glob (.type "int")) (.cons (.cmp (.call (.glob (.builtin "max")) (.cons (.comp (.call (.glob (.ref 154)) (.cons (.var 10) .nil)) (.one 10) (.list (.var 6)) []) .nil)) .gt (.int 0)) .nil)))
noncomputable def Ny:Sm:=(.asg 26 (.bin .add (.bin .add (.slice (.call (.glob (.ref 52)) (.cons (.var 21) (.cons (.var 15) .nil))) .none .none (.neg (.int 1))) (.slice (.call (.glob (.ref 52)) (.cons (.bin .sub (.neg (.var 23)) (.var 25)) (.cons (.var 15) .nil))) .none .none (.neg (.int 1)))) (.bin .mul (.list (.cons (.int 0) .nil)) (.bin .sub (.int 1) (.var 25)))))
noncomputable def OX:Sm:=(.ite (.cmp (.call (.glob (.builtin "len")) (.cons (.var 26) .nil)) .ne (.bin .mul (.int 2) (.var 13))) (.cons (.ret (.bool false))
 .nil) .nil)
noncomputable def OZ:Sm:=(.asg 27 (.list .nil))
noncomputable def BK:o7:=(.cons (.asg 29 (.call (.glob (.ref 161)) (.cons (.var 10) (.cons (.item (.var 11) (.var 28)) .nil))))
 (.cons (.ite (.cmp (.bin .mod (.bin .add (.var 3) (.var 28)) (.int 2)) .eq (.int 1)) (.cons (.asg 30 (.call (.glob (.ref 140)) (.cons (.var 10) (.cons (.item (.var 11) (.var 28)) (.cons (.var 29) .nil)))))
 .nil) (.cons (.asg 30 (.call (.glob (.ref 140)) (.cons (.item (.var 11) (.var 28)) (.cons (.var 10) (.cons (.bin .sub (.var 29) (.int 1)) .nil)))))
 .nil))
 (.cons (.ite (.cmp (.var 30) .ne (.var 29)) (.cons (.ret (.bool false))
 .nil) .nil)
 (.cons (.expr (.meth (.item (.var 27) (.var 3)) "append" (.cons (.bin .fdiv (.var 30) (.int 2)) .nil)))
 .nil))))
noncomputable def RI:o7:=(.cons (.expr (.meth (.var 27) "append" (.cons (.list .nil) .nil)))
 (.cons (.for (.one 28) (.range1 (.var 3)) BK)
 .nil))
noncomputable def Ok:Sm:=(.for (.two 3 10) (.enum (.var 11)) RI)
noncomputable def MR:Sm:=(.asg 31 (.bin .mod (.bin .add (.var 1) (.int 4)) (.int 12)))
noncomputable def Pj:Sm:=(.asg 32 (.bin .add (.bin .add (.bin .mul (.str ".") (.var 31)) (.item (.str "aA") (.bin .mod (.bin .fdiv (.var 1) (.int 12)) (.int 2)))) (.str ".")))
noncomputable def NY:Sm:=(.asg 33 (.bin .add (.bin .add (.list (.cons (.int 99) (.cons (.int 99) (.cons (.int 99) .nil)))) (.comp (.var 18) (.two 18 19) (.list (.var 12)) [])) (.list (.cons (.neg (.int 1)) (.cons (.neg (.int 1)) (.cons (.neg (.int 1)) .nil))))))
noncomputable def Nb:Sm:=(.asg 34 (.call (.glob (.ref 91)) (.cons (.var 33) (.cons (.var 31) (.cons (.int 3) (.cons (.bin .add (.var 13) (.int 3)) .nil))))))
noncomputable def Nn:Sm:=(.asg 35 (.bin .sub (.int 1) (.bin .mul (.int 2) (.bin .mod (.bin .sub (.bin .sub (.var 34) (.var 13)) (.int 3)) (.int 2)))))
noncomputable def RW:o7:=(.cons (.asg 36 (.item (.var 11) (.callk (.glob (.ref 109)) (.cons (.var 11) (.cons (.var 18) .nil)) "key" (.glob (.ref 154)))))
 (.cons (.asg 30 (.call (.glob (.ref 140)) (.cons (.var 32) (.cons (.var 36) (.cons (.int 99) .nil)))))
 (.cons (.ite (.cmp (.var 30) .ne (.call (.glob (.ref 161)) (.cons (.var 32) (.cons (.var 36) .nil)))) (.cons (.ret (.bool false))
 .nil) .nil)
 (.cons (.asg 35 (.bin .mul (.var 35) (.bin .fdiv (.var 30) (.int 2))))
 .nil))))
noncomputable def Ox:Sm:=(.for (.two 18 19) (.list (.var 12)) RW)
noncomputable def Ov:Sm:=(.ite (.cmp (.bin .sub (.var 34) (.call (.glob (.ref 109)) (.cons (.var 33) (.cons (.var 31) (.cons (.int 3) (.cons (.bin .add (.var 13) (.int 3)) .nil)))))) .ne (.call (.glob (.type "int")) (.cons (.cmp (.var 35) .eq (.int 0)) .nil))) (.cons (.ret (.bool false))
 .nil) .nil)
noncomputable def NW:Sm:=(.asg 37 (.call (.glob (.ref 168)) (.cons (.var 27) .nil)))
noncomputable def Oi:Sm:=(.asg 38 (.comp (.slice (.var 26) (.var 3) (.bin .add (.bin .add (.var 3) (.var 13)) (.int 1)) .none) (.one 3) (.range1 (.var 13)) [13,26]))
noncomputable def Nh:Sm:=(.expr (.meth (.var 38) "append" (.cons (.comp (.bin .pow (.var 31) (.var 3)) (.one 3) (.range1 (.bin .add (.var 13) (.int 1))) [31]) .nil)))
noncomputable def Pi:Sm:=(.asg 39 (.call (.glob (.ref 175)) (.cons (.var 38) .nil)))
noncomputable def MY:Sm:=(.ite (.cmp (.var 39) .ne (.bin .add (.slice (.var 37) .none (.var 13) .none) (.list (.cons (.bin .mul (.item (.var 37) (.bin .sub (.var 13) (.int 1))) (.var 35)) .nil)))) (.cons (.ret (.bool false))
 .nil) .nil)
noncomputable def RV:o7:= .nil
noncomputable def Vg:o7:= .cons MY RV
noncomputable def NX:o7:= .cons Pi Vg
noncomputable def Wc:o7:= .cons Nh NX
noncomputable def Vc:o7:= .cons Oi Wc
noncomputable def MJ:o7:= .cons NW Vc
noncomputable def Wk:o7:= .cons Ov MJ
noncomputable def OW:o7:= .cons Ox Wk
noncomputable def WN:o7:= .cons Nn OW
noncomputable def UR:o7:= .cons Nb WN
noncomputable def Vm:o7:= .cons NY UR
noncomputable def Wh:o7:= .cons Pj Vm
noncomputable def KV:o7:= .cons MR Wh
noncomputable def VT:o7:= .cons Ok KV
noncomputable def Og:o7:= .cons OZ VT
noncomputable def WB:o7:= .cons OX Og
noncomputable def UO:o7:= .cons Ny WB
noncomputable def Nc:o7:= .cons Pe UO
noncomputable def US:o7:= .cons MU Nc
noncomputable def WH:o7:= .cons Mu US
noncomputable def NG:o7:= .cons OD WH
noncomputable def VF:o7:= .cons MN NG
noncomputable def Vd:o7:= .cons Pc VF
noncomputable def Wv:o7:= .cons OE Vd
noncomputable def Vx:o7:= .cons Nm Wv
noncomputable def UP:o7:= .cons MI Vx
noncomputable def MZ:o7:= .cons Pb UP
noncomputable def WF:o7:= .cons Ob MZ
noncomputable def Wi:o7:= .cons Np WF
noncomputable def NC:o7:= .cons NZ Wi
noncomputable def Vt:o7:= .cons Jc NC
noncomputable def To:o7:= .cons MK Vt
noncomputable def Zb:o7:= .cons OR To
noncomputable def OA:o7:= .cons Mt Zb
noncomputable def ZD:o7:= .cons TU OA
noncomputable def YG:o7:= .cons Tk ZD
noncomputable def TC:o7:= .cons TH YG
noncomputable def Zh:o7:= .cons TV TC
noncomputable def Yx:o7:= .cons Tm Zh
noncomputable def YQ:o7:= .cons SQ Yx
noncomputable def UC:o7:= .cons SS YQ
theorem TI:FA=UC:=rfl
theorem IW{ok:St->Prop}{tg:Tg}{k:Nat}{e:St->(AV->St->Prop)->Prop}{Q:St->Prop}(I:List AV->St->Prop)(hm:∀(b0:St)(K K':AV->St->Prop),(∀f σ,K f σ->K' f σ)->e b0 K->e b0 K')(ho:∀l σ,I l σ->ok σ)
  (hs:∀v r σ,I (v::r) σ->D9 (fun σ=>e σ fun av eG=>D9 (fun cur:List AV=>cur.length<=1000000∧I r ⟨eG.vars,eG.lists.set k (cur++[av])⟩) eG.lists[k]?) (Ah tg v σ)) (hf:∀σ,I [] σ->Q σ):
  ∀(l:List AV){σ:St},I l σ->W0 ok tg k e l σ Q
 | [],σ,h=>⟨ho _ _ h,hf _ h⟩
 |v::r,σ,h=>by
  refine⟨ho _ _ h,?_⟩
  have:=hs v r σ h
  cases e1:Ah tg v σ with
  |none=>rw [e1]at this;exact this.elim
  |some eG=>
   rw [e1]at this
   refine hm _ _ _ (fun av iL hf'=> ?_) (show e eG _ from this)
   cases e2:iL.lists[k]? with
   |none=>rw [e2]at hf';exact hf'.elim
   |some cur=>
    rw [e2]at hf'
    exact⟨hf'.1,IW I hm ho hs hf r hf'.2⟩
def Mp(I:List AV->St->Prop)(Q:Fl->St->Prop)(r:List AV)(f:Fl)(σ:St):Prop:=match f with
 | .next=>I r σ
 | .cont=>I r σ
 | .brk=>Q .next σ
 | .ret v=>Q (.ret v) σ
def RN(I:List AV->St->Prop)(r:List AV)(k:Nat)(av:AV)(σ:St):Prop:=D9 (fun cur:List AV=>cur.length<=1000000∧I r ⟨σ.vars,σ.lists.set k (cur++[av])⟩) σ.lists[k]?
theorem Ub{I I0:List AV->St->Prop}{Q:Fl->St->Prop}{r:List AV}{σ:St}(h:I=I0)(q:I0 r σ):Mp I Q r .next σ:=h▸q
theorem V8{I I0:List AV->St->Prop}{r:List AV}{k:Nat}{av:AV}{σ:St}{cur:List AV}(h:I=I0)(e:σ.lists[k]? =some cur)(q:cur.length<=1000000∧I0 r ⟨σ.vars,σ.lists.set k (cur++[av])⟩):RN I r k av σ:=b8 e (h▸q)
theorem J8{B:Bs}{n:Nat}{x:Ex}{ok:St->Prop}{tg:Tg}{k:Nat}{Q:St->Prop}(I0:List AV->St->Prop)(ho:∀l σ,I0 l σ->ok σ)
  (hs:∀I,I=I0->∀v r σ,I0 (v::r) σ->D9 (fun σ=>t9 B n x σ (RN I r k)) (Ah tg v σ)) (hf:∀σ,I0 [] σ->Q σ)
  (l:List AV) {σ:St} (h:I0 l σ):W0 ok tg k (t9 B n x) l σ Q:=IW (e:=t9 B n x) I0 (fun _ _ _ h h'=>Nd x h' h) ho (hs I0 rfl) hf l h
theorem Bo{B:Bs}{n:Nat}{x:o7}{ok:St->Prop}{tg:Tg}{Q:Fl->St->Prop}(I0:List AV->St->Prop)(ho:∀l σ,I0 l σ->ok σ)
  (hs:∀I,I=I0->∀v r σ,I0 (v::r) σ->D9 (fun σ=>d9 B n x σ (Mp I Q r)) (Ah tg v σ)) (hf:∀σ,I0 [] σ->Q .next σ) (l:List AV) {σ:St} (h:I0 l σ):A2 ok tg (d9 B n x) l σ Q:=Cm (b:=d9 B n x) I0 l h ho (hs I0 rfl) (fun _ _ _ h h'=>Ly x h' h) hf
theorem f6{α:Type}{L M:List α}{k:Nat}{x:α}(h:L[k]? =some x):(L++M)[k]? =some x:=by
 rw [getElem?_append_left (List.getElem?_eq_some_iff.mp h).1];exact h
theorem i9{α:Type}{L:List α}{x:α}:(L++[x])[L.length]? =some x:=by rw [getElem?_append_right (Nat.le_refl _)];simp
theorem A6{α:Type}{L:List α}{k j:Nat}{x y:α}(h:L[k]? =some x)(hne:j≠k):(L.set j y)[k]? =some x:=by rw [getElem?_set_ne hne];exact h
theorem r6{α:Type}{L:List α}{k:Nat}{x y:α}(h:L[k]? =some x):(L.set k y)[k]? =some y:=by(rw [getElem?_set_self (List.getElem?_eq_some_iff.mp h).1];rfl)
theorem Jg(xs:List Int)(lo hi st:Option Int):∃ys:List Int,F7 (xs.map AV.int) lo hi st=ys.map .int∧F7 xs lo hi st=ys:=by
 refine⟨F7 xs lo hi st,?_,rfl⟩
 unfold F7
 rw [length_map,List.map_filterMap]
 congr 1
 funext i
 (rw [getElem?_map];rfl)
theorem j6{B:Bs}{n:Nat}{x y:Sm}{σ:St}{F:Fl->St->Prop}(e:x=y)(h:GD B n y σ F):GD B n x σ F:=e▸h
theorem Ai{B:Bs}{n:Nat}{x y:o7}{σ:St}{F:Fl->St->Prop}(e:x=y)(h:d9 B n y σ F):d9 B n x σ F:=e▸h
theorem S3(x:Int){m:Int}(hm:0<m):∃c:Nat,x.fmod m=(c:Int)∧(c:Int)<m:=by
 have h1:=Int.fmod_nonneg_of_pos x hm
 have h2:=Int.fmod_lt_of_pos x hm
 exact⟨(x.fmod m).toNat,by exact Mj ‹_›,by exact YZ ‹_› ‹_›⟩
noncomputable def r8(t:Nat)(cells:List Nat):List Str:=cells.map fun c=>k9 (E4 c t) (P0 c)
noncomputable def Bq(x0 x1 x2 x3 x4 x5 x6 x7:Option AV):List (Option AV):=[x0,x1,x2,x3,x4,x5,x6,x7,none,none,none,none,none,none,none,none,none,none,none,none,none,none,none,none,none,none,none,none,none,none,none,none,none,none,none,none,none,none,none,none]
section
variable{B:Bs}{P:Params}(C:CtxQ B P){n:Nat}{F:Fl->St->Prop}
include C
@[reducible] def XD(B:Bs)(P:Params)(n:Nat)(F:Fl->St->Prop)(a:Addr)(xs:List Int):Prop:=∀(C:CtxQ B P)(hI:Bj B.eB a xs)(hx:xs.length<=1000000)(hF:∀(tot:Int)(cells:List Nat)(t:Nat)(M:Ls),cells.length=5->(∀c∈cells,c<42)->((t:Int)=1+(tot+1).fmod 3)->M[0]? =some (A4 cells)->M[6]? =some ((r8 t cells).map .str)->M.length=7->
   d9 B (n+1) TC ⟨(Bq (some (.raw (.ref a))) (some (.int tot)) (some (.lst 0)) none none (some (.int t)) (some (.lst 6)) none),M⟩ F),d9 B (n+1) UC ⟨(Bq (some (.raw (.ref a))) none none none none none none none),[]⟩ F
noncomputable def JR:Uc:=ec fun u=>XD u.b u.p (u.n 0) u.f (u.n 1) (u.j 0)
omit C in
theorem dE:XD JR.b JR.p (JR.n 0) JR.f (JR.n 1) (JR.j 0):=fun C hI hx hF=>by
 refine c0 (x:=SS) (j6 SS.eq_1 ?_)
 walk_at "Q,!"
 refine Jj hI ?_
 generalize (JR.j 0).sum=tot
 walk_at "k"
 refine c0 (x:=SQ) (j6 SQ.eq_1 ?_)
 walk_at "P"
 refine Eu ?_
 walk_at "8!B!i"
 refine J8 (fun items σ=>(∀v∈items,∃p s:Int,v= .tup [.int p,.int s])∧∃(u_place u_start:Option AV)(cs:List Nat)(M:Ls),σ=⟨(Bq (some (.raw (.ref (JR.n 1)))) none none u_place u_start none none none),A4 cs::M⟩∧(∀c∈cs,c<42)∧cs.length+items.length=5∧M.length+items.length=5) (fun _ _ _=>trivial) ?_ ?_ _ ?_
 ·rintro I hI0 v r σ ⟨hv,u_place,u_start,cs,M,rfl,hc,hl,hM⟩
  refine I9 (hv _ (.head _)) fun p s ee2=> ?_
  subst ee2
  refine b8 (a:=(⟨(Bq (some (.raw (.ref (JR.n 1)))) none none (some (.int p)) (some (.int s)) none none none),A4 cs::M⟩:St)) rfl ?_
  walk_at "11%4!D7%%*&"
  refine a9 (Jg (JR.j 0) (some p) none (some 5)) fun ys e1 e2=> ?_
  refine⟨by simp,(JR.n 1),(JR.j 0),rfl,hI,hx,?_⟩
  rw [e1]
  walk_at "B!"
  refine Od (ns:=ys) i9 ?_
  walk_at "[&!a"
  refine a9 (S3 (s+ys.sum) (show(0:Int)<42 by decide)) fun c e3 h3=> ?_
  rw [e3]
  refine V8 hI0 (cur:=A4 cs) rfl ?_
  have hcl:cs.length<=5:=by simp only [length_cons]at hl;exact Yn ‹_›
  refine⟨by rw [L5];exact u2 ‹_› rfl,fun v hv'=>hv v (.tail _ hv'),some (.int p),some (.int s),cs++[c],M++[ys.map .int],?_,?_,?_,?_⟩
  ·rw [Fr];rfl
  ·intro d hd
   rcases mem_append.mp hd with hd |hd
   ·exact hc d hd
   ·rw [mem_singleton.mp hd];exact c8 ‹_›
  ·simp only [length_cons,length_append,length_nil]at hl ⊢;exact RZ ‹_›
  ·simp only [length_cons,length_append,length_nil]at hM ⊢;exact RZ ‹_›
 ·rintro σ ⟨_,u_place,u_start,cs,M,rfl,hc,hl,hM⟩
  walk_at "k!"
  refine c0 (x:=Tm) (j6 Tm.eq_1 ?_)
  walk_at "N!k"
  refine a9 (S3 (tot+1) (show(0:Int)<3 by decide)) fun t' e1 h1=> ?_
  have et:(1:Int)+(tot+1).fmod 3=((1+t':Nat):Int):=by rw [e1];lia
  rw [et]
  refine c0 (x:=TV) (j6 TV.eq_1 ?_)
  walk_at "P"
  refine z5 ?_
  walk_at "%!"
  refine b8 (a:=A4 cs) rfl ?_
  have e6:(A4 cs::M).length=6:=by rw [length_cons];rw [length_nil]at hM;lia
  rw [e6]
  have ht3:1+t'<=3:=by lia
  refine J8 (fun items σ=>∃(u_cell:Option AV)(done rest:List Nat)(M':Ls),items=A4 rest∧cs=done++rest∧σ=⟨(Bq none none none none none (some (.int ((1+t':Nat):Int))) none u_cell),M'⟩∧M'[0]? =some (A4 cs)∧M'[6]? =some ((r8 (1+t') done).map .str)∧M'.length=7) ?_ ?_ ?_ _ ?_
  ·rintro l σ ⟨_,done,rest,M',_,_,rfl,h0,_,_⟩;exact h0
  ·intro I hI0 v r σ hh_ex
   refine FO hh_ex fun u_cell done rest M' hi hcs ee6 h0 h6 h7=> ?_
   clear hh_ex
   subst ee6
   cases rest with
   |nil=>exact HF hi
   |cons c rest=>
   (refine Jd hi fun h1 h2=> ?_;clear hi;subst h1;subst h2)
   refine b8 (a:=(⟨(Bq none none none none none (some (.int ((1+t':Nat):Int))) none (some (.int (c:Int)))),M'⟩:St)) rfl ?_
   walk_at ",!"
   refine Ft (n:=(JR.n 0)) C.toCtx ht3 ?_
   refine V8 hI0 h6 ?_
   have hdl:done.length<=5:=by
    have:=congrArg List.length hcs
    rw [length_append]at this;rw [length_nil]at hl;lia
   refine⟨by simp [r8];exact u2 ‹_› rfl,some (.int (c:Int)),done++[c],rest,_,rfl,by rw [hcs];simp,rfl,A6 h0 (by decide),?_,by rw [length_set];exact h7⟩
   rw [r6 h6]
   simp [r8]
  ·intro σ hh_ex
   refine FO hh_ex fun u_cell done rest M' hi hcs ee6 h0 h6 h7=> ?_
   clear hh_ex
   subst ee6
   have hr:rest=[]:=by cases rest with
    |nil=>rfl
    |cons c r=>exact Hw hi
   rw [hr,append_nil]at hcs
   subst hcs
   walk_at "k!"
   exact hF tot cs (1+t') M' (by rw [length_nil]at hl;assumption) hc et.symm h0 h6 h7
  ·refine⟨none,[],cs,_,rfl,rfl,rfl,rfl,?_,?_⟩
   ·have:(A4 cs::M++[[]])[(A4 cs::M).length]? =some []:=i9
    rw [e6]at this;exact this
   ·rw [length_append,e6];rfl
 ·exact⟨fun v hv=>by
   simp only [S6,mem_cons,not_mem_nil,or_false]at hv
   rcases hv with rfl |rfl |rfl |rfl |rfl<;>exact⟨_,_,rfl⟩,none,none,[],[],rfl,fun c hc=>(by cases hc),rfl,rfl⟩
omit C in
theorem YC{B:Bs}{P:Params}{n:Nat}{F:Fl->St->Prop}{a:Addr}{xs:List Int}:XD B P n F a xs:=by with_unfolding_all exact hk (q:=fun u:Uc=>XD u.b u.p (u.n 0) u.f (u.n 1) (u.j 0)) dE (.mk B P F JR.q JR.v [] [n,a] [] [] [] [] [] [] [xs] [] [] [] [] [] [])
end
noncomputable def HM(c:Nat):Str:=if c/14=0 then"\n" else if c/14=1 then"\r\n" else"\r"
noncomputable def HL(c:Nat):List Nat:=if c/14=0 then [10]else if c/14=1 then [13,10]else [13]
theorem ML(c:Nat):(HM c).cps.toList=HL c:=by
 unfold HM HL
 split
 ·decide+kernel
 ·split<;>decide+kernel
theorem Ps(c:Nat):Fz (HL c):=by
 unfold HL Fz
 split
 ·exact .inl rfl
 ·split
  ·exact .inr (.inl rfl)
  ·exact .inr (.inr rfl)
theorem SA(ls:Ls){c:Nat}(h:c<42):t8 ls (.tup [.str "\n",.str "\r\n",.str "\r"]) (.int ((c:Int).fdiv 14))=some (.str (HM c)):=by
 have e:(c:Int).fdiv 14=((c/14:Nat):Int):=by rw [Int.fdiv_eq_ediv_of_nonneg _ (by decide)];lia
 rw [e]
 unfold HM
 have h3:c/14<3:=by lia
 generalize c/14=k at h3 ⊢
 match k,h3 with
 |0,_=>rfl
 |1,_=>rfl
 |2,_=>rfl
noncomputable def Po(cells:List Nat):List ((Nat×Bool)×List Nat):=cells.map fun c=>((E4 c 0,P0 c),HL c)
noncomputable def S8(cells:List Nat)(j:Nat):List Nat:=if j=0 then Df [13] (Po cells)else Df [13,10] (Q3 j (Po cells))
theorem Lo(cells:List Nat)(j:Nat):qd (S8 cells j)=S8 cells (j+1):=by
 unfold S8
 rewrite [if_neg (Nat.succ_ne_zero j)]
 by_cases h:j=0
 ·subst h
  (rw [if_pos rfl];rewrite [HG (.inl rfl)];rfl)
  intro r hr
  refine a9 (mem_map.mp hr) fun c _ ee2=> ?_
  subst ee2
  exact Ps c
 ·(rw [if_neg h,Rf];rfl)
theorem P4(c m:Nat)(hm:m<=3):E4 c m<=9:=by
 unfold E4
 split<;>(first |exact Yv |lia)
theorem Gc(c m:Nat):BA m (E4 c 0)=E4 c m:=by
 unfold BA E4
 by_cases h:c%7=0
 ·(rw [if_pos h,if_pos rfl,if_pos h];rfl)
 ·(rewrite [if_neg h,if_neg h,if_neg (by assumption)];try (with_reducible rfl));rfl
theorem Iy(c:Nat):(HL c).length<=2:=by
 unfold HL
 split
 ·decide
 ·split<;>decide
theorem By(cells:List Nat)(j:Nat)(hj:j<=3)(h5:cells.length=5):(S8 cells j).length<=100:=by
 unfold S8
 split
 ·have:=Ho (z:=[13]) (by decide) (Po cells) fun r hr=>by
   refine a9 (mem_map.mp hr) fun c _ ee2=> ?_
   subst ee2
   exact⟨P4 c 0 (by exact Yv),Iy c⟩
  have hl:(Po cells).length=5:=by(rewrite [Po];rw [length_map,h5];rfl)
  lia
 ·have:=Ho (z:=[13,10]) (by decide) (Q3 j (Po cells)) fun r hr=>by
   refine a9 (mem_map.mp hr) fun q hq ee2=> ?_
   subst ee2
   refine a9 (mem_map.mp hq) fun c _ ee2=> ?_
   subst ee2
   refine⟨?_,Nat.le_refl 2⟩
   show BA j (E4 c 0)<=9
   rw [Gc];exact P4 c j hj
  have hl:(Q3 j (Po cells)).length=5:=by(rewrite [Q3];rw [length_map];rewrite [Po];rw [length_map,h5];rfl)
  lia
noncomputable def X3(t:Nat)(cells:List Nat):List (List Nat):=cells.map fun c=>K3 (E4 c t) (P0 c)
theorem Au(cells:List Nat){t:Nat}(ht:t≠0):S8 cells t=E7 (X3 t cells):=by
 unfold S8
 rw [if_neg ht]
 induction cells with
 |nil=>rfl
 |cons c r ih=>
  show K3 (BA t (E4 c 0)) (P0 c)++([13,10]++Df [13,10] (Q3 t (Po r)))=K3 (E4 c t) (P0 c)++(13::10::E7 (X3 t r))
  rw [ih,Gc];rfl
theorem Nl(d:Nat)(b:Bool):(k9 d b).cps.toList=K3 d b:=by exact rfl
theorem ST:(Str.ofString "")=Str.empty:=by decide+kernel
theorem KN(cells:List Nat):fl (cells.map fun c=>k9 (E4 c 0) (P0 c)++HM c)++[13]=S8 cells 0:=by
 unfold S8
 rw [if_pos rfl]
 induction cells with
 |nil=>rfl
 |cons c r ih=>
  show((k9 (E4 c 0) (P0 c)++HM c).cps.toList++fl (r.map _))++[13]=K3 (E4 c 0) (P0 c)++(HL c++Df [13] (Po r))
  rw [←ih,Str.append_list,Nl,ML];simp
theorem Kn(t:Nat)(cells:List Nat):fl (cells.map fun c=>k9 (E4 c t) (P0 c)++IU)++[13,10]=E7 (X3 t cells):=by
 induction cells with
 |nil=>rfl
 |cons c r ih=>
  show((k9 (E4 c t) (P0 c)++IU).cps.toList++fl (r.map _))++[13,10]=K3 (E4 c t) (P0 c)++(13::10::E7 (X3 t r))
  rw [←ih,Str.append_list,Nl,Ih];simp
noncomputable def EI(p:Pv)(x5 x8 x9:Option AV):List (Option AV):=[p.q0,p.q1,some (.lst 0),none,none,x5,some (.lst 6),none,x8,x9,none,none,none,none,none,none,none,none,none,none,none,none,none,none,none,none,none,none,none,none,none,none,none,none,none,none,none,none,none,none]
noncomputable def Di(x7 EZ:Option AV):List (Option AV):=[none,none,none,none,none,none,none,x7,none,none,EZ,none,none,none,none,none,none,none,none,none,none,none,none,none,none,none,none,none,none,none,none,none,none,none,none,none,none,none,none,none]
section
variable{B:Bs}{P:Params}(C:CtxQ B P){n:Nat}{F:Fl->St->Prop}
include C
@[reducible] def XP(B:Bs)(P:Params)(n:Nat)(F:Fl->St->Prop)(p:Pv)(cells:List Nat)(M:Ls):Prop:=∀(C:CtxQ B P){t:Nat}(h5:cells.length=5)(hc:∀c∈cells,c<42)(ht1:1<=t)(ht3:t<=3)(m0:M[0]? =some (A4 cells))(m6:M[6]? =some ((r8 t cells).map .str))(m7:M.length=7)(hF:∀u_turn(M':Ls)(x:Str),x.cps.toList=E7 (X3 t cells)->M'[6]? =some ((r8 t cells).map .str)->
   d9 B (n+1) OA ⟨(EI p (some (.int (t:Int))) (some (.str x)) u_turn),M'⟩ F),d9 B (n+1) TC ⟨(EI p (some (.int (t:Int))) none none),M⟩ F
noncomputable def AD:Uc:=ec fun u=>XP u.b u.p (u.n 0) u.f u.v (u.d 0) (u.l 0)
omit C in
theorem cF:XP AD.b AD.p (AD.n 0) AD.f AD.v (AD.d 0) (AD.l 0):=fun C{t} h5 hc ht1 ht3 m0 m6 m7 hF=>by
 refine c0 (x:=TH) (j6 TH.eq_1 ?_)
 walk_at "Q1!6(gD@"
 refine z5 ?_
 walk_at "%!"
 refine b8 m0 ?_
 rw [m7]
 refine J8 (fun items σ=>∃(u_cell:Option AV)(done rest:List Nat)(M':Ls),items=A4 rest∧(AD.d 0)=done++rest∧σ=⟨(Di u_cell none),M'⟩∧M'[0]? =some (A4 (AD.d 0))∧M'[6]? =some ((r8 t (AD.d 0)).map .str)∧M'[7]? =some ((done.map fun c=>k9 (E4 c 0) (P0 c)++HM c).map .str)∧M'.length=8) ?_ ?_ ?_ _ ?_
 ·rintro l σ ⟨_,done,rest,M',_,_,rfl,h0,_,_⟩;exact h0
 ·intro I hI0 v r σ hh_ex
  refine CD hh_ex fun u_cell done rest M' hi hcs ee6 h0 h6 h7 h8=> ?_
  clear hh_ex
  subst ee6
  cases rest with
  |nil=>exact HF hi
  |cons c rest=>
  (refine Jd hi fun h1 h2=> ?_;clear hi;subst h1;subst h2)
  have hc42:c<42:=hc c (by rw [hcs];simp)
  refine b8 (a:=(⟨(Di (some (.int (c:Int))) none),M'⟩:St)) rfl ?_
  walk_at "1,!"
  show Spec AD.b ((AD.n 0)+1) (.ref 147) [.int (c:Int),.int ((0:Nat):Int)] [] _ _
  refine Ft (n:=(AD.n 0)) C.toCtx (by decide) ?_
  walk_at "38Bi0!b"
  refine b8 (SA _ hc42) ?_
  refine Ae ?_ ?_
  ·rw [j8,Str.length_list,ML]
   have:=P4 c 0 (by decide)
   have:=Iy c
   unfold sizeLine;lia
  refine V8 hI0 h7 ?_
  have hdl:done.length<=5:=by
   have:=congrArg List.length hcs
   rw [length_append]at this;lia
  refine⟨by simp;exact u2 ‹_› rfl,some (.int (c:Int)),done++[c],rest,_,rfl,by rw [hcs];simp,rfl,A6 h0 (by decide),A6 h6 (by decide),?_,by rw [length_set];exact h8⟩
  rw [r6 h7]
  simp
 ·intro σ hh_ex
  refine CD hh_ex fun u_cell done rest M' hi hcs ee6 h0 h6 h7 h8=> ?_
  clear hh_ex
  subst ee6
  have hr:rest=[]:=by cases rest with
   |nil=>rfl
   |cons c r=>exact Hw hi
  rw [hr,append_nil]at hcs
  subst hcs
  walk_at "B!"
  have hml:=By (AD.d 0) 0 (by decide) h5
  rw [←KN,length_append]at hml
  refine Lg h7 ?_ ?_
  ·rw [ST];exact Ak _ (by lia)
  walk_at "(!"
  refine Ae ?_ ?_
  ·rw [ST,BO]
   show(fl _).toArray.size+_<=_
   rw [show(Str.ofString "\r").length=1 by decide+kernel]
   simp only [size_toArray]
   unfold sizeLine
   exact u2 ‹_› rfl
  have e0:Txt.join (Str.ofString "") ((AD.d 0).map fun c=>k9 (E4 c 0) (P0 c)++HM c)++(Str.ofString "\r")=⟨(S8 (AD.d 0) 0).toArray⟩:=by
   rw [ST]
   refine Str.ext' ?_
   (rw [Str.append_list,Hi,show(Str.ofString "\r").cps.toList=[13] by decide+kernel,KN];rfl)
  rw [e0]
  walk_at "k"
  refine c0 (x:=Tk) (j6 Tk.eq_1 ?_)
  walk_at "Y"
  refine C6 ?_
  walk_at "%c"
  refine⟨by lia,by lia,?_⟩
  refine Bo (fun items σ=>∃(j:Nat)(u_turn:Option AV),items=o2 (j:Int) (t:Int)∧j<=t∧σ=⟨(EI AD.v (some (.int (t:Int))) (some (.str ⟨(S8 (AD.d 0) j).toArray⟩)) u_turn),M'⟩) (fun _ _ _=>trivial) ?_ ?_ _ ?_
  ·intro I hI0 v r σ hh_ex
   refine o4 hh_ex fun j u_turn hi hj ee4=> ?_
   clear hh_ex
   subst ee4
   have hjt:j<t:=by
    refine Nat.lt_of_le_of_ne hj fun e=> ?_
    rw [e,y8 (Int.le_refl _)]at hi;exact HF hi
   rw [s7 (by exact c3 ‹_›)]at hi
   (refine Jd hi fun h1 h2=> ?_;clear hi;subst h1;subst h2)
   refine b8 (a:=(⟨(EI AD.v (some (.int (t:Int))) (some (.str ⟨(S8 (AD.d 0) j).toArray⟩)) (some (.int (j:Int)))),M'⟩:St)) rfl ?_
   refine Ai UM.eq_1 ?_
   walk_at "#Q,!"
   have hl:=By (AD.d 0) j (by exact t5 ‹_› ‹_›) h5
   refine HU (K:=(AD.n 0)) C (by simp only [size_toArray];exact u2 ‹_› rfl) ?_
   walk_at "k!$j"
   refine⟨j+1,some (.int (j:Int)),by(rw [show((j+1:Nat):Int)=(j:Int)+1 by exact c7];rfl),hjt,?_⟩
   rw [←Lo];rfl
  ·intro σ hh_ex
   refine o4 hh_ex fun j u_turn hi hj ee4=> ?_
   clear hh_ex
   subst ee4
   have hjt:j=t:=by
    refine Nat.le_antisymm hj (Nat.le_of_not_lt fun h=> ?_)
    rw [s7 (by exact c3 ‹_›)]at hi;exact Hw hi
   subst hjt
   walk_at "k"
   refine c0 (x:=TU) (j6 TU.eq_1 ?_)
   walk_at "XI%1!6(gD@"
   refine z5 ?_
   walk_at "%!"
   refine b8 h6 ?_
   rw [h8]
   refine J8 (fun items σ=>∃(u_row:Option AV)(done rest:List Nat)(M2:Ls),items=(r8 j rest).map .str∧(AD.d 0)=done++rest∧σ=⟨(Di none u_row),M2⟩∧M2[6]? =some ((r8 j (AD.d 0)).map .str)∧M2[8]? =some ((done.map fun c=>k9 (E4 c j) (P0 c)++IU).map .str)) ?_ ?_ ?_ _ ?_
   ·rintro l σ ⟨_,done,rest,M',_,_,rfl,h0,_⟩;exact h0
   ·intro I hI0 v r σ hh_ex
    refine Fj hh_ex fun u_row done rest M2 hi hcs ee6 g6 g8=> ?_
    clear hh_ex
    subst ee6
    cases rest with
    |nil=>exact HF hi
    |cons c rest=>
    (refine Jd hi fun h1 h2=> ?_;clear hi;subst h1;subst h2)
    refine b8 (a:=(⟨(Di none (some (.str (k9 (E4 c j) (P0 c))))),M2⟩:St)) rfl ?_
    walk_at "0!"
    refine Ae ?_ ?_
    ·have:=P4 c j ht3
     rw [j8]
     show _+IU.length<=_
     rw [V5];unfold sizeLine;lia
    refine V8 hI0 g8 ?_
    have hdl:done.length<=5:=by
     have:=congrArg List.length hcs
     rw [length_append]at this;lia
    refine⟨by simp;exact u2 ‹_› rfl,some (.str (k9 (E4 c j) (P0 c))),done++[c],rest,_,rfl,by rw [hcs];simp,rfl,A6 g6 (by decide),?_⟩
    rw [r6 g8]
    simp [IU]
   ·intro σ hh_ex
    refine Fj hh_ex fun u_row done rest M2 hi hcs ee6 g6 g8=> ?_
    clear hh_ex
    subst ee6
    have hr:rest=[]:=by cases rest with
     |nil=>rfl
     |cons c r=>exact Hw hi
    rw [hr,append_nil]at hcs
    subst hcs
    walk_at "B!"
    have hml:=By (AD.d 0) j ht3 h5
    rw [Au (AD.d 0) (show j≠0 by lia),←Kn,length_append]at hml
    refine Lg g8 ?_ ?_
    ·rw [ST];exact Ak _ (by lia)
    walk_at "(!"
    refine Ae ?_ ?_
    ·rw [ST,BO]
     show(fl _).toArray.size+IU.length<=_
     rw [V5]
     simp only [size_toArray]
     unfold sizeLine
     exact u2 ‹_› rfl
    have e1:Txt.join (Str.ofString "") ((AD.d 0).map fun c=>k9 (E4 c j) (P0 c)++IU)++(Str.ofString "\r\n")=⟨(S8 (AD.d 0) j).toArray⟩:=by
     rw [ST]
     refine Str.ext' ?_
     (rw [Str.append_list,Hi,show(Str.ofString "\r\n").cps.toList=[13,10] by decide+kernel,Kn,Au (AD.d 0) (show j≠0 by lia)];rfl)
    rw [e1]
    walk_at "f"
    rw [if_neg (by simp)]
    walk_at "$k"
    exact hF u_turn M2 _ (by(rw [←Au (AD.d 0) (show j≠0 by lia)];rfl)) g6
   ·refine⟨none,[],(AD.d 0),_,rfl,rfl,rfl,f6 h6,?_⟩
    rw [←h8];exact i9
  ·exact⟨0,none,rfl,Nat.zero_le _,rfl⟩
 ·refine⟨none,[],(AD.d 0),_,rfl,rfl,rfl,f6 m0,f6 m6,?_,?_⟩
  ·rw [←m7];exact i9
  ·rw [length_append,m7];rfl
omit C in
theorem Zg{B:Bs}{P:Params}{n:Nat}{F:Fl->St->Prop}{p:Pv}{cells:List Nat}{M:Ls}:XP B P n F p cells M:=by with_unfolding_all exact Mine.hk (q:=fun u:Uc=>XP u.b u.p (u.n 0) u.f u.v (u.d 0) (u.l 0)) cF (.mk B P F AD.q p [M] [n] [] [cells] [] [] [] [] [] [] [] [] [] [] [])
end
noncomputable def d8(SH:List (Nat×Bool)):List Str:=SH.map fun r=>k9 r.1 r.2
noncomputable def Kw(t:Nat)(cells:List Nat):List (Nat×Bool):=cells.map fun c=>(E4 c t,P0 c)
theorem BZ(t:Nat)(cells:List Nat):r8 t cells=d8 (Kw t cells):=by
 unfold r8 d8 Kw
 rw [map_map];rfl
theorem HY(x:Str)(r:List Str):B7 ((x::r).map AV.str)=none:=rfl
theorem Wn:∀d,d<=9->∀b,PyData.strOk (k9 d b)=true:=by decide+kernel
theorem Of{ls:Ls}{i j:Nat}{x:Str}{xs:List Str}(hi:ls[i]? =some ((x::xs).map AV.str))(hj:ls[j]? =some ((x::xs).map AV.str))(ho:(x::xs).all PyData.strOk=true):Bm ls .ne (.lst i) (.lst j)=some false:=by
 show((ls[i]?).bind fun xs=>(ls[j]?).bind fun ys=>GR xs ys)=_
 simp only [hi,hj,Option.bind_some,GR,HY,JV,ho]
 simp
theorem G8.small{xs SH:List Str}{idx:List Nat}(h:G8 xs idx SH){N:Nat}(hx:∀y∈xs,y.length<=N):∀y∈SH,y.length<=N:=by
 refine E6 (h.out) fun q h1 ee2 h3=> ?_
 subst ee2
 intro y hy
 refine a9 (mem_map.mp hy) fun i _ ee2=> ?_
 subst ee2
 rw [getD_eq_getElem?_getD]
 cases e:xs[i]? with
 |none=>exact Nat.zero_le _
 |some z=>exact hx _ (mem_of_getElem? e)
theorem G8.pairs{ps:List (Nat×Bool)}{SH:List Str}(h5:ps.length=5)(h:G8 (d8 ps) (List.range 5) SH):∃SP:List (Nat×Bool),SH=d8 SP∧SP.Perm ps∧(SP.map (·.1)).Pairwise (· <= ·):=by
 refine E6 (h.out) fun q h1 ee2 h3=> ?_
 subst ee2
 have hlt:∀i∈q,i<5:=fun i hi=>mem_range.mp (h1.mem_iff.mp hi)
 have hg:∀i∈q,(d8 ps).getD i Str.empty=k9 (ps.getD i (0,false)).1 (ps.getD i (0,false)).2:=fun i hi=>by
  have:=hlt i hi
  (rw [getD_eq_getElem?_getD,getD_eq_getElem?_getD];rewrite [d8];rw [getElem?_map,getElem?_eq_getElem (by lia)]);rfl
 refine⟨q.map fun i=>ps.getD i (0,false),?_,?_,?_⟩
 ·unfold d8
  rw [map_map]
  exact map_congr_left fun i hi=>hg i hi
 ·have e:ps=(List.range 5).map fun i=>ps.getD i (0,false):=by
   apply List.ext_getElem
   ·(rw [length_map,length_range,h5];rfl)
   ·intro i h1 h2
    rw [getElem_map,getElem_range,getD_eq_getElem?_getD,getElem?_eq_getElem h1];rfl
  rw (config:={occs:= .pos [2]}) [e]
  exact h1.map _
 ·(rw [map_map];rewrite [List.pairwise_map])
  refine List.Pairwise.imp_of_mem (fun{a b} ha hb hl=> ?_) h3
  have ea:i5 (d8 ps) a=((ps.getD a (0,false)).1:Int):=by
   unfold i5;rw [hg a ha,j8];lia
  have eb:i5 (d8 ps) b=((ps.getD b (0,false)).1:Int):=by
   unfold i5;rw [hg b hb,j8];lia
  unfold Bt at hl
  rw [ea,eb]at hl
  show(ps.getD a (0,false)).1<=(ps.getD b (0,false)).1
  lia
theorem V3{s e:Str}{SH:List Str}{i:Nat}(h:i<SH.length):f9 (s::SH++[e]) (i+1)=f9 SH i:=by
 unfold f9
 (rw [getD_eq_getElem?_getD,getD_eq_getElem?_getD,cons_append,List.getElem?_cons_succ,getElem?_append_left h];rfl)
theorem LE{s e row:Str}{SH:List Str}{r:Nat}(h:r<=SH.length):Y5 (s::SH++[e]) (r+1) row=s::Y5 SH r row++[e]:=by
 unfold Y5
 (rewrite [cons_append,List.take_succ_cons,List.drop_succ_cons,List.take_append_of_le_length h,List.drop_append_of_le_length h];try (with_reducible rfl))
 simp
theorem Mq(tot:Int):tot.fmod 2=0∨tot.fmod 2=1:=by
 refine a9 (S3 tot (show(0:Int)<2 by decide)) fun c h1 h2=> ?_
 lia
noncomputable def Dl(p:Pv)(x1 x5 x8 EZ Fc:Option AV):List (Option AV):=[p.q0,x1,some (.lst 0),none,none,x5,some (.lst 6),none,x8,p.q9,EZ,Fc,none,none,none,none,none,none,none,none,none,none,none,none,none,none,none,none,none,none,none,none,none,none,none,none,none,none,none,none]
section
variable{B:Bs}{P:Params}(C:CtxQ B P){n:Nat}{F:Fl->St->Prop}
include C
@[reducible] def XB(B:Bs)(P:Params)(n:Nat)(F:Fl->St->Prop)(p:Pv)(tot:Int)(cells:List Nat)(t:Nat)(M:Ls)(x:Str):Prop:=∀(C:CtxQ B P)(h5:cells.length=5)(ht3:t<=3)(hx:x.cps.toList=E7 (X3 t cells))(hxl:x.length<=100)(m6:M[6]? =some ((r8 t cells).map .str))(he:tot.fmod 2=0)(hF:∀u_row(M':Ls)(sh:Nat)(SH:List Str),G8 (r8 t cells) (List.range 5) SH->M'[sh]? =some (SH.map .str)->M'[6]? =some ((r8 t cells).map .str)->
   d9 B (n+3) To ⟨(Dl p (some (.int tot)) (some (.int (t:Int))) (some (.str x)) u_row (some (.lst sh))),M'⟩ F),d9 B (n+3) OA ⟨(Dl p (some (.int tot)) (some (.int (t:Int))) (some (.str x)) none none),M⟩ F
noncomputable def T7:Uc:=ec fun u=>XB u.b u.p (u.n 0) u.f u.v (u.i 0) (u.d 0) (u.n 1) (u.l 0) (u.s 0)
omit C in
theorem bN:XB T7.b T7.p (T7.n 0) T7.f T7.v (T7.i 0) (T7.d 0) (T7.n 1) (T7.l 0) (T7.s 0):=fun C h5 ht3 hx hxl m6 he hF=>by
 refine c0 (x:=Mt) (j6 Mt.eq_1 ?_)
 walk_at "Q1!9D0!"
 refine GT (Dk (n:=20) (by decide)) ?_
 walk_at "B!i/!"
 rw [he]
 refine Er i9 (by simp) (by decide) (by decide) ?_
 walk_at "k"
 refine c0 (x:=OR) (j6 OR.eq_1 ?_)
 walk_at "Y"
 refine z5 ?_
 walk_at "7-!"
 refine Ij (by decide+kernel) (by exact u2 ‹_› rfl) (EU (T7.s 0) (by exact u2 ‹_› rfl)) ?_
 have hsp:Txt.split (T7.s 0) (Str.ofString "\r\n")=r8 (T7.n 1) (T7.d 0)++([⟨#[]⟩,⟨#[]⟩]:List Str):=by
  refine(DW (T7.s 0) (X3 (T7.n 1) (T7.d 0)) (fun R hR c hc e=>by
   refine a9 (mem_map.mp hR) fun c' _ ee2=> ?_
   subst ee2
   have:=Ar _ _ c hc
   rw [e]at this;exact tf this) hx).trans ?_
  unfold X3 r8
  rw [map_map];rfl
 generalize hE:([⟨#[]⟩,⟨#[]⟩]:List Str)=E2 at hsp
 have hE2:E2.length=2:=by rw [←hE];rfl
 rw [hsp]
 walk_at "*&*"
 refine D2 (lo:=none) (hi:=some ((5:Nat):Int)) (st:=none) i9 rfl rfl rfl (by simp) (by simp [r8,h5,hE2]) ?_
 have hxs5:(r8 (T7.n 1) (T7.d 0)).length=5:=by unfold r8;(rw [length_map,h5];rfl)
 rw [Bg,←map_take,take_left' hxs5]
 dsimp only
 refine b8 i9 ?_
 generalize hA:[AV.str (Txt.mul (Str.ofString ".") 20),AV.str (Str.ofString "")]=A
 rw [show(List.replicate (Int.toNat 0) A).flatten=([]:List Str).map AV.str from rfl]
 generalize hxs:r8 (T7.n 1) (T7.d 0)=xs at*
 generalize hL:(T7.l 0)++[A]++[([]:List Str).map AV.str]++[(xs++E2).map AV.str]++[xs.map AV.str]=L
 have gs:L[((T7.l 0)++[A]).length]? =some (([]:List Str).map .str):=by rw [←hL];exact f6 (f6 i9)
 have gi:L[((T7.l 0)++[A]++[([]:List Str).map AV.str]++[(xs++E2).map AV.str]).length]? =some (xs.map .str):=by rw [←hL];exact i9
 have g6:L[6]? =some (xs.map .str):=by rw [←hL];exact f6 (f6 (f6 (f6 m6)))
 have hm6:6<(T7.l 0).length:=(List.getElem?_eq_some_iff.mp m6).1
 generalize hsh:((T7.l 0)++[A]).length=sh at gs ⊢
 have hsh2:sh=(T7.l 0).length+1:=by rw [←hsh,length_append];rfl
 generalize hit:((T7.l 0)++[A]++[([]:List Str).map AV.str]++[(xs++E2).map AV.str]).length=it at gi ⊢
 have hit2:it=(T7.l 0).length+3:=by rw [←hit];simp
 have hsm:∀y∈xs,y.length<=20:=fun y hy=>by
  rw [←hxs]at hy
  refine a9 (mem_map.mp hy) fun c _ ee2=> ?_
  subst ee2
  rw [j8]
  have:=P4 c (T7.n 1) ht3;exact JA ‹_› rfl
 refine Bo (fun items σ=>∃(m:Nat)(u_row:Option AV)(SH:List Str)(L':Ls),m<=5∧items=(xs.drop m).map .str∧G8 xs (List.range m) SH∧L'[sh]? =some (SH.map .str)∧L'[it]? =some (xs.map .str)∧L'[6]? =some (xs.map .str)∧σ=⟨(Dl T7.v (some (.int (T7.i 0))) (some (.int ((T7.n 1):Int))) (some (.str (T7.s 0))) u_row (some (.lst sh))),L'⟩) ?_ ?_ ?_ _ ?_
 ·rintro l σ ⟨m,_,SH,L',_,_,_,_,h,_,rfl⟩;exact h
 ·intro I hI0 v r σ hh_ex
  refine CD hh_ex fun m u_row SH L' hm hi hst q1 q2 q3 ee10=> ?_
  clear hh_ex
  subst ee10
  have hm5:m<5:=by
   refine Nat.lt_of_le_of_ne hm fun e=> ?_
   rw [e,drop_eq_nil_of_le (by exact e6 ‹_› rfl)]at hi;exact HF hi
  rw [drop_eq_getElem_cons (by lia),map_cons]at hi
  (refine Jd hi fun h1 h2=> ?_;clear hi;subst h1;subst h2)
  have hrow:xs[m]'(by lia)=xs.getD m Str.empty:=by rw [getD_eq_getElem?_getD,getElem?_eq_getElem (by lia)];rfl
  have hrl:(xs.getD m Str.empty).length<=20:=by rw [←hrow];exact hsm _ (getElem_mem _)
  rw [hrow]
  generalize hR:xs.getD m Str.empty=R at*
  refine b8 (a:=(⟨(Dl T7.v (some (.int (T7.i 0))) (some (.int ((T7.n 1):Int))) (some (.str (T7.s 0))) (some (.str R)) (some (.lst sh))),L'⟩:St)) rfl ?_
  refine Ai Tn.eq_1 ?_
  walk_at "#XH"
  rw [he,if_neg (by decide)]
  walk_at "#U5B)!"
  have hSH:=hst.len
  rw [length_range]at hSH
  refine EB (n:=(T7.n 0)) C.toCtx q1 (by exact e8 ‹_› ‹_› rfl) (fun y hy=>Nat.le_trans (hst.small hsm y hy) (by decide)) (by exact u2 ‹_› rfl) hst.sorted fun r hr h1 h2=> ?_
  walk_at "dk$k$j"
  have hk:i5 xs m=(R.length:Int)-2:=by unfold i5;(rw [hR];rfl)
  have hst':=hst.right hr (fun i hi=>by rw [hk];exact h1 i hi) (fun i hi hi'=>by rw [hk];exact h2 i hi hi')
  rw [hR]at hst'
  exact⟨m+1,_,_,_,by lia,rfl,hst',r6 q1,A6 q2 (by lia),A6 q3 (by lia),rfl⟩
 ·intro σ hh_ex
  refine CD hh_ex fun m u_row SH L' hm hi hst q1 q2 q3 ee10=> ?_
  clear hh_ex
  subst ee10
  have hm5:m=5:=by
   refine Nat.le_antisymm hm (Nat.le_of_not_lt fun h=> ?_)
   rw [drop_eq_getElem_cons (by lia)]at hi;exact Hw hi
  subst hm5
  walk_at "k"
  exact hF u_row L' sh SH hst q1 q3
 ·exact⟨0,none,[],L,by decide,rfl,⟨[],by simp,rfl,.nil⟩,gs,gi,g6,rfl⟩
omit C in
theorem WC{B:Bs}{P:Params}{n:Nat}{F:Fl->St->Prop}{p:Pv}{tot:Int}{cells:List Nat}{t:Nat}{M:Ls}{x:Str}:XB B P n F p tot cells t M x:=by with_unfolding_all exact hk (q:=fun u:Uc=>XB u.b u.p (u.n 0) u.f u.v (u.i 0) (u.d 0) (u.n 1) (u.l 0) (u.s 0)) bN (.mk B P F T7.q p [M] [n,t] [tot] [cells] [] [] [] [x] [] [] [] [] [] [] [])
end
noncomputable def Rw:Str:=Txt.mul (Str.ofString ".") 20
theorem QF:Rw.length<=1000000:=by
 have:=Z9 20
 show(Txt.mul (Str.ofString ".") 20).length<=_
 have e:(Txt.mul (Str.ofString ".") 20).length=20:=this
 exact e6 ‹_› rfl
noncomputable def Dq(p:Pv)(x1 x5 x8 EZ Fc:Option AV):List (Option AV):=[p.q0,x1,some (.lst 0),none,none,x5,some (.lst 6),none,x8,p.q9,EZ,Fc,none,none,none,none,none,none,none,none,none,none,none,none,none,none,none,none,none,none,none,none,none,none,none,none,none,none,none,none]
section
variable{B:Bs}{P:Params}(C:CtxQ B P){n:Nat}{F:Fl->St->Prop}
include C
@[reducible] def XJ(B:Bs)(P:Params)(n:Nat)(F:Fl->St->Prop)(p:Pv)(tot:Int)(cells:List Nat)(t:Nat)(M:Ls)(x:Str):Prop:=∀(C:CtxQ B P)(h5:cells.length=5)(ht3:t<=3)(hx:x.cps.toList=E7 (X3 t cells))(hxl:x.length<=100)(m6:M[6]? =some ((r8 t cells).map .str))(he:tot.fmod 2=1)(hF:∀u_row(M':Ls)(sh:Nat)(SH:List Str),G8 (r8 t cells).reverse (List.range 5) SH->M'[sh]? =some ((Rw::SH++[Str.ofString ""]).map .str)->M'[6]? =some ((r8 t cells).map .str)->
   d9 B (n+3) To ⟨(Dq p (some (.int tot)) (some (.int (t:Int))) (some (.str x)) u_row (some (.lst sh))),M'⟩ F),d9 B (n+3) OA ⟨(Dq p (some (.int tot)) (some (.int (t:Int))) (some (.str x)) none none),M⟩ F
noncomputable def S2:Uc:=ec fun u=>XJ u.b u.p (u.n 0) u.f u.v (u.i 0) (u.d 0) (u.n 1) (u.l 0) (u.s 0)
omit C in
theorem cK:XJ S2.b S2.p (S2.n 0) S2.f S2.v (S2.i 0) (S2.d 0) (S2.n 1) (S2.l 0) (S2.s 0):=fun C h5 ht3 hx hxl m6 he hF=>by
 refine c0 (x:=Mt) (j6 Mt.eq_1 ?_)
 walk_at "Q1!9D0!"
 refine GT (Dk (n:=20) (by decide)) ?_
 walk_at "B!i/!"
 rw [he]
 refine Er i9 (by simp) (by decide) (by decide) ?_
 walk_at "k"
 refine c0 (x:=OR) (j6 OR.eq_1 ?_)
 walk_at "Y"
 refine z5 ?_
 walk_at "7-!"
 refine Ij (by decide+kernel) (by exact u2 ‹_› rfl) (EU (S2.s 0) (by exact u2 ‹_› rfl)) ?_
 have hsp:Txt.split (S2.s 0) (Str.ofString "\r\n")=r8 (S2.n 1) (S2.d 0)++([⟨#[]⟩,⟨#[]⟩]:List Str):=by
  refine(DW (S2.s 0) (X3 (S2.n 1) (S2.d 0)) (fun R hR c hc e=>by
   refine a9 (mem_map.mp hR) fun c' _ ee2=> ?_
   subst ee2
   have:=Ar _ _ c hc
   rw [e]at this;exact tf this) hx).trans ?_
  unfold X3 r8
  rw [map_map];rfl
 generalize hE:([⟨#[]⟩,⟨#[]⟩]:List Str)=E2 at hsp
 have hE2:E2.length=2:=by rw [←hE];rfl
 rw [hsp]
 walk_at "*&*"
 refine D2 (lo:=none) (hi:=some ((5:Nat):Int)) (st:=none) i9 rfl rfl rfl (by simp) (by simp [r8,h5,hE2]) ?_
 have hxs5:(r8 (S2.n 1) (S2.d 0)).length=5:=by unfold r8;(rw [length_map,h5];rfl)
 rw [Bg,←map_take,take_left' hxs5]
 dsimp only
 refine b8 i9 ?_
 generalize hA:[AV.str (Txt.mul (Str.ofString ".") 20),AV.str (Str.ofString "")]=A
 rw [show(List.replicate (Int.toNat 1) A).flatten=(Rw::[]++[Str.ofString ""]).map AV.str by rw [←hA];rfl]
 generalize hxs:r8 (S2.n 1) (S2.d 0)=xs at*
 generalize hL:(S2.l 0)++[A]++[(Rw::[]++[Str.ofString ""]).map AV.str]++[(xs++E2).map AV.str]++[xs.map AV.str]=L
 have gs:L[((S2.l 0)++[A]).length]? =some ((Rw::[]++[Str.ofString ""]).map .str):=by rw [←hL];exact f6 (f6 i9)
 have gi:L[((S2.l 0)++[A]++[(Rw::[]++[Str.ofString ""]).map AV.str]++[(xs++E2).map AV.str]).length]? =some (xs.map .str):=by rw [←hL];exact i9
 have g6:L[6]? =some (xs.map .str):=by rw [←hL];exact f6 (f6 (f6 (f6 m6)))
 have hm6:6<(S2.l 0).length:=(List.getElem?_eq_some_iff.mp m6).1
 generalize hsh:((S2.l 0)++[A]).length=sh at gs ⊢
 have hsh2:sh=(S2.l 0).length+1:=by rw [←hsh,length_append];rfl
 generalize hit:((S2.l 0)++[A]++[(Rw::[]++[Str.ofString ""]).map AV.str]++[(xs++E2).map AV.str]).length=it at gi ⊢
 have hit2:it=(S2.l 0).length+3:=by rw [←hit];simp
 have hsm:∀y∈xs,y.length<=20:=fun y hy=>by
  rw [←hxs]at hy
  refine a9 (mem_map.mp hy) fun c _ ee2=> ?_
  subst ee2
  rw [j8]
  have:=P4 c (S2.n 1) ht3;exact JA ‹_› rfl
 refine Bo (fun items σ=>∃(m:Nat)(u_row:Option AV)(SH:List Str)(L':Ls),m<=5∧items=(xs.drop m).map .str∧G8 xs.reverse ((List.range 5).drop (5-m)) SH∧L'[sh]? =some ((Rw::SH++[Str.ofString ""]).map .str)∧L'[it]? =some (xs.map .str)∧L'[6]? =some (xs.map .str)∧σ=⟨(Dq S2.v (some (.int (S2.i 0))) (some (.int ((S2.n 1):Int))) (some (.str (S2.s 0))) u_row (some (.lst sh))),L'⟩) ?_ ?_ ?_ _ ?_
 ·rintro l σ ⟨m,_,SH,L',_,_,_,_,h,_,rfl⟩;exact h
 ·intro I hI0 v r σ hh_ex
  refine CD hh_ex fun m u_row SH L' hm hi hst q1 q2 q3 ee10=> ?_
  clear hh_ex
  subst ee10
  have hm5:m<5:=by
   refine Nat.lt_of_le_of_ne hm fun e=> ?_
   rw [e,drop_eq_nil_of_le (by exact e6 ‹_› rfl)]at hi;exact HF hi
  rw [drop_eq_getElem_cons (by lia),map_cons]at hi
  (refine Jd hi fun h1 h2=> ?_;clear hi;subst h1;subst h2)
  have hrow:xs[m]'(by lia)=xs.getD m Str.empty:=by rw [getD_eq_getElem?_getD,getElem?_eq_getElem (by lia)];rfl
  have hrl:(xs.getD m Str.empty).length<=20:=by rw [←hrow];exact hsm _ (getElem_mem _)
  rw [hrow]
  generalize hR:xs.getD m Str.empty=R at*
  refine b8 (a:=(⟨(Dq S2.v (some (.int (S2.i 0))) (some (.int ((S2.n 1):Int))) (some (.str (S2.s 0))) (some (.str R)) (some (.lst sh))),L'⟩:St)) rfl ?_
  refine Ai Tn.eq_1 ?_
  walk_at "#XH"
  rw [he,if_pos (by decide)]
  walk_at "#U5D%D%D&D1,!"
  have hSH:=hst.len
  rw [length_drop,length_range]at hSH
  refine o5 q1 (by simp;exact UK ‹_› rfl) ?_
  walk_at "&!]B)!"
  have el:((((Rw::SH++[Str.ofString ""]).map AV.str).length:Nat):Int)-1=((SH.length+1:Nat):Int):=by simp
  rw [el]
  show Spec S2.b ((S2.n 0)+3) (.ref 100) [.lst sh,.str R,.int ((1:Nat):Int),.int ((SH.length+1:Nat):Int)] _ _ _
  have hrev:xs.reverse.getD (4-m) Str.empty=R:=by
   rw [←hR,getD_eq_getElem?_getD,getD_eq_getElem?_getD,List.getElem?_reverse (by lia)]
   congr 2;exact Px ‹_› ‹_›
  have hsmr:∀y∈xs.reverse,y.length<=20:=fun y hy=>hsm y (mem_reverse.mp hy)
  refine Ff (n:=(S2.n 0)) C.toCtx q1 (by simp;exact ZS ‹_› rfl) (fun y hy=> ?_) (by exact u2 ‹_› rfl) (by simp) (by lia) (fun i j h1 h2 h3=> ?_) fun r h0 hr h1 h2=> ?_
  ·rcases mem_append.mp hy with hy |hy
   ·rcases mem_cons.mp hy with rfl |hy
    ·exact QF
    ·exact Nat.le_trans (hst.small hsmr y hy) (by decide)
   ·rw [mem_singleton.mp hy,ST];exact Nat.zero_le _
  ·obtain⟨i',rfl⟩:∃i',i=i'+1:=⟨i-1,by exact VY ‹_›⟩
   obtain⟨j',rfl⟩:∃j',j=j'+1:=⟨j-1,by lia⟩
   rw [V3 (by lia),V3 (by exact s5 ‹_›)]
   exact hst.sorted i' j' (by exact s6 ‹_›) (by exact s5 ‹_›)
  obtain⟨r',rfl⟩:∃r',r=r'+1:=⟨r-1,by exact VY ‹_›⟩
  rw [LE (by exact s6 ‹_›)]
  walk_at "dk$k$j"
  have hk:i5 xs.reverse (4-m)=(R.length:Int)-2:=by unfold i5;(rw [hrev];rfl)
  have hst':=G8.left (m:=4-m) (r:=r') (by rw [show 4-m+1=5-m by exact NO ‹_›];exact hst) (by with_reducible_and_instances exact x6 ‹_›) (by exact s6 ‹_›) (fun i hi=>by
   have:=h1 (i+1) (by lia) (by lia)
   rw [V3 (by lia)]at this
   rw [hk];exact this) (fun i hi hi'=>by
   have:=h2 (i+1) (by lia) (by lia)
   rw [V3 (by with_reducible_and_instances assumption)]at this
   rw [hk];exact this)
  rw [hrev]at hst'
  exact⟨m+1,_,_,_,by lia,rfl,by rw [show 5-(m+1)=4-m by lia];exact hst',r6 q1,A6 q2 (by lia),A6 q3 (by lia),rfl⟩
 ·intro σ hh_ex
  refine CD hh_ex fun m u_row SH L' hm hi hst q1 q2 q3 ee10=> ?_
  clear hh_ex
  subst ee10
  have hm5:m=5:=by
   refine Nat.le_antisymm hm (Nat.le_of_not_lt fun h=> ?_)
   rw [drop_eq_getElem_cons (by lia)]at hi;exact Hw hi
  subst hm5
  walk_at "k"
  exact hF u_row L' sh SH hst q1 q3
 ·exact⟨0,none,[],L,by decide,rfl,⟨[],.nil,rfl,.nil⟩,gs,gi,g6,rfl⟩
omit C in
theorem VV{B:Bs}{P:Params}{n:Nat}{F:Fl->St->Prop}{p:Pv}{tot:Int}{cells:List Nat}{t:Nat}{M:Ls}{x:Str}:XJ B P n F p tot cells t M x:=by with_unfolding_all exact hk (q:=fun u:Uc=>XJ u.b u.p (u.n 0) u.f u.v (u.i 0) (u.d 0) (u.n 1) (u.l 0) (u.s 0)) cK (.mk B P F S2.q p [M] [n,t] [tot] [cells] [] [] [] [x] [] [] [] [] [] [] [])
end
theorem Ke{t:Nat}{cells:List Nat}(ht3:t<=3):∀r∈Kw t cells,r.1<=9:=fun r hr=>by
 refine a9 (mem_map.mp hr) fun c _ ee2=> ?_
 subst ee2
 exact P4 c t ht3
theorem KL{SP:List (Nat×Bool)}(h:∀r∈SP,r.1<=9):(d8 SP).all PyData.strOk=true:=by
 rewrite [all_eq_true]
 intro y hy
 refine a9 (mem_map.mp hy) fun r hr ee2=> ?_
 subst ee2
 exact Wn r.1 (h r hr) r.2
theorem HJ{ls:Ls}{i j:Nat}{xs:List Str}(h5:xs.length=5)(hi:ls[i]? =some (xs.map AV.str))(hj:ls[j]? =some (xs.map AV.str))(ho:xs.all PyData.strOk=true):Bm ls .ne (.lst i) (.lst j)=some false:=by
 cases xs with
 |nil=>exact T6 (·.ctorIdx) h5 rfl
 |cons x xs=>exact Of hi hj ho
noncomputable def JZ(p:Pv)(x1 x5 x8 EZ Fc:Option AV):List (Option AV):=[p.q0,x1,some (.lst 0),none,none,x5,some (.lst 6),none,x8,p.q9,EZ,Fc,none,none,none,none,none,none,none,none,none,none,none,none,none,none,none,none,none,none,none,none,none,none,none,none,none,none,none,none]
section
variable{B:Bs}{P:Params}(C:CtxQ B P){n:Nat}{F:Fl->St->Prop}
include C
@[reducible] def XQ(B:Bs)(P:Params)(n:Nat)(F:Fl->St->Prop)(p:Pv)(tot:Int)(cells:List Nat)(t:Nat)(M:Ls)(x:Str):Prop:=∀(C:CtxQ B P)(h5:cells.length=5)(ht3:t<=3)(hx:x.cps.toList=E7 (X3 t cells))(hxl:x.length<=100)(m6:M[6]? =some ((r8 t cells).map .str))(hF:∀u_row(M':Ls)(sh:Nat)(SP:List (Nat×Bool)),SP.Perm (Kw t cells)->(SP.map (·.1)).Pairwise (· <= ·)->M'[sh]? =some ((d8 SP).map .str)->M'[6]? =some ((r8 t cells).map .str)->
   d9 B (n+3) NC ⟨(JZ p (some (.int tot)) (some (.int (t:Int))) (some (.str x)) u_row (some (.lst sh))),M'⟩ F),d9 B (n+3) OA ⟨(JZ p (some (.int tot)) (some (.int (t:Int))) (some (.str x)) none none),M⟩ F
noncomputable def Cr:Uc:=ec fun u=>XQ u.b u.p (u.n 0) u.f u.v (u.i 0) (u.d 0) (u.n 1) (u.l 0) (u.s 0)
@[irreducible] noncomputable def K79.p:Pv:=Cr.v
omit C in
open K79 in
theorem cQ:XQ Cr.b Cr.p (Cr.n 0) Cr.f p (Cr.i 0) (Cr.d 0) (Cr.n 1) (Cr.l 0) (Cr.s 0):=fun C h5 ht3 hx hxl m6 hF=>by
 have hp5:(Kw (Cr.n 1) (Cr.d 0)).length=5:=by unfold Kw;(rw [length_map,h5];rfl)
 have hpr5:(Kw (Cr.n 1) (Cr.d 0)).reverse.length=5:=by(rw [length_reverse,hp5];rfl)
 have hxs5:(r8 (Cr.n 1) (Cr.d 0)).length=5:=by unfold r8;(rw [length_map,h5];rfl)
 have hsm:∀y∈r8 (Cr.n 1) (Cr.d 0),y.length<=1000000:=fun y hy=>by
  refine a9 (mem_map.mp hy) fun c _ ee2=> ?_
  subst ee2
  rw [j8]
  have:=P4 c (Cr.n 1) ht3;exact JA ‹_› rfl
 rcases Mq (Cr.i 0)with he |he
 ·refine WC (p:=⟨_,none,none,none,none,none,none,none,none,_,none,none,none,none,none,none,none,none,none,none,none,none,none,none,none,none,none,none,none,none,none,none,none,none,none,none,none,none,none,none⟩) C h5 ht3 hx hxl m6 he fun u_row M' sh SH hst q1 q2=> ?_
  have hst2:=hst
  rw [BZ]at hst2
  refine E6 (hst2.pairs hp5) fun SP ee1 hperm hsrt=> ?_
  subst ee1
  refine c0 (x:=MK) (j6 MK.eq_1 ?_)
  walk_at "XH"
  rw [he,if_neg (by decide)]
  walk_at "$k"
  refine c0 (x:=Jc) (j6 Jc.eq_1 ?_)
  walk_at "XI%5!D=H"
  rw [he,if_neg (by decide)]
  walk_at "%B)!"
  refine FZ C.toCtx q2 hxs5 hsm fun p hp hs=> ?_
  walk_at ""
  rw [←hst.eq hp hs]
  refine b8 (HJ (xs:=d8 SP) ?_ (f6 q1) i9 (KL fun r hr=>Ke ht3 r (hperm.mem_iff.mp hr))) ?_
  ·unfold d8;(rw [length_map,hperm.length_eq,hp5];rfl)
  rw [if_neg (by decide)]
  walk_at "$k"
  exact hF u_row _ sh SP hperm hsrt (f6 q1) (f6 q2)
 ·refine VV (p:=⟨_,none,none,none,none,none,none,none,none,_,none,none,none,none,none,none,none,none,none,none,none,none,none,none,none,none,none,none,none,none,none,none,none,none,none,none,none,none,none,none⟩) C h5 ht3 hx hxl m6 he fun u_row M' sh SH hst q1 q2=> ?_
  have hst2:=hst
  rw [BZ,show(d8 (Kw (Cr.n 1) (Cr.d 0))).reverse=d8 (Kw (Cr.n 1) (Cr.d 0)).reverse by unfold d8;(rw [map_reverse];rfl)]at hst2
  refine E6 (hst2.pairs hpr5) fun SP ee1 hperm hsrt=> ?_
  subst ee1
  have hperm2:SP.Perm (Kw (Cr.n 1) (Cr.d 0)):=hperm.trans (List.reverse_perm _)
  have hSP:(d8 SP).length=5:=by unfold d8;(rw [length_map,hperm2.length_eq,hp5];rfl)
  refine c0 (x:=MK) (j6 MK.eq_1 ?_)
  walk_at "XH"
  rw [he,if_pos (by decide)]
  walk_at "#Q7%&/*"
  refine D2 (lo:=some 1) (hi:=some (-1)) (st:=none) q1 rfl rfl rfl (by simp) (by simp [hSP]) ?_
  rw [map_append,map_cons,map_cons,map_nil,HS]
  walk_at "k!$k"
  refine c0 (x:=Jc) (j6 Jc.eq_1 ?_)
  walk_at "XI%5!D=H"
  rw [he,if_pos (by decide)]
  walk_at "7%**/"
  refine D2 (lo:=none) (hi:=none) (st:=some (-1)) (f6 q2) rfl rfl rfl (by simp) (by rw [length_map,hxs5];decide) ?_
  rw [Cq,←map_reverse]
  walk_at "B!)!"
  refine FZ C.toCtx i9 (by(rw [length_reverse,hxs5];rfl)) (fun y hy=>hsm y (mem_reverse.mp hy)) fun p hp hs=> ?_
  walk_at ""
  rw [←hst.eq hp hs]
  refine b8 (HJ (xs:=d8 SP) hSP (f6 (f6 i9)) i9 (KL fun r hr=>Ke ht3 r (hperm2.mem_iff.mp hr))) ?_
  rw [if_neg (by decide)]
  walk_at "$k"
  exact hF u_row _ _ SP hperm2 hsrt (f6 (f6 i9)) (f6 (f6 (f6 q2)))
omit C in
theorem Yz{B:Bs}{P:Params}{n:Nat}{F:Fl->St->Prop}{p:Pv}{tot:Int}{cells:List Nat}{t:Nat}{M:Ls}{x:Str}:XQ B P n F p tot cells t M x:=by with_unfolding_all exact hk (q:=fun u:Uc=>XQ u.b u.p (u.n 0) u.f u.v (u.i 0) (u.d 0) (u.n 1) (u.l 0) (u.s 0)) cQ (.mk B P F Cr.q p [M] [n,t] [tot] [cells] [] [] [] [x] [] [] [] [] [] [] [])
end
noncomputable def U7(K:List (Nat×Nat)):List AV:=K.map fun k=>AV.tup [.int k.1,.int k.2]
theorem Si(d:Nat):∀(l:List Nat)(j:Nat),j<=l.length->(∀i,i<j->l.getD i 0=d)->(j<l.length->l.getD j 0≠d)->tw d l=j
 | [],j,h,_,_=>by
  have:j=0:=by simpa using h
  subst this;rfl
 |c::r,0,_,_,h=>by
  have hc:¬(c==d)=true:=by have:=h (by exact Nat.succ_pos _);simpa using this
  unfold tw
  rw [List.takeWhile_cons_of_neg (p:=fun x=>x==d) hc];rfl
 |c::r,j+1,hj,h1,h2=>by
  have hc:(c==d)=true:=by have:=h1 0 (by lia);exact decide_eq_true this
  have ih:=Si d r j (by exact Nat.le_of_succ_le_succ hj) (fun i hi=>by have:=h1 (i+1) (by lia);exact this) (fun hl=>by have:=h2 (by simp;assumption);exact this)
  unfold tw at ih ⊢
  (rw [List.takeWhile_cons_of_pos (p:=fun x=>x==d) hc,length_cons,ih];rfl)
theorem T1{SP:List (Nat×Bool)}{i:Nat}(h:i<SP.length):f9 (d8 SP) i=(((SP.map (·.1)).getD i 0:Nat):Int):=by
 unfold f9 d8
 rw [getD_eq_getElem?_getD,getD_eq_getElem?_getD,getElem?_map,getElem?_map,getElem?_eq_getElem h]
 show((k9 _ _).length:Int)-2=_
 rw [j8]
 show((SP[i].1+2:Nat):Int)-2=(SP[i].1:Int)
 lia
noncomputable def Bl(D:List Nat)(m:Nat):Option Nat:=if m=0 then none else some (D.getD (m-1) 0)
theorem T5{D:List Nat}(h:D.Pairwise (· <= ·)){i j:Nat}(hij:i<=j)(hj:j<D.length):D.getD i 0<=D.getD j 0:=by
 rw [getD_eq_getElem?_getD,getD_eq_getElem?_getD,getElem?_eq_getElem (by exact t2 ‹_› ‹_›),getElem?_eq_getElem hj]
 show D[i]<=D[j]
 rcases Nat.lt_or_eq_of_le hij with hlt |rfl
 ·exact List.pairwise_iff_getElem.mp h i j (by exact t3 ‹_› ‹_›) hj hlt
 ·exact Nat.le_refl _
theorem CH{SP:List (Nat×Bool)}(hs:(SP.map (·.1)).Pairwise (· <= ·)):∀i j,i<=j->j<(d8 SP).length->f9 (d8 SP) i<=f9 (d8 SP) j:=fun i j hij hj=>by
 have hl:(d8 SP).length=SP.length:=by unfold d8;(rw [length_map];rfl)
 rw [hl]at hj
 rw [T1 (by exact t2 ‹_› ‹_›),T1 hj]
 have:=T5 hs hij (by rw [length_map];exact hj)
 exact c4 ‹_›
noncomputable def Dw(p:Pv)(x3 EZ Fc Kd Fd:Option AV):List (Option AV):=[p.q0,p.q1,some (.lst 0),x3,none,p.q5,some (.lst 6),none,p.q8,p.q9,EZ,Fc,Kd,Fd,none,none,none,none,none,none,none,none,none,none,none,none,none,none,none,none,none,none,none,none,none,none,none,none,none,none]
section
variable{B:Bs}{P:Params}(C:CtxQ B P){n:Nat}{F:Fl->St->Prop}
include C
@[reducible] def Xv(B:Bs)(P:Params)(n:Nat)(F:Fl->St->Prop)(p:Pv)(M:Ls)(u_row:Option AV)(sh:Nat)(SP:List (Nat×Bool))(rows:List AV):Prop:=∀(C:CtxQ B P)(h5:SP.length=5)(hle:∀r∈SP,r.1<=9)(hs:(SP.map (·.1)).Pairwise (· <= ·))(ms:M[sh]? =some ((d8 SP).map .str))(m6:M[6]? =some rows)(hF:∀u_place u_row(M':Ls)(kd:Nat),M'[sh]? =some ((d8 SP).map .str)->M'[6]? =some rows->M'[kd]? =some (U7 (km none (SP.map (·.1))))->
   d9 B (n+3) MZ ⟨(Dw p u_place u_row (some (.lst sh)) (some (.lst kd)) (some (.int ((km none (SP.map (·.1))).length:Int)))),M'⟩ F),d9 B (n+3) NC ⟨(Dw p none u_row (some (.lst sh)) none none),M⟩ F
noncomputable def Q6:Uc:=ec fun u=>Xv u.b u.p (u.n 0) u.f u.v (u.l 0) (u.o 0) (u.n 1) (u.g 0) (u.a 0)
@[irreducible] noncomputable def K73.u_row:Option AV:=(Q6.o 0)
omit C in
open K73 in
theorem cM:Xv Q6.b Q6.p (Q6.n 0) Q6.f Q6.v (Q6.l 0) u_row (Q6.n 1) (Q6.g 0) (Q6.a 0):=fun C h5 hle hs ms m6 hF=>by
 refine c0 (x:=NZ) (j6 NZ.eq_1 ?_)
 walk_at "Q9!B!ik"
 refine c0 (x:=Np) (j6 Np.eq_1 ?_)
 walk_at "Y"
 refine Eu ?_
 walk_at "%!"
 refine b8 (f6 ms) ?_
 have hshl:(Q6.n 1)<(Q6.l 0).length:=(List.getElem?_eq_some_iff.mp ms).1
 have h6l:6<(Q6.l 0).length:=(List.getElem?_eq_some_iff.mp m6).1
 generalize hkd:(Q6.l 0).length=kd
 generalize hD:(Q6.g 0).map (·.1)=D at*
 have hDl:D.length=5:=by(rw [←hD,length_map,h5];rfl)
 have hsl:(d8 (Q6.g 0)).length=5:=by unfold d8;(rw [length_map,h5];rfl)
 have hsm:∀y∈d8 (Q6.g 0),y.length<=1000000:=fun y hy=>by
  refine a9 (mem_map.mp hy) fun r hr ee2=> ?_
  subst ee2
  rw [j8]
  have:=hle r hr;exact JA ‹_› rfl
 have hsrt:∀i j,i<=j->j<(d8 (Q6.g 0)).length->f9 (d8 (Q6.g 0)) i<=f9 (d8 (Q6.g 0)) j:=CH (by rw [hD];exact hs)
 have hdots:∀i,i<5->f9 (d8 (Q6.g 0)) i=((D.getD i 0:Nat):Int):=fun i hi=>by(rw [T1 (by lia),hD];rfl)
 refine Bo (fun items σ=>∃(m:Nat)(u_place u_row:Option AV)(acc:List (Nat×Nat))(L':Ls),m<=5∧items=S6 (m:Int) (((d8 (Q6.g 0)).drop m).map .str)∧acc++km (Bl D m) (D.drop m)=km none D∧acc.length<=m∧L'[(Q6.n 1)]? =some ((d8 (Q6.g 0)).map .str)∧L'[6]? =some (Q6.a 0)∧L'[kd]? =some (U7 acc)∧σ=⟨(Dw Q6.v u_place u_row (some (.lst (Q6.n 1))) (some (.lst kd)) none),L'⟩) ?_ ?_ ?_ _ ?_
 ·rintro l σ ⟨m,_,_,acc,L',_,_,_,_,h,_,_,rfl⟩;exact h
 ·intro I hI0 v r σ hh_ex
  refine RH hh_ex fun m u_place u_row acc L' hm hi hacc hal q1 q2 q3 ee12=> ?_
  clear hh_ex
  subst ee12
  have hm5:m<5:=by
   refine Nat.lt_of_le_of_ne hm fun e=> ?_
   rw [e,drop_eq_nil_of_le (by exact e6 ‹_› rfl)]at hi;exact HF hi
  rw [drop_eq_getElem_cons (by lia),map_cons]at hi
  (refine Jd hi fun h1 h2=> ?_;clear hi;subst h1;subst h2)
  have hSm:(d8 (Q6.g 0))[m]'(by lia)=k9 ((Q6.g 0)[m]'(by lia)).1 ((Q6.g 0)[m]'(by lia)).2:=getElem_map (fun r:Nat×Bool=>k9 r.1 r.2) ..
  have hdm:((Q6.g 0)[m]'(by lia)).1=D.getD m 0:=by rw [←hD,getD_eq_getElem?_getD,getElem?_map,getElem?_eq_getElem (by lia)];rfl
  rw [hSm,hdm]
  generalize ((Q6.g 0)[m]'(by lia)).2=b
  have hd9:D.getD m 0<=9:=by rw [←hdm];exact hle _ (getElem_mem _)
  generalize hd:D.getD m 0=d at*
  have hdrop:D.drop m=d::D.drop (m+1):=by
   rw [drop_eq_getElem_cons (by lia)]
   congr 1
   rw [←hd,getD_eq_getElem?_getD,getElem?_eq_getElem (by lia)];rfl
  rw [hdrop,km]at hacc
  have hp1:Bl D (m+1)=some d:=by unfold Bl;(rw [if_neg (by lia),Nat.add_sub_cancel,hd];rfl)
  refine b8 (a:=(⟨(Dw Q6.v (some (.int (m:Int))) (some (.str (k9 d b))) (some (.lst (Q6.n 1))) (some (.lst kd)) none),L'⟩:St)) rfl ?_
  have hrl:(k9 d b).length<=1000000:=by rw [j8];exact JA ‹_› rfl
  have hrd:((k9 d b).length:Int)-2=(d:Int):=by rw [j8];lia
  refine Ai Sl.eq_1 ?_
  walk_at "#XI5D%D,!"
  refine(C3 (n:=(Q6.n 0)) C.toCtx hrl ?_).mono (by exact J6 rfl)
  walk_at "B)!"
  rw [hrd]
  show Spec Q6.b ((Q6.n 0)+3) (.ref 109) [.lst (Q6.n 1),.int (d:Int),.int ((0:Nat):Int),.int ((m:Int)+1)] _ _ _
  rw [show(m:Int)+1=((m+1:Nat):Int) by exact c6]
  refine(Fs (n:=(Q6.n 0)) C.toCtx q1 (by exact e6 ‹_› rfl) hsm (by lia) (by exact Yv) (fun i j _ h2 h3=>hsrt i j h2 (by lia)) fun r _ hr h1 h2=> ?_).mono (by exact J6 rfl)
  have hmd:=hdots m hm5
  rw [hd]at hmd
  have hrm:r<=m:=by
   refine Nat.le_of_not_lt fun h=> ?_
   have:=h1 m (Nat.zero_le _) h
   lia
  walk_at "%!f"
  by_cases hpv:Bl D m=some d
  ·rw [if_pos hpv]at hacc
   have hm0:m≠0:=fun e=>by rw [e]at hpv;exact on hpv
   have hpm:D.getD (m-1) 0=d:=by unfold Bl at hpv;rw [if_neg hm0]at hpv;exact Option.some.inj hpv
   have hne:r≠m:=fun e=>by
    have:=h1 (m-1) (Nat.zero_le _) (by exact ZH ‹_› ‹_›)
    rw [hdots (m-1) (by exact KW ‹_›),hpm]at this;lia
   rw [if_neg (by simp;lia)]
   walk_at "$k$j"
   exact⟨m+1,_,_,acc,L',by lia,rfl,by rw [hp1];exact hacc,by exact s1 ‹_›,q1,q2,q3,rfl⟩
  ·rw [if_neg hpv]at hacc
   have hre:r=m:=by
    refine Nat.le_antisymm hrm (Nat.le_of_not_lt fun h=> ?_)
    have g2:=h2 (m-1) (by lia) (by exact Md)
    rw [hdots (m-1) (by exact KW ‹_›)]at g2
    have g3:=T5 hs (show m-1<=m by exact aM) (by lia)
    rw [hd]at g3
    apply hpv
    unfold Bl
    rw [if_neg (by exact dQ ‹_›)]
    congr 1;lia
   rw [if_pos (by simp [hre])]
   walk_at "#U6%gD8D,!"
   refine(C3 (n:=(Q6.n 0)) C.toCtx hrl ?_).mono (by exact J6 rfl)
   walk_at "D15D%D,!"
   refine(C3 (n:=(Q6.n 0)) C.toCtx hrl ?_).mono (by exact J6 rfl)
   walk_at "B)!"
   rw [hrd]
   refine(Lx (n:=(Q6.n 0)) C.toCtx q1 (by exact e6 ‹_› rfl) hsm (by exact e4 ‹_› ‹_›) (fun i j _ h2 h3=>hsrt i j h2 h3) fun r2 g0 g1 g2 g3=> ?_).mono (by exact J6 rfl)
   walk_at "%!]BiB!"
   refine F6 q3 (by unfold U7;rw [length_map];lia) ?_
   walk_at "dk$k$j"
   rw [hsl]at g1 g3
   have hr2:m<r2:=by
    refine Nat.lt_of_not_le fun h=> ?_
    have:=g3 m h hm5;lia
   have htw:tw d (D.drop (m+1))=r2-(m+1):=by
    have gD:∀i,(D.drop (m+1)).getD i 0=D.getD (m+1+i) 0:=fun i=>by
     (rw [getD_eq_getElem?_getD,getD_eq_getElem?_getD,List.getElem?_drop];rfl)
    refine Si d _ _ (by rw [length_drop];lia) (fun i hi=> ?_) fun hl=> ?_
    ·rw [gD]
     have k1:=g2 (m+1+i) (by lia) (by exact Su ‹_›)
     rw [hdots _ (by exact Ya ‹_› ‹_›)]at k1
     have k2:=T5 hs (show m<=m+1+i by lia) (by exact Za ‹_› ‹_› ‹_›)
     rw [hd]at k2;lia
    ·rw [length_drop]at hl
     rw [gD,show m+1+(r2-(m+1))=r2 by exact Qj ‹_›]
     have k1:=g3 r2 (Nat.le_refl _) (by lia)
     rw [hdots _ (by lia)]at k1;lia
   have hoft:((r2:Int)-(m:Int))=((1+tw d (D.drop (m+1)):Nat):Int):=by rw [htw];lia
   rw [hoft]
   refine⟨m+1,_,_,acc++[(d,1+tw d (D.drop (m+1)))],_,by lia,rfl,by rw [hp1,append_assoc];exact hacc,by rw [length_append];show _+1<=_;lia,A6 q1 (by lia),A6 q2 (by lia),?_,rfl⟩
   rw [r6 q3]
   unfold U7
   rw [map_append];rfl
 ·intro σ hh_ex
  refine RH hh_ex fun m u_place u_row acc L' hm hi hacc hal q1 q2 q3 ee12=> ?_
  clear hh_ex
  subst ee12
  have hm5:m=5:=by
   refine Nat.le_antisymm hm (Nat.le_of_not_lt fun h=> ?_)
   rw [drop_eq_getElem_cons (by lia)]at hi;exact Hw hi
  subst hm5
  rw [drop_eq_nil_of_le (by exact e8 ‹_› ‹_› rfl),show km (Bl D 5) []=[]from rfl,append_nil]at hacc
  subst hacc
  walk_at "k"
  refine c0 (x:=Ob) (j6 Ob.eq_1 ?_)
  walk_at "Q,!"
  refine o5 q3 (by unfold U7;rw [length_map];exact u3 ‹_› rfl) ?_
  walk_at "k"
  have e:(U7 (km none D)).length=(km none D).length:=by unfold U7;(rw [length_map];rfl)
  rw [e]
  exact hF u_place u_row L' kd q1 q2 q3
 ·refine⟨0,none,u_row,[],_,by decide,rfl,rfl,Nat.le_refl _,f6 ms,f6 m6,?_,rfl⟩
  rw [←hkd];exact i9
omit C in
theorem ZQ{B:Bs}{P:Params}{n:Nat}{F:Fl->St->Prop}{p:Pv}{M:Ls}{u_row:Option AV}{sh:Nat}{SP:List (Nat×Bool)}{rows:List AV}:Xv B P n F p M u_row sh SP rows:=by with_unfolding_all exact hk (q:=fun u:Uc=>Xv u.b u.p (u.n 0) u.f u.v (u.l 0) (u.o 0) (u.n 1) (u.g 0) (u.a 0)) cM (.mk B P F Q6.q p [M] [n,sh] [] [] [] [SP] [rows] [] [] [u_row] [] [] [] [] [])
end
theorem JG:∀(D:List Nat)(p:Option Nat)(k:Nat×Nat),k∈km p D->k.2<=D.length
 | [],_,_,h=>by cases h
 |d::r,p,k,h=>by
  rw [km]at h
  split at h
  ·have:=JG r _ k h
   rw [length_cons];exact s1 ‹_›
  ·rcases mem_cons.mp h with rfl |h
   ·show 1+tw d r<=_
    have:tw d r<=r.length:=(List.takeWhile_prefix _).length_le
    rw [length_cons];lia
   ·have:=JG r _ k h
    rw [length_cons];exact s1 ‹_›
theorem Mi(l:List Int):l.sum=l.foldl (· + ·) 0:=by
 have shift:∀(l:List Int)(a:Int),l.foldl (· + ·) a=a+l.sum:=by
  intro l
  induction l with
  |nil=>intro a;simp
  |cons x l ih=>intro a;rw [foldl_cons,ih,List.sum_cons];lia
 rw [shift];lia
theorem RB(tot:Int):(1:Int)-2*(tot.fdiv 2).fmod 2=1∨(1:Int)-2*(tot.fdiv 2).fmod 2= -1:=by
 rcases Mq (tot.fdiv 2)with h |h<;>rw [h]
 ·exact .inl rfl
 ·exact .inr rfl
theorem MH(tot:Int):∃w:Nat,(36:Int)+(tot.fdiv 3).fmod 29+1400*(if(tot.fdiv 87).fmod 8==5 then 1 else 0)=(w:Int)∧36<=w∧w<=1500:=by
 refine a9 (S3 (tot.fdiv 3) (show(0:Int)<29 by decide)) fun c h1 h2=> ?_
 rw [h1]
 split
 ·exact⟨36+c+1400,by lia,by lia,by lia⟩
 ·exact⟨36+c,by lia,by exact EW,by lia⟩
theorem ED{w:Nat}{K:List (Nat×Nat)}(H:Ix w K){x:Int}(h0:0<=x)(h:x<=Lk (2^w) K):Builtin.Int.intBits x<=8000:=by
 have:=Jt H (s:=1) (.inl rfl)
 rw [Int.one_mul]at this
 have h2:=H.Lpos
 exact o6 h0 (Int.lt_of_le_of_lt h (I1 (Int.le_of_lt h2) this))
theorem Fy{w:Nat}{K:List (Nat×Nat)}(H:Ix w K){k:Nat×Nat}(hk:k∈K):(2^w-(k.1:Int)).natAbs<2^1501:=by
 have h1:=H.c k hk
 have h2:(2:Int)^w<=2^1500:=A8 H.w2
 have h3:((2:Int)^1501)=2^1500*2:=Int.pow_succ ..
 have h4:(((2:Nat)^1501:Nat):Int)=(2:Int)^1501:=Int.natCast_pow ..
 have h5:(0:Int)<2^1500:=Int.pow_pos (by decide)
 generalize (2:Int)^w=X at*
 generalize (2:Int)^1500=Y at*
 generalize (2:Int)^1501=Z at*
 generalize (2:Nat)^1501=z at*
 lia
noncomputable def DS(p:Pv)(x1 Fc Kd Fd Px NO KW Md x18 JT Lp:Option AV):List (Option AV):=[p.q0,x1,p.q2,p.q3,none,p.q5,some (.lst 6),none,p.q8,p.q9,p.q10,Fc,Kd,Fd,Px,NO,KW,Md,x18,JT,Lp,none,none,none,none,none,none,none,none,none,none,none,none,none,none,none,none,none,none,none]
noncomputable def Kz(KW Md x18 JT:Option AV):List (Option AV):=[none,none,none,none,none,none,none,none,none,none,none,none,none,none,none,none,KW,Md,x18,JT,none,none,none,none,none,none,none,none,none,none,none,none,none,none,none,none,none,none,none,none]
section
variable{B:Bs}{P:Params}(C:CtxQ B P){n:Nat}{F:Fl->St->Prop}
include C
@[reducible] def WQ(B:Bs)(P:Params)(n:Nat)(F:Fl->St->Prop)(p:Pv)(tot:Int)(M:Ls)(sh kd:Nat)(K:List (Nat×Nat))(rows shv:List AV):Prop:=∀(C:CtxQ B P)(hK:∀w,36<=w->w<=1500->Ix w K)(hcnt:∀k∈K,k.2<=5)(ms:M[sh]? =some shv)(m6:M[6]? =some rows)(mk:M[kd]? =some (U7 K))(hF:∀u_dots u_often(M':Ls)(s:Int)(w:Nat),(s=1∨s= -1)->36<=w->w<=1500->M'[sh]? =some shv->M'[6]? =some rows->M'[kd]? =some (U7 K)->
   d9 B (n+3) NG ⟨(DS p (some (.int tot)) (some (.lst sh)) (some (.lst kd)) (some (.int (K.length:Int))) (some (.int s)) (some (.int (w:Int))) (some (.int (2^w))) (some (.int (Lk (2^w) K))) u_dots u_often (some (.int (Rk (2^w) 0 K)))),M'⟩ F),d9 B (n+3) MZ ⟨(DS p (some (.int tot)) (some (.lst sh)) (some (.lst kd)) (some (.int (K.length:Int))) none none none none none none none),M⟩ F
noncomputable def O6:Uc:=ec fun u=>WQ u.b u.p (u.n 0) u.f u.v (u.i 0) (u.l 0) (u.n 1) (u.n 2) (u.e 0) (u.a 0) (u.a 1)
omit C in
theorem bO:WQ O6.b O6.p (O6.n 0) O6.f O6.v (O6.i 0) (O6.l 0) (O6.n 1) (O6.n 2) (O6.e 0) (O6.a 0) (O6.a 1):=fun C hK hcnt ms m6 mk hF=>by
 refine c0 (x:=Pb) (j6 Pb.eq_1 ?_)
 walk_at "Q1!&1!&1!0!b&!a"
 refine u4 (IntMulOk.of_left (by decide)) ?_
 walk_at "]k"
 have hs:=RB (O6.i 0)
 generalize (1:Int)-2*((O6.i 0).fdiv 2).fmod 2=s at*
 refine c0 (x:=MI) (j6 MI.eq_1 ?_)
 walk_at "Q1!1&1!0!b&!a[1!&4!D210!b&!a&!fB!"
 refine Hy ?_
 walk_at ""
 refine u4 (IntMulOk.of_left (by decide)) ?_
 walk_at "[k"
 refine E6 (MH (O6.i 0)) fun w ew w1 w2=> ?_
 rw [ew]
 have H:=hK w w1 w2
 refine c0 (x:=Nm) (j6 Nm.eq_1 ?_)
 walk_at "Q0!"
 refine Fx (by exact c1) (by rw [show Builtin.Int.intBits 2=2 by decide];lia) ?_
 rw [Int.toNat_natCast]
 walk_at "k"
 refine c0 (x:=OE) (j6 OE.eq_1 ?_)
 walk_at "N!k"
 refine c0 (x:=Pc) (j6 Pc.eq_1 ?_)
 walk_at "Y"
 refine z5 ?_
 walk_at "%!"
 refine b8 mk ?_
 refine Bo (fun items σ=>∃(rest:List (Nat×Nat))(lo:Int)(u_dots u_often:Option AV),items=U7 rest∧(∀k∈rest,k∈(O6.e 0))∧0<lo∧lo*Lk (2^w) rest=Lk (2^w) (O6.e 0)∧σ=⟨(DS O6.v (some (.int (O6.i 0))) (some (.lst (O6.n 1))) (some (.lst (O6.n 2))) (some (.int ((O6.e 0).length:Int))) (some (.int s)) (some (.int (w:Int))) (some (.int (2^w))) (some (.int lo)) u_dots u_often none),(O6.l 0)⟩) ?_ ?_ ?_ _ ?_
 ·rintro l σ ⟨rest,lo,_,_,_,_,_,_,rfl⟩;exact mk
 ·intro I hI0 v r σ hh_ex
  refine Fj hh_ex fun rest lo u_dots u_often hi hm h0 hl ee8=> ?_
  clear hh_ex
  subst ee8
  cases rest with
  |nil=>exact HF hi
  |cons k rest=>
  (refine Jd hi fun h1 h2=> ?_;clear hi;subst h1;subst h2)
  have hkK:=hm k (.head _)
  refine b8 (a:=(⟨(DS O6.v (some (.int (O6.i 0))) (some (.lst (O6.n 1))) (some (.lst (O6.n 2))) (some (.int ((O6.e 0).length:Int))) (some (.int s)) (some (.int (w:Int))) (some (.int (2^w))) (some (.int lo)) (some (.int (k.1:Int))) (some (.int (k.2:Int))) none),(O6.l 0)⟩:St)) rfl ?_
  refine Ai Sv.eq_1 ?_
  walk_at "#Q0!"
  have hLr:0<Lk (2^w) (k::rest):=Z5 fun k hk=>H.lt k (hm k hk)
  have hlo:lo<=Lk (2^w) (O6.e 0):=by
   rw [←hl]
   have:=Int.mul_le_mul_of_nonneg_left (show(1:Int)<=Lk (2^w) (k::rest) by lia) (Int.le_of_lt h0)
   rw [Int.mul_one]at this;exact this
  refine u4 (IntMulOk.of_le (ED H (Int.le_of_lt h0) hlo) (I7 (Fy H hkK)) (by decide)) ?_
  walk_at "k$j"
  have:=H.lt k hkK
  refine⟨rest,_,_,_,rfl,fun k hk=>hm k (.tail _ hk),Int.mul_pos h0 (by lia),?_,rfl⟩
  (rw [←hl,Ka,Int.mul_assoc];rfl)
 ·intro σ hh_ex
  refine Fj hh_ex fun rest lo u_dots u_often hi hm h0 hl ee8=> ?_
  clear hh_ex
  subst ee8
  have hr:rest=[]:=by cases rest with
   |nil=>rfl
   |cons c r=>exact Hw hi
  subst hr
  rw [show Lk (2^w) []=1 from rfl,Int.mul_one]at hl
  subst hl
  walk_at "k"
  refine c0 (x:=MN) (j6 MN.eq_1 ?_)
  walk_at "Q4!D@"
  refine z5 ?_
  walk_at "%!"
  refine b8 mk ?_
  refine J8 (fun items σ=>∃(done rest:List (Nat×Nat))(u_dots u_often:Option AV)(M':Ls),items=U7 rest∧(O6.e 0)=done++rest∧M'[(O6.n 1)]? =some (O6.a 1)∧M'[6]? =some (O6.a 0)∧M'[(O6.n 2)]? =some (U7 (O6.e 0))∧M'[(O6.l 0).length]? =some ((done.map fun k=>(k.2:Int)*(Lk (2^w) (O6.e 0)).fdiv (2^w-(k.1:Int))).map .int)∧σ=⟨(Kz (some (.int (2^w))) (some (.int (Lk (2^w) (O6.e 0)))) u_dots u_often),M'⟩) ?_ ?_ ?_ _ ?_
  ·rintro l σ ⟨_,_,_,_,M',_,_,_,_,h,_,rfl⟩;exact h
  ·intro I hI0 v r σ hh_ex
   refine KB hh_ex fun done rest u_dots u_often M' hi hKd q1 q2 q3 q4 ee11=> ?_
   clear hh_ex
   subst ee11
   cases rest with
   |nil=>exact HF hi
   |cons k rest=>
   (refine Jd hi fun h1 h2=> ?_;clear hi;subst h1;subst h2)
   have hkK:k∈(O6.e 0):=by rw [hKd];simp
   refine b8 (a:=(⟨(Kz (some (.int (2^w))) (some (.int (Lk (2^w) (O6.e 0)))) (some (.int (k.1:Int))) (some (.int (k.2:Int)))),M'⟩:St)) rfl ?_
   have hx:=H.lt k hkK
   have hk2:=hcnt k hkK
   walk_at "1%0!"
   refine Jv (by lia) (Nat.lt_of_lt_of_le (Fy H hkK) (Nat.pow_le_pow_right (by decide) (by decide))) ?_
   refine u4 (IntMulOk.of_left (intBits_le_64 (by lia) (by lia))) ?_
   refine V8 hI0 q4 ?_
   have hml:(O6.l 0).length<M'.length:=(List.getElem?_eq_some_iff.mp q4).1
   have hsl:=(List.getElem?_eq_some_iff.mp ms).1
   have h6l:=(List.getElem?_eq_some_iff.mp m6).1
   have hkl:=(List.getElem?_eq_some_iff.mp mk).1
   have hdl:done.length<=5:=by
    have:=congrArg List.length hKd
    rw [length_append]at this
    have:=H.l2;lia
   refine⟨by simp;exact u2 ‹_› rfl,done++[k],rest,_,_,_,rfl,by rw [hKd];simp,A6 q1 (by exact n5 ‹_›),A6 q2 (by exact n5 ‹_›),A6 q3 (by exact n5 ‹_›),?_,rfl⟩
   rw [r6 q4]
   simp
  ·intro σ hh_ex
   refine KB hh_ex fun done rest u_dots' u_often' M' hi hKd q1 q2 q3 q4 ee11=> ?_
   clear hh_ex
   subst ee11
   have hr:rest=[]:=by cases rest with
    |nil=>rfl
    |cons c r=>exact Hw hi
   rw [hr,append_nil]at hKd
   subst hKd
   walk_at "B!"
   refine Od q4 ?_
   walk_at "k"
   have hu:=Nv (X:=2^w) (O6.e 0) 1 H.lt
   rw [Int.one_mul,Int.one_mul]at hu
   rw [Mi,hu]
   exact hF u_dots u_often M' s w hs w1 w2 q1 q2 q3
  ·exact⟨[],(O6.e 0),none,none,_,rfl,rfl,f6 ms,f6 m6,f6 mk,i9,rfl⟩
 ·exact⟨(O6.e 0),1,none,none,rfl,fun k hk=>hk,by decide,Int.one_mul _,rfl⟩
omit C in
theorem YX{B:Bs}{P:Params}{n:Nat}{F:Fl->St->Prop}{p:Pv}{tot:Int}{M:Ls}{sh kd:Nat}{K:List (Nat×Nat)}{rows shv:List AV}:WQ B P n F p tot M sh kd K rows shv:=by with_unfolding_all exact hk (q:=fun u:Uc=>WQ u.b u.p (u.n 0) u.f u.v (u.i 0) (u.l 0) (u.n 1) (u.n 2) (u.e 0) (u.a 0) (u.a 1)) bO (.mk B P F O6.q p [M] [n,sh,kd] [tot] [] [K] [] [rows,shv] [] [] [] [] [] [] [] [])
end
noncomputable def Hs(p:Pv)(Fd Px NO KW Md Lp Qj Su PH Sy:Option AV):List (Option AV):=[p.q0,p.q1,p.q2,p.q3,none,p.q5,some (.lst 6),none,p.q8,p.q9,p.q10,p.q11,p.q12,Fd,Px,NO,KW,Md,p.q18,p.q19,Lp,Qj,Su,PH,Sy,none,none,none,none,none,none,none,none,none,none,none,none,none,none,none]
section
variable{w:Nat}{K:List (Nat×Nat)}(H:Ix w K)
include H
theorem Ou{s x:Int}(hs:s=1∨s= -1)(h0:0<=x)(h:x<=Lk (2^w) K):Builtin.Int.intBits (s*x)<=8000:=by
 have h1:=ED H h0 h
 rw [intBits_le_iff]at h1 ⊢
 rw [Int.natAbs_mul]
 rcases hs with rfl |rfl<;>simpa using h1
theorem GA:Builtin.Int.intBits (((2:Int)^w)^K.length)<=8000:=by
 rw [U9]
 have h1:w*K.length<=1500*5:=Nat.mul_le_mul H.w2 H.l2
 refine Nat.le_trans (o6 (m:=w*K.length+1) (Int.le_of_lt (Int.pow_pos (by decide))) ?_) (by exact JA ‹_› rfl)
 have:(0:Int)<2^(w*K.length):=Int.pow_pos (by decide)
 rw [Int.pow_succ];lia
theorem Nf{a:Nat}(ha:a<=5):Builtin.Int.intBits (R0 (2^w) K a K.length)<=8000:=by
 have hX:(0:Int)<2^w:=Int.pow_pos (by decide)
 have h1:=EV hX K a K.length fun j hj=>H.plt (by have:=H.l2;lia)
 have h2:=H3 (Int.le_of_lt hX) K a K.length
 rw [U9]at h1
 have h3:w*K.length<=1500*5:=Nat.mul_le_mul H.w2 H.l2
 exact Nat.le_trans (o6 h2 h1) (by exact u2 ‹_› rfl)
theorem IY:D5 K=0∨D5 K=1:=by
 unfold D5
 split
 ·exact .inr rfl
 ·exact .inl rfl
theorem HZ:Builtin.Int.intBits (-R0 (2^w) K K.length K.length-D5 K)<=8001:=by
 have h1:=Nf H (a:=K.length) H.l2
 have hX:(0:Int)<2^w:=Int.pow_pos (by decide)
 have h2:=H3 (Int.le_of_lt hX) K K.length K.length
 rw [intBits_le_iff]at h1 ⊢
 have h3:=IY H
 rw [Nat.pow_succ]
 generalize R0 (2^w) K K.length K.length=h at*
 have h4:0<2^8000:=Nat.pow_pos (by decide)
 generalize 2^8000=Y at*
 exact XZ ‹_› ‹_›
theorem IZ{a:Nat}(ha:a<=5):(Builtin.Int.intBits (R0 (2^w) K a K.length)+w-1)/w<=20:=by
 have hX:(0:Int)<2^w:=Int.pow_pos (by decide)
 have h1:=EV hX K a K.length fun j hj=>H.plt (by have:=H.l2;lia)
 have h2:=H3 (Int.le_of_lt hX) K a K.length
 rw [U9]at h1
 have h3:=o6 h2 h1
 have h4:=H.l2
 have h5:=H.w1
 have h6:w*K.length<=w*5:=Nat.mul_le_mul_left w h4
 refine Nat.le_of_lt_succ (Nat.div_lt_of_lt_mul ?_)
 lia
end
theorem Zx{s:Int}(hs:s=1∨s= -1):Builtin.Int.intBits s<=64:=by rcases hs with rfl |rfl<;>decide
theorem aF{s l:Int}(hs:s=1∨s= -1)(hl:0<l):s*l≠0:=by rcases hs with rfl |rfl<;>lia
theorem Tu{s x:Int}(hs:s=1∨s= -1):(s*x).natAbs=x.natAbs:=by rcases hs with rfl |rfl<;>simp
theorem Ut{w:Nat}{K:List (Nat×Nat)}(H:Ix w K):(Builtin.Int.intBits ((2:Int)^w):Int)*(K.length:Int)<=2^27:=by
 have h1:Builtin.Int.intBits ((2:Int)^w)<=1501:=by
  refine o6 (Int.le_of_lt (Int.pow_pos (by decide))) ?_
  have:=A8 (m:=w) (n:=1500) H.w2
  have h0:(0:Int)<2^1500:=Int.pow_pos (by decide)
  rw [Int.pow_succ];lia
 exact Int.le_trans (Int.ofNat_le.mpr (Nat.mul_le_mul h1 H.l2)) (by decide)
section
variable{B:Bs}{P:Params}(C:CtxQ B P){n:Nat}{F:Fl->St->Prop}
include C
@[reducible] def XK(B:Bs)(P:Params)(n:Nat)(F:Fl->St->Prop)(p:Pv)(M:Ls)(w:Nat)(s:Int)(K:List (Nat×Nat)):Prop:=∀(C:CtxQ B P)(H:Ix w K)(hs:s=1∨s= -1)(hF:∀(u_left u_second u_rest:Option AV),u_left=some (.int (s*Rk (2^w) K.length K))->u_second=some (.int (-R0 (2^w) K K.length K.length-D5 K))->
   d9 B (n+25) Nc ⟨(Hs p (some (.int (K.length:Int))) (some (.int s)) (some (.int (w:Int))) (some (.int (2^w))) (some (.int (Lk (2^w) K))) (some (.int (Rk (2^w) 0 K))) (some (.int (R0 (2^w) K 0 K.length))) u_left (some (.int (-R0 (2^w) K K.length K.length-D5 K))) u_rest),M⟩ F),d9 B (n+25) NG ⟨(Hs p (some (.int (K.length:Int))) (some (.int s)) (some (.int (w:Int))) (some (.int (2^w))) (some (.int (Lk (2^w) K))) (some (.int (Rk (2^w) 0 K))) none none none none),M⟩ F
noncomputable def w8:Uc:=ec fun u=>XK u.b u.p (u.n 0) u.f u.v (u.l 0) (u.n 1) (u.i 0) (u.e 0)
omit C in
theorem bZ:XK w8.b w8.p (w8.n 0) w8.f w8.v (w8.l 0) (w8.n 1) (w8.i 0) (w8.e 0):=fun C H hs hF=>by
 have hl:=H.Lpos
 have hs64:=Zx hs
 have hne:=aF hs hl
 have hU0:=H.Rnn 0
 have hU1:=H.Rlt (N:=0) (by decide)
 have hR0:=H.Rnn (w8.e 0).length
 have hR1:=H.Rlt (N:=(w8.e 0).length) (by have:=H.l2;exact u2 ‹_› rfl)
 have hpw:=Ut H
 refine c0 (x:=OD) (j6 OD.eq_1 ?_)
 walk_at "S4D10!"
 refine u4 (IntMulOk.of_left hs64) ?_
 walk_at "0!"
 refine Fx (by exact c1) hpw ?_
 rw [Int.toNat_natCast]
 refine u4 (IntMulOk.of_le (Ou H hs hU0 (Int.le_of_lt hU1)) (GA H) (by decide)) ?_
 walk_at "D0!"
 refine u4 (IntMulOk.of_left hs64) ?_
 walk_at "B!"
 have ha1:((w8.i 0)*Rk (2^(w8.n 1)) 0 (w8.e 0)*(2^(w8.n 1))^(w8.e 0).length).natAbs=(Rk (2^(w8.n 1)) 0 (w8.e 0)*(2^(w8.n 1))^(w8.e 0).length).natAbs:=by
  (rw [Int.mul_assoc,Tu hs];rfl)
 refine J9 (K:=(w8.n 0)) C.toCtxP hne (Jt H hs) (Mr H hs hU0 hU1 ha1) ?_
 obtain⟨e1,e2⟩:=OT H hs
 rw [e1,e2]
 walk_at "e!k"
 refine c0 (x:=Mu) (j6 Mu.eq_1 ?_)
 walk_at "S4D1/0!"
 refine Fx (by exact c1) hpw ?_
 rw [Int.toNat_natCast]
 have hbn:Builtin.Int.intBits (-((w8.i 0)*Rk (2^(w8.n 1)) (w8.e 0).length (w8.e 0)))<=8000:=by
  have:=Ou H hs hR0 (Int.le_of_lt hR1)
  rw [intBits_le_iff]at this ⊢
  rw [Int.natAbs_neg];exact this
 refine u4 (IntMulOk.of_le hbn (GA H) (by decide)) ?_
 walk_at "D0!"
 refine u4 (IntMulOk.of_left hs64) ?_
 walk_at "B!"
 have ha2:(-((w8.i 0)*Rk (2^(w8.n 1)) (w8.e 0).length (w8.e 0))*(2^(w8.n 1))^(w8.e 0).length).natAbs=(Rk (2^(w8.n 1)) (w8.e 0).length (w8.e 0)*(2^(w8.n 1))^(w8.e 0).length).natAbs:=by
  (rw [←Int.neg_mul_eq_neg_mul,Int.natAbs_neg,Int.mul_assoc,Tu hs];rfl)
 refine J9 (K:=(w8.n 0)) C.toCtxP hne (Jt H hs) (Mr H hs hR0 hR1 ha2) ?_
 have e3:=LK H hs
 have e4:=Int.mul_fdiv_add_fmod (-((w8.i 0)*Rk (2^(w8.n 1)) (w8.e 0).length (w8.e 0))*(2^(w8.n 1))^(w8.e 0).length) ((w8.i 0)*Lk (2^(w8.n 1)) (w8.e 0))
 have e5:=Qu H (s:=(w8.i 0)) (a:= -(Rk (2^(w8.n 1)) (w8.e 0).length (w8.e 0)*(2^(w8.n 1))^(w8.e 0).length)) hs
 have e6:(w8.i 0)* -(Rk (2^(w8.n 1)) (w8.e 0).length (w8.e 0)*(2^(w8.n 1))^(w8.e 0).length)= -((w8.i 0)*Rk (2^(w8.n 1)) (w8.e 0).length (w8.e 0))*(2^(w8.n 1))^(w8.e 0).length:=by
  generalize (2^(w8.n 1):Int)^(w8.e 0).length=y
  grind
 rw [e6]at e5
 rw [e3]at e4 ⊢
 generalize hA: -((w8.i 0)*Rk (2^(w8.n 1)) (w8.e 0).length (w8.e 0))*(2^(w8.n 1))^(w8.e 0).length=A at*
 generalize hRe:A.fmod ((w8.i 0)*Lk (2^(w8.n 1)) (w8.e 0))=re at*
 walk_at "e!k"
 refine c0 (x:=MU) (j6 MU.eq_1 ?_)
 walk_at "XGI110!"
 have hsb:=HZ H
 generalize hse: -R0 (2^(w8.n 1)) (w8.e 0) (w8.e 0).length (w8.e 0).length-D5 (w8.e 0)=se at*
 refine u4 (IntMulOk.of_right hs64) ?_
 walk_at "%!"
 have hsb2:Builtin.Int.intBits (se*(w8.i 0))<=8001:=by
  rw [intBits_le_iff]at hsb ⊢
  rw [Int.mul_comm,Tu hs];exact hsb
 refine u4 (IntMulOk.of_le hsb2 (ED H (Int.le_of_lt hl) (Int.le_refl _)) (by decide)) ?_
 walk_at "%![1!/0!"
 refine Fx (by exact c1) hpw ?_
 rw [Int.toNat_natCast]
 refine u4 (IntMulOk.of_le hbn (GA H) (by decide)) ?_
 walk_at "f"
 rw [hA]
 have e7:se*(w8.i 0)*Lk (2^(w8.n 1)) (w8.e 0)+re=A:=by
  rw [←e4]
  generalize Lk (2^(w8.n 1)) (w8.e 0)=l
  grind
 rw [e7,if_neg (by simp)]
 walk_at "EJ&0!"
 refine u4 (IntMulOk.of_left hs64) ?_
 walk_at "f"
 rw [if_pos (by exact decide_eq_true e5.1)]
 walk_at "%!f"
 have e8:(!decide ((w8.i 0)*re<Lk (2^(w8.n 1)) (w8.e 0)))=false:=by simpa using e5.2
 rw [e8,if_neg (by decide)]
 walk_at "$k"
 exact hF _ _ _ rfl rfl
omit C in
theorem VH{B:Bs}{P:Params}{n:Nat}{F:Fl->St->Prop}{p:Pv}{M:Ls}{w:Nat}{s:Int}{K:List (Nat×Nat)}:XK B P n F p M w s K:=by with_unfolding_all exact Mine.hk (q:=fun u:Uc=>XK u.b u.p (u.n 0) u.f u.v (u.l 0) (u.n 1) (u.i 0) (u.e 0)) bZ (.mk B P F w8.q p [M] [n,w] [s] [] [K] [] [] [] [] [] [] [] [] [] [])
end
theorem BV(D:List Nat)(n:Nat):(Cl D n).length=2*n:=by unfold Cl;(rw [length_map,length_range];rfl)
noncomputable def Hf(p:Pv)(EZ Fc Kd Fd NO KW Md Lp Qj PH Sr TS:Option AV):List (Option AV):=[p.q0,p.q1,p.q2,p.q3,none,p.q5,some (.lst 6),none,p.q8,p.q9,EZ,Fc,Kd,Fd,p.q14,NO,KW,Md,p.q18,p.q19,Lp,Qj,p.q22,PH,p.q24,Sr,TS,none,none,none,none,none,none,none,none,none,none,none,none,none]
noncomputable def HP(EZ:Option AV):List (Option AV):=[none,none,none,none,none,none,none,none,none,none,EZ,none,none,none,none,none,none,none,none,none,none,none,none,none,none,none,none,none,none,none,none,none,none,none,none,none,none,none,none,none]
section
variable{B:Bs}{P:Params}(C:CtxQ B P){n:Nat}{F:Fl->St->Prop}
include C
@[reducible] def Xp(B:Bs)(P:Params)(n:Nat)(F:Fl->St->Prop)(p:Pv)(M:Ls)(u_row:Option AV)(sh kd w t:Nat)(D:List Nat)(ps:List (Nat×Bool))(shv:List AV):Prop:=∀(C:CtxQ B P)(HD:MP t D)(w1:36<=w)(w2:w<=1500)(hp5:ps.length=5)(hp9:∀r∈ps,r.1<=9)(hpD:∀d,d∈D↔d∈ps.map (·.1))(ms:M[sh]? =some shv)(m6:M[6]? =some ((d8 ps).map .str))(mk:M[kd]? =some (U7 (km none D)))(hF:∀u_first u_second u_some(M':Ls)(pw:Nat),M'[sh]? =some shv->M'[kd]? =some (U7 (km none D))->M'[pw]? =some ((Cl D (km none D).length).map .int)->
   d9 B (n+25) Og ⟨(Hf p u_row (some (.lst sh)) (some (.lst kd)) (some (.int ((km none D).length:Int))) (some (.int (w:Int))) (some (.int (2^w))) (some (.int (Lk (2^w) (km none D)))) (some (.int (Rk (2^w) 0 (km none D)))) u_first u_second u_some (some (.lst pw))),M'⟩ F),d9 B (n+25) Nc ⟨(Hf p u_row (some (.lst sh)) (some (.lst kd)) (some (.int ((km none D).length:Int))) (some (.int (w:Int))) (some (.int (2^w))) (some (.int (Lk (2^w) (km none D)))) (some (.int (Rk (2^w) 0 (km none D)))) (some (.int (R0 (2^w) (km none D) 0 (km none D).length))) (some (.int (-R0 (2^w) (km none D) (km none D).length (km none D).length-D5 (km none D)))) none none),M⟩ F
noncomputable def I6:Uc:=ec fun u=>Xp u.b u.p (u.n 0) u.f u.v (u.l 0) (u.o 0) (u.n 1) (u.n 2) (u.n 3) (u.n 4) (u.d 0) (u.g 0) (u.a 0)
@[irreducible] noncomputable def K67.u_row:Option AV:=(I6.o 0)
omit C in
open K67 in
theorem cS:Xp I6.b I6.p (I6.n 0) I6.f I6.v (I6.l 0) u_row (I6.n 1) (I6.n 2) (I6.n 3) (I6.n 4) (I6.d 0) (I6.g 0) (I6.a 0):=fun C HD w1 w2 hp5 hp9 hpD ms m6 mk hF=>by
 have H:=HD.kok w1 w2
 have hsl:=(List.getElem?_eq_some_iff.mp ms).1
 have h6l:=(List.getElem?_eq_some_iff.mp m6).1
 have hkl:=(List.getElem?_eq_some_iff.mp mk).1
 refine c0 (x:=Pe) (j6 Pe.eq_1 ?_)
 walk_at "Q4!D24D@"
 refine z5 ?_
 walk_at "%!"
 refine b8 m6 ?_
 refine J8 (fun items σ=>∃(done rest:List (Nat×Bool))(u_row:Option AV)(M':Ls),items=(d8 rest).map .str∧(I6.g 0)=done++rest∧M'[(I6.n 1)]? =some (I6.a 0)∧M'[6]? =some ((d8 (I6.g 0)).map .str)∧M'[(I6.n 2)]? =some (U7 (km none (I6.d 0)))∧M'[(I6.l 0).length]? =some ((done.map fun r=>(r.1:Int)).map .int)∧σ=⟨(HP u_row),M'⟩) ?_ ?_ ?_ _ ?_
 ·rintro l σ ⟨_,_,_,M',_,_,_,h,_,_,rfl⟩;exact h
 ·intro I hI0 v r σ hh_ex
  refine CD hh_ex fun done rest u_row M' hi hpd q1 q2 q3 q4 ee10=> ?_
  clear hh_ex
  subst ee10
  cases rest with
  |nil=>exact HF hi
  |cons k rest=>
  (refine Jd hi fun h1 h2=> ?_;clear hi;subst h1;subst h2)
  have hk9:=hp9 k (by rw [hpd];simp)
  refine b8 (a:=(⟨(HP (some (.str (k9 k.1 k.2)))),M'⟩:St)) rfl ?_
  walk_at ",!"
  refine(C3 (n:=(I6.n 0)+24) C.toCtx (by rw [j8];exact JA ‹_› rfl) ?_)
  refine V8 hI0 q4 ?_
  have hdl:done.length<=5:=by
   have:=congrArg List.length hpd
   rw [length_append]at this;lia
  refine⟨by simp;exact u2 ‹_› rfl,done++[k],rest,_,_,rfl,by rw [hpd];simp,A6 q1 (by exact n5 ‹_›),A6 q2 (by exact n5 ‹_›),A6 q3 (by exact n5 ‹_›),?_,rfl⟩
  rw [r6 q4,j8]
  have:((k.1+2:Nat):Int)-2=(k.1:Int):=by lia
  simp
 ·intro σ hh_ex
  refine CD hh_ex fun done rest u_row' M' hi hpd q1 q2 q3 q4 ee10=> ?_
  clear hh_ex
  subst ee10
  have hr:rest=[]:=by cases rest with
   |nil=>rfl
   |cons c r=>exact Hw hi
  rw [hr,append_nil]at hpd
  subst hpd
  walk_at "B!"
  refine SF q4 (by rw [length_map];lia) fun mx hmx hle=> ?_
  walk_at "&!fB!"
  refine Hy ?_
  have hso:(if decide (0<mx)=true then(1:Int)else 0)=D5 (km none (I6.d 0)):=by
   rw [HD.some_eq]
   by_cases ha:(I6.d 0).any (fun d=>decide (0<d))=true
   ·rw [if_pos ha]
    refine a9 (any_eq_true.mp ha) fun d hd1 hd2=> ?_
    have hd3:=(hpD d).mp hd1
    refine a9 (mem_map.mp hd3) fun r hr1 ee2=> ?_
    subst ee2
    have:=hle (r.1:Int) (mem_map.mpr ⟨r,hr1,rfl⟩)
    have hd4:0<r.1:=by exact of_decide_eq_true hd2
    (rw [if_pos (by simp;lia)];rfl)
   ·rw [if_neg ha]
    refine a9 (mem_map.mp hmx) fun r hr1 ee2=> ?_
    subst ee2
    have hz:¬0<r.1:=fun h=>ha (any_eq_true.mpr ⟨r.1,(hpD r.1).mpr (mem_map.mpr ⟨r,hr1,rfl⟩),by exact decide_eq_true h⟩)
    (rw [if_neg (by simp;exact PH ‹_›)];rfl)
  rw [hso]
  walk_at "k"
  refine c0 (x:=Ny) (j6 Ny.eq_1 ?_)
  walk_at "Q1!17,!"
  have hX:(0:Int)<2^(I6.n 3):=Int.pow_pos (by decide)
  have hl1:=IZ H (a:=0) (by decide)
  have hl2:=IZ H (a:=(km none (I6.d 0)).length) H.l2
  have hpe:=LP HD w1 w2 rfl rfl
  generalize hm1:(Builtin.Int.intBits (R0 (2^(I6.n 3)) (km none (I6.d 0)) 0 (km none (I6.d 0)).length)+(I6.n 3)-1)/(I6.n 3)=m1 at*
  generalize hm2:(Builtin.Int.intBits (R0 (2^(I6.n 3)) (km none (I6.d 0)) (km none (I6.d 0)).length (km none (I6.d 0)).length)+(I6.n 3)-1)/(I6.n 3)=m2 at*
  refine U4 (K:=(I6.n 0)+4) C.toCtxD (H3 (Int.le_of_lt hX) _ _ _) (by exact u7 ‹_› rfl) (by exact u2 ‹_› rfl) hm1.symm hl1 ?_
  walk_at "**/"
  refine D2 (lo:=none) (hi:=none) (st:=some (-1)) i9 rfl rfl rfl (by simp) (by rw [length_map,I5];exact u2 ‹_› rfl) ?_
  rw [Cq,←map_reverse]
  walk_at "7!,!"
  rw [show-(-R0 (2^(I6.n 3)) (km none (I6.d 0)) (km none (I6.d 0)).length (km none (I6.d 0)).length-D5 (km none (I6.d 0)))-D5 (km none (I6.d 0))=R0 (2^(I6.n 3)) (km none (I6.d 0)) (km none (I6.d 0)).length (km none (I6.d 0)).length by lia]
  refine U4 (K:=(I6.n 0)+4) C.toCtxD (H3 (Int.le_of_lt hX) _ _ _) (by exact u7 ‹_› rfl) (by exact u2 ‹_› rfl) hm2.symm hl2 ?_
  walk_at "**/"
  refine D2 (lo:=none) (hi:=none) (st:=some (-1)) i9 rfl rfl rfl (by simp) (by rw [length_map,I5];exact u2 ‹_› rfl) ?_
  rw [Cq,←map_reverse]
  walk_at ""
  refine Bn (f6 (f6 i9)) i9 (by simp [I5];lia) ?_
  walk_at "1!9B!i/!"
  have h01:=IY H
  refine Er i9 (by simp;lia) (by lia) (by lia) ?_
  rw [Dt]
  refine Bn (f6 (f6 i9)) i9 (by simp [I5];lia) ?_
  walk_at "k"
  rw [←map_append,show List.replicate (1-D5 (km none (I6.d 0))).toNat (AV.int 0)=(List.replicate (1-D5 (km none (I6.d 0))).toNat (0:Int)).map AV.int by(rw [List.map_replicate];rfl),←map_append,hpe,←HD.kl]
  refine c0 (x:=OX) (j6 OX.eq_1 ?_)
  walk_at "XI,!"
  refine o5 i9 (by rw [length_map,BV];have:=H.l2;lia) ?_
  walk_at "0!"
  refine u4 (IntMulOk.of_left (by decide)) ?_
  walk_at "f"
  rw [if_neg (by rw [length_map,BV];simp)]
  walk_at "$k"
  exact hF _ _ _ _ _ (by repeat (first |exact q1 |refine f6 ?_)) (by repeat (first |exact q3 |refine f6 ?_)) i9
 ·exact⟨[],(I6.g 0),none,_,rfl,rfl,f6 ms,f6 m6,f6 mk,i9,rfl⟩
omit C in
theorem VK{B:Bs}{P:Params}{n:Nat}{F:Fl->St->Prop}{p:Pv}{M:Ls}{u_row:Option AV}{sh kd w t:Nat}{D:List Nat}{ps:List (Nat×Bool)}{shv:List AV}:Xp B P n F p M u_row sh kd w t D ps shv:=by with_unfolding_all exact hk (q:=fun u:Uc=>Xp u.b u.p (u.n 0) u.f u.v (u.l 0) (u.o 0) (u.n 1) (u.n 2) (u.n 3) (u.n 4) (u.d 0) (u.g 0) (u.a 0)) cS (.mk B P F I6.q p [M] [n,sh,kd,w,t] [] [D] [] [ps] [shv] [] [] [u_row] [] [] [] [] [])
end
theorem FY(d e:Nat)(b c:Bool):S5 d e b c=S5 e d c b:=by
 unfold S5
 have h1:((d:Int)-e).natAbs=((e:Int)-d).natAbs:=by exact Vq
 rw [h1]
 cases b<;>cases c<;>rfl
theorem LY{d e:Nat}(h:e<=d)(b c:Bool):(S5 d e b c).fdiv 2=(d:Int)-(e:Int):=by
 unfold S5
 rw [Int.fdiv_eq_ediv_of_nonneg _ (by decide)]
 split<;>(first |lia |exact xa67 ‹_›)
noncomputable def Cb(D:List Nat)(i j:Nat):List Int:=(D.take j).map fun(a:Nat)=>((D.getD i 0:Nat):Int)-(a:Int)
theorem Lv{D:List Nat}{i j:Nat}(h:j<D.length):Cb D i (j+1)=Cb D i j++[((D.getD i 0:Nat):Int)-((D.getD j 0:Nat):Int)]:=by
 unfold Cb
 rw [take_succ,getElem?_eq_getElem h,map_append,getD_eq_getElem?_getD,getD_eq_getElem?_getD,getElem?_eq_getElem h]
 rfl
theorem ON:∀(X A:List Nat)(i:Nat),i<X.length->(hv A X)[i]? =some ((A++X.take i).map fun(a:Nat)=>((X.getD i 0:Nat):Int)-(a:Int))
 | [],_,_,h=>absurd h (Nat.not_lt_zero _)
 |x::X,A,0,_=>by
  rw [List.take_zero,append_nil];rfl
 |x::X,A,i+1,h=>by
  have:=ON X (A++[x]) i (by exact Nat.lt_of_succ_lt_succ h)
  show(hv (A++[x]) X)[i]? =_
  rw [this,append_assoc];rfl
theorem JP:∀(X A:List Nat),(hv A X).length=X.length
 | [],_=>rfl
 |x::X,A=>by show(_::hv (A++[x]) X).length=_;(rw [length_cons];rewrite [JP X];rw [length_cons];rfl)
noncomputable def BF(p:Pv)(x3 EZ Fc Mj x28 x29 Om:Option AV):List (Option AV):=[p.q0,p.q1,p.q2,x3,none,p.q5,p.q6,none,p.q8,p.q9,EZ,Fc,p.q12,p.q13,p.q14,p.q15,p.q16,p.q17,p.q18,p.q19,p.q20,p.q21,p.q22,p.q23,p.q24,p.q25,p.q26,Mj,x28,x29,Om,none,none,none,none,none,none,none,none,none]
section
variable{B:Bs}{P:Params}(C:CtxQ B P){n:Nat}{F:Fl->St->Prop}
include C
@[reducible] def Xj(B:Bs)(P:Params)(n:Nat)(F:Fl->St->Prop)(p:Pv)(u_row:Option AV)(sh hl hp m:Nat)(SP:List (Nat×Bool))(D:List Nat):Prop:=∀(C:CtxQ B P){hk:List Nat}(h5:SP.length=5)(hle:∀r∈SP,r.1<=9)(hD:SP.map (·.1)=D)(hs:D.Pairwise (· <= ·))(hm:m<5)(hkm:hk[m]? =some hp)(hkl:hk.length<=10)(hne1:hp≠hl)(hne2:hp≠sh),∀(f j:Nat)(u_low u_due u_told:Option AV)(L:Ls),j+f=m->L[hl]? =some (hk.map .lst)->L[sh]? =some ((d8 SP).map .str)->L[hp]? =some ((Cb D m j).map .int)->
  (∀u_low u_due u_told(L':Ls),(∀k,k≠hp->L'[k]? =L[k]?)->L'.length=L.length->L'[hp]? =some ((Cb D m m).map .int)->
   F .next ⟨(BF p (some (.int (m:Int))) (some (.str (k9 (SP.getD m (0,false)).1 (SP.getD m (0,false)).2))) (some (.lst sh)) (some (.lst hl)) u_low u_due u_told),L'⟩)->
  A2 (fun _=>True) (.one 28) (d9 B (n+25) BK) (o2 (j:Int) (m:Int)) ⟨(BF p (some (.int (m:Int))) (some (.str (k9 (SP.getD m (0,false)).1 (SP.getD m (0,false)).2))) (some (.lst sh)) (some (.lst hl)) u_low u_due u_told),L⟩ F
noncomputable def E9:Uc:=ec fun u=>Xj u.b u.p (u.n 0) u.f u.v (u.o 0) (u.n 1) (u.n 2) (u.n 3) (u.n 4) (u.g 0) (u.d 0)
omit C in
theorem cO:Xj E9.b E9.p (E9.n 0) E9.f E9.v (E9.o 0) (E9.n 1) (E9.n 2) (E9.n 3) (E9.n 4) (E9.g 0) (E9.d 0):=fun C{hk} h5 hle hD hs hm hkm hkl hne1 hne2=>by
 intro f
 induction f with
 |zero=>
  intro j u_low u_due u_told L hjf g1 g2 g3 hF
  obtain rfl:j=(E9.n 4):=by with_reducible_and_instances assumption
  rw [y8 (Int.le_refl _)]
  exact⟨trivial,hF _ _ _ L (fun _ _=>rfl) rfl g3⟩
 |succ f ih=>
  intro j u_low u_due u_told L hjf g1 g2 g3 hF
  have hDl:(E9.d 0).length=5:=by(rw [←hD,length_map,h5];rfl)
  have hsj:(d8 (E9.g 0))[j]? =some (k9 ((E9.g 0).getD j (0,false)).1 ((E9.g 0).getD j (0,false)).2):=by
   unfold d8
   rw [getElem?_map,getD_eq_getElem?_getD,getElem?_eq_getElem (by lia)];rfl
  have i1:t8 L (.lst (E9.n 1)) (.int (j:Int))=some (.str (k9 ((E9.g 0).getD j (0,false)).1 ((E9.g 0).getD j (0,false)).2)):=s0 g2 (by rw [getElem?_map,hsj];rfl) (by unfold d8;simp [h5])
  have hdj:∀i,i<5->((E9.g 0).getD i (0,false)).1=(E9.d 0).getD i 0∧((E9.g 0).getD i (0,false)).1<=9:=fun i hi=>by
   have e:(E9.g 0).getD i (0,false)=(E9.g 0)[i]'(by lia):=by rw [getD_eq_getElem?_getD,getElem?_eq_getElem (by lia)];rfl
   rw [e]
   refine⟨?_,hle _ (getElem_mem _)⟩
   rw [←hD,getD_eq_getElem?_getD,getElem?_map,getElem?_eq_getElem (by lia)];rfl
  have em:=(hdj (E9.n 4) hm).1
  have em9:=(hdj (E9.n 4) hm).2
  have hj5:j<5:=by lia
  have ej:=(hdj j hj5).1
  have ej9:=(hdj j hj5).2
  have hjm:=T5 hs (show j<=(E9.n 4) by with_reducible_and_instances exact Yn ‹_›) (by lia)
  generalize hrm:(E9.g 0).getD (E9.n 4) (0,false)=rm at*
  generalize hrj:(E9.g 0).getD j (0,false)=rj at*
  rw [s7 (by lia)]
  refine⟨trivial,?_⟩
  show d9 E9.b ((E9.n 0)+25) BK ⟨(BF E9.v (some (.int ((E9.n 4):Int))) (some (.str (k9 rm.1 rm.2))) (some (.lst (E9.n 1))) (some (.lst (E9.n 2))) (some (.int (j:Int))) u_due u_told),L⟩ _
  have i2:t8 L (.lst (E9.n 2)) (.int ((E9.n 4):Int))=some (.lst (E9.n 3)):=s0 g1 (by rw [getElem?_map,hkm];rfl) (by rw [length_map];exact u2 ‹_› rfl)
  have hdl:(Cb (E9.d 0) (E9.n 4) j).length<=10:=by unfold Cb;rw [length_map,length_take];lia
  have fin:∀(u_low u_due u_told:Option AV),A2 (fun _=>True) (.one 28) (d9 E9.b ((E9.n 0)+25) BK) (o2 ((j:Int)+1) ((E9.n 4):Int)) ⟨(BF E9.v (some (.int ((E9.n 4):Int))) (some (.str (k9 rm.1 rm.2))) (some (.lst (E9.n 1))) (some (.lst (E9.n 2))) u_low u_due u_told),L.set (E9.n 3) ((Cb (E9.d 0) (E9.n 4) (j+1)).map .int)⟩ E9.f:=fun u_low u_due u_told=>by
   have:=ih (j+1) u_low u_due u_told (L.set (E9.n 3) ((Cb (E9.d 0) (E9.n 4) (j+1)).map .int)) (by with_reducible_and_instances exact RZ ‹_›) (A6 g1 hne1) (A6 g2 hne2) (r6 g3) (fun u_low u_due u_told L' q1 q2 q3=>hF u_low u_due u_told L' (fun k hk=>by(rw [q1 k hk,getElem?_set_ne (Ne.symm hk)];rfl)) (by(rw [q2,length_set];rfl)) q3)
   exact this
  have ed:(Cb (E9.d 0) (E9.n 4) j).map AV.int++[AV.int ((S5 rm.1 rj.1 rm.2 rj.2).fdiv 2)]=(Cb (E9.d 0) (E9.n 4) (j+1)).map AV.int:=by
   (rewrite [LY (by lia)];rw [Lv (by lia),em,ej]);simp
  refine Ai BK.eq_1 ?_
  walk_at "#Q4!D%D.!"
  with_reducible refine b8 i1 ?_
  walk_at "B!"
  refine(Gb (n:=(E9.n 0)) C.toCtx (by exact u2 ‹_› rfl) (by exact u2 ‹_› rfl) ?_).mono (by exact J6 rfl)
  walk_at "k#XH"
  generalize hfar:S5 rm.1 rj.1 rm.2 rj.2=far at*
  by_cases hc:((((E9.n 4):Int)+(j:Int)).fmod 2==1)=true
  ·rw [if_pos hc]
   walk_at "#Q4!D%D.!"
   with_reducible refine b8 i1 ?_
   walk_at "B!"
   refine(OB (n:=(E9.n 0)) C.toCtx C.pins (by exact u2 ‹_› rfl) (by exact u2 ‹_› rfl) (by lia) ?_).mono (by exact J6 rfl)
   walk_at "k$k#XH"
   rw [hfar,if_neg (by simp)]
   walk_at "$k#U6.!"
   with_reducible refine b8 i2 ?_
   walk_at "gD0!bB!"
   refine F6 g3 (by rw [length_map];exact u2 ‹_› rfl) ?_
   rw [ed]
   walk_at "dk$!"
   exact fin _ _ _
  ·rw [if_neg hc]
   walk_at "#Q4!D.!"
   with_reducible refine b8 i1 ?_
   walk_at "B!"
   refine(OB (n:=(E9.n 0)) C.toCtx C.pins (by exact u2 ‹_› rfl) (by exact u2 ‹_› rfl) (by rw [FY];lia) ?_).mono (by exact J6 rfl)
   walk_at "k$k#XH"
   rw [FY,hfar,if_neg (by simp)]
   walk_at "$k#U6.!"
   with_reducible refine b8 i2 ?_
   walk_at "gD0!bB!"
   refine F6 g3 (by rw [length_map];exact u2 ‹_› rfl) ?_
   rw [ed]
   walk_at "dk$!"
   exact fin _ _ _
omit C in
theorem SL{B:Bs}{P:Params}{n:Nat}{F:Fl->St->Prop}{p:Pv}{u_row:Option AV}{sh hl hp m:Nat}{SP:List (Nat×Bool)}{D:List Nat}:Xj B P n F p u_row sh hl hp m SP D:=by with_unfolding_all exact Mine.hk (q:=fun u:Uc=>Xj u.b u.p (u.n 0) u.f u.v (u.o 0) (u.n 1) (u.n 2) (u.n 3) (u.n 4) (u.g 0) (u.d 0)) cO (.mk B P F E9.q p [] [n,sh,hl,hp,m] [] [D] [] [SP] [] [] [] [u_row] [] [] [] [] [])
end
noncomputable def Dy(x0 x1 x2 x3 x5 x6 x8 x9 EZ Fc Kd Fd Px NO KW Md x18 JT Lp Qj Su PH Sy Sr TS Mj x28 x29 Om:Option AV):List (Option AV):=[x0,x1,x2,x3,none,x5,x6,none,x8,x9,EZ,Fc,Kd,Fd,Px,NO,KW,Md,x18,JT,Lp,Qj,Su,PH,Sy,Sr,TS,Mj,x28,x29,Om,none,none,none,none,none,none,none,none,none]
section
variable{B:Bs}{P:Params}(C:CtxQ B P){n:Nat}{F:Fl->St->Prop}
include C
@[reducible] def Rp(B:Bs)(P:Params)(n:Nat)(F:Fl->St->Prop)(tot width base:Int)(s lower upper cnt:AV)(M:Ls)(u_script u_cells u_place u_times u_mail u_turn u_row u_dots u_often u_first u_left u_second u_rest u_some:Option AV)(rw0 sh kd pw:Nat)(SP:List (Nat×Bool))(D:List Nat)(kdv pwv:List AV):Prop:=∀(C:CtxQ B P)(h5:SP.length=5)(hle:∀r∈SP,r.1<=9)(hD:SP.map (·.1)=D)(hs:D.Pairwise (· <= ·))(ms:M[sh]? =some ((d8 SP).map .str))(mk:M[kd]? =some kdv)(mp:M[pw]? =some pwv)(hF:∀u_place u_row u_low u_due u_told(M':Ls)(hl:Nat)(hk:List Nat),M'[sh]? =some ((d8 SP).map .str)->M'[kd]? =some kdv->M'[pw]? =some pwv->M'[hl]? =some (hk.map .lst)->hk.length=5->(∀i h,(hv [] D)[i]? =some h->∃hp,hk[i]? =some hp∧M'[hp]? =some (h.map .int)∧h.length=i∧Bd 32 h)->
   d9 B (n+25) KV ⟨(Dy u_script (some (.int tot)) u_cells u_place u_times (some (.lst rw0)) u_mail u_turn u_row (some (.lst sh)) (some (.lst kd)) (some (cnt)) (some (s)) (some (.int width)) (some (.int base)) (some (lower)) u_dots u_often (some (upper)) u_first u_left u_second u_rest u_some (some (.lst pw)) (some (.lst hl)) u_low u_due u_told),M'⟩ F),d9 B (n+25) Og ⟨(Dy u_script (some (.int tot)) u_cells u_place u_times (some (.lst rw0)) u_mail u_turn u_row (some (.lst sh)) (some (.lst kd)) (some (cnt)) (some (s)) (some (.int width)) (some (.int base)) (some (lower)) u_dots u_often (some (upper)) u_first u_left u_second u_rest u_some (some (.lst pw)) none none none none),M⟩ F
noncomputable def d7:Uc:=ec fun u=>Rp u.b u.p (u.n 0) u.f (u.i 0) (u.i 1) (u.i 2) (u.y 0) (u.y 1) (u.y 2) (u.y 3) (u.l 0) (u.o 0) (u.o 1) (u.o 2) (u.o 3) (u.o 4) (u.o 5) (u.o 6) (u.o 7) (u.o 8) (u.o 9) (u.o 10) (u.o 11) (u.o 12) (u.o 13) (u.n 1) (u.n 2) (u.n 3) (u.n 4) (u.g 0) (u.d 0) (u.a 0) (u.a 1)
@[irreducible] noncomputable def K118.u_place:Option AV:=(d7.o 2)
@[irreducible] noncomputable def K118.u_row:Option AV:=(d7.o 6)
omit C in
open K118 in
theorem Zy:Rp d7.b d7.p (d7.n 0) d7.f (d7.i 0) (d7.i 1) (d7.i 2) (d7.y 0) (d7.y 1) (d7.y 2) (d7.y 3) (d7.l 0) (d7.o 0) (d7.o 1) u_place (d7.o 3) (d7.o 4) (d7.o 5) u_row (d7.o 7) (d7.o 8) (d7.o 9) (d7.o 10) (d7.o 11) (d7.o 12) (d7.o 13) (d7.n 1) (d7.n 2) (d7.n 3) (d7.n 4) (d7.g 0) (d7.d 0) (d7.a 0) (d7.a 1):=fun C h5 hle hD hs ms mk mp hF=>by
 refine c0 (x:=OZ) (j6 OZ.eq_1 ?_)
 walk_at "Q9!B!ik"
 refine c0 (x:=Ok) (j6 Ok.eq_1 ?_)
 walk_at "Y"
 refine Eu ?_
 walk_at "%!"
 refine b8 (f6 ms) ?_
 have hsl:=(List.getElem?_eq_some_iff.mp ms).1
 have hkl:=(List.getElem?_eq_some_iff.mp mk).1
 have hpl:=(List.getElem?_eq_some_iff.mp mp).1
 generalize hhl:(d7.l 0).length=hl at*
 have hDl:(d7.d 0).length=5:=by(rw [←hD,length_map,h5];rfl)
 have hSl:(d8 (d7.g 0)).length=5:=by unfold d8;(rw [length_map,h5];rfl)
 refine Bo (fun items σ=>∃(m:Nat)(hk:List Nat)(u_place u_row u_low u_due u_told:Option AV)(L':Ls),m<=5∧items=S6 (m:Int) (((d8 (d7.g 0)).drop m).map .str)∧hk.length=m∧L'[hl]? =some (hk.map .lst)∧(∀i,i<m->∃hp,hk[i]? =some hp∧L'[hp]? =some ((Cb (d7.d 0) i i).map .int))∧(∀hp∈hk,hl<hp∧hp<L'.length)∧L'[(d7.n 2)]? =some ((d8 (d7.g 0)).map .str)∧L'[(d7.n 3)]? =some (d7.a 0)∧L'[(d7.n 4)]? =some (d7.a 1)∧
  σ=⟨(Dy (d7.o 0) (some (.int (d7.i 0))) (d7.o 1) u_place (d7.o 3) (some (.lst (d7.n 1))) (d7.o 4) (d7.o 5) u_row (some (.lst (d7.n 2))) (some (.lst (d7.n 3))) (some ((d7.y 3))) (some ((d7.y 0))) (some (.int (d7.i 1))) (some (.int (d7.i 2))) (some ((d7.y 1))) (d7.o 7) (d7.o 8) (some ((d7.y 2))) (d7.o 9) (d7.o 10) (d7.o 11) (d7.o 12) (d7.o 13) (some (.lst (d7.n 4))) (some (.lst hl)) u_low u_due u_told),L'⟩) ?_ ?_ ?_ _ ?_
 ·rintro l σ ⟨m,_,_,_,_,_,_,L',_,_,_,_,_,_,h,_,_,rfl⟩;exact h
 ·intro I hI0 v r σ hh_ex
  refine My hh_ex fun m hk u_place u_row u_low u_due u_told L' hm hi hkm q1 q2 q3 q4 q5 q6 ee17=> ?_
  clear hh_ex
  subst ee17
  have hm5:m<5:=by
   refine Nat.lt_of_le_of_ne hm fun e=> ?_
   rw [e,drop_eq_nil_of_le (by exact e6 ‹_› rfl)]at hi;exact HF hi
  rw [drop_eq_getElem_cons (by lia),map_cons]at hi
  (refine Jd hi fun h1 h2=> ?_;clear hi;subst h1;subst h2)
  have hSm:(d8 (d7.g 0))[m]'(by lia)=k9 ((d7.g 0).getD m (0,false)).1 ((d7.g 0).getD m (0,false)).2:=by
   have:(d7.g 0).getD m (0,false)=(d7.g 0)[m]'(by lia):=by rw [getD_eq_getElem?_getD,getElem?_eq_getElem (by lia)];rfl
   rw [this];exact getElem_map (fun r:Nat×Bool=>k9 r.1 r.2) ..
  rw [hSm]
  refine b8 (a:=(⟨(Dy (d7.o 0) (some (.int (d7.i 0))) (d7.o 1) (some (.int (m:Int))) (d7.o 3) (some (.lst (d7.n 1))) (d7.o 4) (d7.o 5) (some (.str (k9 ((d7.g 0).getD m (0,false)).1 ((d7.g 0).getD m (0,false)).2))) (some (.lst (d7.n 2))) (some (.lst (d7.n 3))) (some ((d7.y 3))) (some ((d7.y 0))) (some (.int (d7.i 1))) (some (.int (d7.i 2))) (some ((d7.y 1))) (d7.o 7) (d7.o 8) (some ((d7.y 2))) (d7.o 9) (d7.o 10) (d7.o 11) (d7.o 12) (d7.o 13) (some (.lst (d7.n 4))) (some (.lst hl)) u_low u_due u_told),L'⟩:St)) rfl ?_
  refine Ai RI.eq_1 ?_
  walk_at "#U6%gD9B!iB!"
  have hlL:hl<L'.length:=(List.getElem?_eq_some_iff.mp q1).1
  refine F6 (f6 q1) (by rw [length_map];exact e8 ‹_› ‹_› rfl) ?_
  walk_at "dk#Y"
  refine C6 ?_
  walk_at "%c"
  refine⟨by lia,by lia,?_⟩
  have ea:hk.map AV.lst++[AV.lst L'.length]=(hk++[L'.length]).map AV.lst:=by simp
  rw [ea]
  generalize hL2:(L'++[[]]).set hl ((hk++[L'.length]).map AV.lst)=L2
  have l2:L2.length=L'.length+1:=by rw [←hL2,length_set,length_append];rfl
  have k2:∀k x,L'[k]? =some x->k≠hl->L2[k]? =some x:=fun k x h hne=>by rw [←hL2];exact A6 (f6 h) (Ne.symm hne)
  have h2:L2[hl]? =some ((hk++[L'.length]).map .lst):=by rw [←hL2];exact r6 (f6 q1)
  have hp2:L2[L'.length]? =some ((Cb (d7.d 0) m 0).map .int):=by rw [←hL2];exact A6 i9 (by exact n4 ‹_›)
  have:=SL (p:=⟨(d7.o 0),some (.int (d7.i 0)),(d7.o 1),none,none,(d7.o 3),some (.lst (d7.n 1)),none,(d7.o 4),(d7.o 5),none,none,some (.lst (d7.n 3)),some ((d7.y 3)),some ((d7.y 0)),some (.int (d7.i 1)),some (.int (d7.i 2)),some ((d7.y 1)),(d7.o 7),(d7.o 8),some ((d7.y 2)),(d7.o 9),(d7.o 10),(d7.o 11),(d7.o 12),(d7.o 13),some (.lst (d7.n 4)),none,none,none,none,none,none,none,none,none,none,none,none,none⟩) (n:=(d7.n 0)) (u_row:=none) C h5 hle hD hs hm5 (hk:=hk++[L'.length]) (hp:=L'.length) (hl:=hl) (sh:=(d7.n 2)) (by rw [getElem?_append_right (by exact XS ‹_›),hkm];simp) (by rw [length_append,hkm];show m+1<=10;exact JA ‹_› rfl) (by exact n5 ‹_›) (by lia)
   (F:=I3 d7.b ((d7.n 0)+25) .nil (Mp I (I3 d7.b ((d7.n 0)+25) KV d7.f) (S6 ((m:Int)+1) (((d8 (d7.g 0)).drop (m+1)).map .str)))) m 0 u_low u_due u_told L2 (by exact Pq) h2 (k2 _ _ q4 (by exact n4 ‹_›)) hp2 fun u_low u_due u_told L3 r1 r2 r3=> ?_
  ·exact this
  ·refine V6 (Ck (Ub hI0 ?_))
   refine⟨m+1,hk++[L'.length],_,_,u_low,u_due,u_told,L3,by lia,rfl,by rw [length_append,hkm];rfl,?_,fun i hi=> ?_,fun hp hhp=> ?_,?_,?_,?_,rfl⟩
   ·rw [r1 hl (by exact n4 ‹_›)];exact h2
   ·by_cases him:i<m
    ·refine a9 (q2 i him) fun hp t1 t2=> ?_
     have hmem:=q3 hp (mem_of_getElem? t1)
     exact⟨hp,f6 t1,by rw [r1 hp (by lia)];exact k2 _ _ t2 (by lia)⟩
    ·obtain rfl:i=m:=by lia
     exact⟨L'.length,by rw [getElem?_append_right (by exact XS ‹_›),hkm];simp,r3⟩
   ·rcases mem_append.mp hhp with h |h
    ·have:=q3 hp h;lia
    ·rw [mem_singleton.mp h];lia
   ·rw [r1 (d7.n 2) (by lia)];exact k2 _ _ q4 (by exact n4 ‹_›)
   ·rw [r1 (d7.n 3) (by lia)];exact k2 _ _ q5 (by exact n4 ‹_›)
   ·rw [r1 (d7.n 4) (by lia)];exact k2 _ _ q6 (by exact n4 ‹_›)
 ·intro σ hh_ex
  refine My hh_ex fun m hk u_place u_row u_low u_due u_told L' hm hi hkm q1 q2 q3 q4 q5 q6 ee17=> ?_
  clear hh_ex
  subst ee17
  have hm5:m=5:=by
   refine Nat.le_antisymm hm (Nat.le_of_not_lt fun h=> ?_)
   rw [drop_eq_getElem_cons (by lia)]at hi;exact Hw hi
  subst hm5
  walk_at "k"
  refine hF u_place u_row u_low u_due u_told L' hl hk q4 q5 q6 q1 hkm fun i h e=> ?_
  have hi5:i<5:=by
   have:=(List.getElem?_eq_some_iff.mp e).1
   rw [JP]at this;lia
  rw [ON (d7.d 0) [] i (by lia)]at e
  refine a9 (q2 i hi5) fun hp t1 t2=> ?_
  (replace e:=Option.some.inj e;subst e)
  refine⟨hp,t1,t2,by rw [length_map,nil_append,length_take];lia,fun x hx=> ?_⟩
  refine a9 (mem_map.mp hx) fun b hb ee2=> ?_
  subst ee2
  have hb9:∀d∈(d7.d 0),d<=9:=fun d hd=>by
   rw [←hD]at hd
   refine a9 (mem_map.mp hd) fun r hr ee2=> ?_
   subst ee2
   exact hle r hr
  have h1:=hb9 b (mem_of_mem_take hb)
  have h2:(d7.d 0).getD i 0<=9:=hb9 _ (by rw [getD_eq_getElem?_getD,getElem?_eq_getElem (by lia)];exact getElem_mem _)
  have:(2:Nat)^32=4294967296:=by decide
  exact VJ ‹_› ‹_› rfl
 ·refine⟨0,[],u_place,u_row,none,none,none,_,by decide,rfl,rfl,?_,fun i hi=>absurd hi (Nat.not_lt_zero _),fun hp hhp=>(by cases hhp),f6 ms,f6 mk,f6 mp,rfl⟩
  rw [←hhl];exact i9
omit C in
theorem Ym{B:Bs}{P:Params}{n:Nat}{F:Fl->St->Prop}{tot width base:Int}{s lower upper cnt:AV}{M:Ls}{u_script u_cells u_place u_times u_mail u_turn u_row u_dots u_often u_first u_left u_second u_rest u_some:Option AV}{rw0 sh kd pw:Nat}{SP:List (Nat×Bool)}{D:List Nat}{kdv pwv:List AV}:Rp B P n F tot width base s lower upper cnt M u_script u_cells u_place u_times u_mail u_turn u_row u_dots u_often u_first u_left u_second u_rest u_some rw0 sh kd pw SP D kdv pwv:=by with_unfolding_all exact Mine.hk (q:=fun u:Uc=>Rp u.b u.p (u.n 0) u.f (u.i 0) (u.i 1) (u.i 2) (u.y 0) (u.y 1) (u.y 2) (u.y 3) (u.l 0) (u.o 0) (u.o 1) (u.o 2) (u.o 3) (u.o 4) (u.o 5) (u.o 6) (u.o 7) (u.o 8) (u.o 9) (u.o 10) (u.o 11) (u.o 12) (u.o 13) (u.n 1) (u.n 2) (u.n 3) (u.n 4) (u.g 0) (u.d 0) (u.a 0) (u.a 1)) Zy (.mk B P F d7.q d7.v [M] [n,rw0,sh,kd,pw] [tot,width,base] [D] [] [SP] [kdv,pwv] [] [] [u_script,u_cells,u_place,u_times,u_mail,u_turn,u_row,u_dots,u_often,u_first,u_left,u_second,u_rest,u_some] [] [] [s,lower,upper,cnt] [] [])
end
noncomputable def GS(e:Nat):List Nat->Int
 | []=>1
 |d::r=>(((e:Int)-(d:Int)).natAbs:Int)*GS e r
noncomputable def A3(e:Nat):List Nat->Int
 | []=>1
 |d::r=>((e:Int)-(d:Int))*A3 e r
noncomputable def LW(e:Nat):List Nat->Nat
 | []=>0
 |d::r=>(if e<d then 1 else 0)+LW e r
noncomputable def X5(g:Nat):Int:=if g%2=0 then 1 else -1
theorem NN(g:Nat):X5 (1+g)= -X5 g:=by
 unfold X5
 by_cases h:g%2=0
 ·(rw [if_pos h,if_neg (by lia)];rfl)
 ·rw [if_neg h,if_pos (by lia)];rfl
theorem Ki(e:Nat):∀ks:List Nat,X5 (LW e ks)*GS e ks=A3 e ks
 | []=>rfl
 |d::r=>by
  have ih:=Ki e r
  show X5 ((if e<d then 1 else 0)+LW e r)*((((e:Int)-(d:Int)).natAbs:Int)*GS e r)=((e:Int)-(d:Int))*A3 e r
  rw [←ih]
  by_cases h:e<d
  ·rw [if_pos h,NN]
   have:(((e:Int)-(d:Int)).natAbs:Int)= -((e:Int)-(d:Int)):=by lia
   rw [this]
   generalize (e:Int)-(d:Int)=y
   generalize X5 (LW e r)=s
   generalize GS e r=a
   grind
  ·rw [if_neg h,Nat.zero_add]
   have:(((e:Int)-(d:Int)).natAbs:Int)=(e:Int)-(d:Int):=by lia
   rw [this]
   generalize (e:Int)-(d:Int)=y
   generalize X5 (LW e r)=s
   generalize GS e r=a
   grind
theorem PJ(e:Nat)(ks:List Nat):HN ks (e:Int)=A3 e ks:=by
 have gen:∀(ks:List Nat)(a:Int),ks.foldl (fun a(d:Nat)=>a*((e:Int)-(d:Int))) a=a*A3 e ks:=by
  intro ks
  induction ks with
  |nil=>intro a;exact(Int.mul_one a).symm
  |cons d r ih=>
   intro a
   rw [foldl_cons,ih]
   show _=a*(((e:Int)-(d:Int))*A3 e r)
   (rw [Int.mul_assoc];rfl)
 unfold HN
 (rw [gen,Int.one_mul];rfl)
theorem EE(e:Nat):∀ks:List Nat,A3 e ks=0↔e∈ks
 | []=>by simp [A3]
 |d::r=>by
  have ih:=EE e r
  show((e:Int)-(d:Int))*A3 e r=0↔_
  have hd:((e:Int)-(d:Int)=0)↔e=d:=by lia
  (rewrite [Int.mul_eq_zero,ih,mem_cons,hd];rfl)
theorem Jr(e:Nat):∀(ks:List Nat)(j:Nat),j<=ks.length->(∀i,i<j->ks.getD i 0<=e)->(∀i,j<=i->i<ks.length->e<ks.getD i 0)->LW e ks=ks.length-j
 | [],j,_,_,_=>by simp [LW]
 |d::r,0,_,_,h=>by
  have h0:=h 0 (Nat.le_refl _) (by exact Nat.succ_pos _)
  have ih:=Jr e r 0 (Nat.zero_le _) (fun i hi=>absurd hi (Nat.not_lt_zero _)) (fun i _ hi=>by have:=h (i+1) (Nat.zero_le _) (by simp;assumption);exact this)
  have hd:e<d:=by exact h0
  show(if e<d then 1 else 0)+LW e r=r.length+1-0
  rw [if_pos hd,ih];exact Pq
 |d::r,j+1,hj,h1,h2=>by
  have h0:=h1 0 (Nat.succ_pos _)
  have ih:=Jr e r j (by exact Nat.le_of_succ_le_succ hj) (fun i hi=>by have:=h1 (i+1) (by lia);exact this) (fun i hi hl=>by have:=h2 (i+1) (by lia) (by simp;assumption);exact this)
  have hd:¬e<d:=by
   have:d<=e:=by exact h0
   exact n6 ‹_›
  show(if e<d then 1 else 0)+LW e r=r.length+1-(j+1)
  rw [if_neg hd,ih];lia
theorem No{g:Nat}{x:Int}(h:x= -(g:Int)):(1:Int)-2*x.fmod 2=X5 g:=by
 subst h
 unfold X5
 rw [Int.fmod_eq_emod_of_nonneg _ (by decide)]
 split<;>lia
theorem QH{e:Nat}{ks:List Nat}(hs:ks.Pairwise (· < ·)){j i:Nat}(hj:j<=ks.length)(hi:i<=ks.length)(h1:∀x,x<j->ks.getD x 0<=e)(h2:∀x,j<=x->x<ks.length->e<ks.getD x 0)(h3:∀x,x<i->ks.getD x 0<e)(h4:∀x,i<=x->x<ks.length->e<=ks.getD x 0):
  (j:Int)-(i:Int)=if A3 e ks=0 then 1 else 0:=by
 have hlt:∀x y,x<y->y<ks.length->ks.getD x 0<ks.getD y 0:=fun x y hxy hy=>by
  rw [getD_eq_getElem?_getD,getD_eq_getElem?_getD,getElem?_eq_getElem (by exact t3 ‹_› ‹_›),getElem?_eq_getElem hy]
  exact List.pairwise_iff_getElem.mp hs x y (by exact t3 ‹_› ‹_›) hy hxy
 have hij:i<=j:=by
  refine Nat.le_of_not_lt fun h=> ?_
  have a1:=h3 j h
  have a2:=h2 j (Nat.le_refl _) (by exact t1 ‹_› ‹_›)
  lia
 have hj1:j<=i+1:=by
  refine Nat.le_of_not_lt fun h=> ?_
  have a1:=h1 (i+1) (by assumption)
  have a2:=h4 i (Nat.le_refl _) (by lia)
  have a3:=hlt i (i+1) (by lia) (by exact t1 ‹_› ‹_›)
  lia
 simp only [EE]
 by_cases hm:e∈ks
 ·rw [if_pos hm]
  obtain⟨x,hx,e1⟩:=getElem_of_mem hm
  have hg:ks.getD x 0=e:=by rw [getD_eq_getElem?_getD,getElem?_eq_getElem hx];exact e1
  have a1:i<=x:=by
   refine Nat.le_of_not_lt fun h=> ?_
   have:=h3 x h;lia
  have a2:x<j:=by
   refine Nat.lt_of_not_le fun h=> ?_
   have:=h2 x h hx;lia
  lia
 ·rw [if_neg hm]
  have:j=i:=by
   refine Nat.le_antisymm (Nat.le_of_not_lt fun h=>hm ?_) hij
   have a1:=h1 i h
   have a2:=h4 i (Nat.le_refl _) (by exact t1 ‹_› ‹_›)
   have a3:ks.getD i 0=e:=by exact cC ‹_› ‹_›
   rw [←a3,getD_eq_getElem?_getD,getElem?_eq_getElem (by exact t1 ‹_› ‹_›)]
   exact getElem_mem _
  exact Zj ‹_›
theorem Yc(x:Int):∃b:Bool,(x.fdiv 12).fmod 2=if b then 1 else 0:=by
 rcases Mq (x.fdiv 12)with h |h
 ·exact⟨false,h⟩
 ·exact⟨true,h⟩
noncomputable def Ab(ks:List Nat):List Int:=[99,99,99]++ks.map (fun(d:Nat)=>(d:Int))++[-1,-1,-1]
theorem At(ks:List Nat):(Ab ks).length=ks.length+6:=by unfold Ab;simp
theorem T2(ks:List Nat){i:Nat}(h:i<ks.length):(Ab ks).getD (3+i) 0=((ks.getD i 0:Nat):Int):=by
 unfold Ab
 rw [append_assoc,getD_eq_getElem?_getD,getElem?_append_right (by simp),getElem?_append_left (by simp;assumption),getElem?_map,getD_eq_getElem?_getD]
 rw [show 3+i-([99,99,99]:List Int).length=i by simp,getElem?_eq_getElem h];rfl
theorem FW{ks:List Nat}(hs:ks.Pairwise (· < ·)):∀i j,3<=i->i<=j->j<ks.length+3->(Ab ks).getD i 0<=(Ab ks).getD j 0:=fun i j h1 h2 h3=>by
 obtain⟨i,rfl⟩:∃k,i=3+k:=⟨i-3,by exact Lp ‹_›⟩
 obtain⟨j,rfl⟩:∃k,j=3+k:=⟨j-3,by exact Zi ‹_›⟩
 rw [T2 _ (by lia),T2 _ (by lia)]
 have:=T5 (hs.imp Nat.le_of_lt) (show i<=j by lia) (by lia)
 exact c4 ‹_›
noncomputable def Gp(p:Pv)(x1 Kd Fd x18 JT Mj PT x32 x33 TA x35:Option AV):List (Option AV):=[p.q0,x1,p.q2,p.q3,none,p.q5,p.q6,none,p.q8,p.q9,p.q10,p.q11,Kd,Fd,p.q14,p.q15,p.q16,p.q17,x18,JT,p.q20,p.q21,p.q22,p.q23,p.q24,p.q25,p.q26,Mj,p.q28,p.q29,p.q30,PT,x32,x33,TA,x35,none,none,none,none]
noncomputable def Ir(x18 JT:Option AV):List (Option AV):=[none,none,none,none,none,none,none,none,none,none,none,none,none,none,none,none,none,none,x18,JT,none,none,none,none,none,none,none,none,none,none,none,none,none,none,none,none,none,none,none,none]
section
variable{B:Bs}{P:Params}(C:CtxQ B P){n:Nat}{F:Fl->St->Prop}
include C
@[reducible] def Xs(B:Bs)(P:Params)(n:Nat)(F:Fl->St->Prop)(p:Pv)(tot:Int)(M:Ls)(u_dots u_often:Option AV)(kd hl:Nat)(K:List (Nat×Nat))(ks:List Nat):Prop:=∀(C:CtxQ B P)(hK:K.map (·.1)=ks)(hs:ks.Pairwise (· < ·))(hk5:ks.length<=5)(mk:M[kd]? =some (U7 K))(hF:∀(M':Ls)(e ln j:Nat)(b:Bool),(tot+4).fmod 12=(e:Int)->e<12->(∀(k:Nat)(x:List AV),M[k]? =some x->M'[k]? =some x)->M'[ln]? =some ((Ab ks).map .int)->j<=ks.length->(∀x,x<j->ks.getD x 0<=e)->(∀x,j<=x->x<ks.length->e<ks.getD x 0)->
   d9 B (n+25) OW ⟨(Gp p (some (.int tot)) (some (.lst kd)) (some (.int (K.length:Int))) u_dots u_often (some (.lst hl)) (some (.int (e:Int))) (some (.str (k9 e b))) (some (.lst ln)) (some (.int ((3+j:Nat):Int))) (some (.int (X5 (LW e ks))))),M'⟩ F),d9 B (n+25) KV ⟨(Gp p (some (.int tot)) (some (.lst kd)) (some (.int (K.length:Int))) u_dots u_often (some (.lst hl)) none none none none none),M⟩ F
noncomputable def S1:Uc:=ec fun u=>Xs u.b u.p (u.n 0) u.f u.v (u.i 0) (u.l 0) (u.o 0) (u.o 1) (u.n 1) (u.n 2) (u.e 0) (u.d 0)
@[irreducible] noncomputable def K80.u_dots:Option AV:=(S1.o 0)
@[irreducible] noncomputable def K80.u_often:Option AV:=(S1.o 1)
@[irreducible] noncomputable def K80.hl:Nat:=(S1.n 2)
omit C in
open K80 in
theorem dG:Xs S1.b S1.p (S1.n 0) S1.f S1.v (S1.i 0) (S1.l 0) u_dots u_often (S1.n 1) hl (S1.e 0) (S1.d 0):=fun C hK hs hk5 mk hF=>by
 have hKl:(S1.e 0).length=(S1.d 0).length:=by(rw [←hK,length_map];rfl)
 refine c0 (x:=MR) (j6 MR.eq_1 ?_)
 walk_at "N!k"
 refine a9 (S3 ((S1.i 0)+4) (show(0:Int)<12 by decide)) fun e he he12=> ?_
 rw [he]
 refine c0 (x:=Pj) (j6 Pj.eq_1 ?_)
 walk_at "Q1!10!"
 refine GT (Dk (by lia)) ?_
 walk_at "3(1!0!b&!a"
 refine f8 (Yc (S1.i 0)) fun b hb=> ?_
 refine b8 (a:= .str ⟨#[if b then 65 else 97]⟩) (by rw [hb];exact So _ b) ?_
 refine Ae ?_ ?_
 ·rw [Z9];unfold sizeLine;simp [Str.length];lia
 walk_at "(!"
 refine Ae ?_ ?_
 ·rw [Str.length_append,Z9];unfold sizeLine;simp [Str.length];rw [show(Str.ofString ".").cps.size=1 by decide];lia
 walk_at "k"
 rw [HW]
 refine c0 (x:=NY) (j6 NY.eq_1 ?_)
 walk_at "Q1!19B!i@!"
 refine z5 ?_
 walk_at "%!"
 refine b8 (f6 mk) ?_
 generalize hM0:(S1.l 0)++[[AV.int 99,AV.int 99,AV.int 99]]=M0
 have k0:∀(k:Nat)(x:List AV),(S1.l 0)[k]? =some x->M0[k]? =some x:=fun k x h=>by rw [←hM0];exact f6 h
 have n0:M0[(S1.l 0).length]? =some [AV.int 99,AV.int 99,AV.int 99]:=by rw [←hM0];exact i9
 refine J8 (fun items σ=>∃(done rest:List (Nat×Nat))(u_dots u_often:Option AV)(M':Ls),items=U7 rest∧(S1.e 0)=done++rest∧(∀(k:Nat)(x:List AV),M0[k]? =some x->M'[k]? =some x)∧M'[M0.length]? =some ((done.map fun k=>(k.1:Int)).map .int)∧σ=⟨(Ir u_dots u_often),M'⟩) ?_ ?_ ?_ _ ?_
 ·rintro l σ ⟨_,_,_,_,M',_,_,h,_,rfl⟩;exact h _ _ (k0 _ _ mk)
 ·intro I hI0 v r σ hh_ex
  refine IQ hh_ex fun done rest u_dots u_often M' hi hKd q1 q2 ee9=> ?_
  clear hh_ex
  subst ee9
  cases rest with
  |nil=>exact HF hi
  |cons k rest=>
  (refine Jd hi fun h1 h2=> ?_;clear hi;subst h1;subst h2)
  refine b8 (a:=(⟨(Ir (some (.int (k.1:Int))) (some (.int (k.2:Int)))),M'⟩:St)) rfl ?_
  walk_at "%"
  refine V8 hI0 q2 ?_
  have hdl:done.length<=5:=by
   have:=congrArg List.length hKd
   rw [length_append]at this;lia
  refine⟨by simp;exact u2 ‹_› rfl,done++[k],rest,_,_,_,rfl,by rw [hKd];simp,fun j x hx=>A6 (q1 j x hx) (by have:=(List.getElem?_eq_some_iff.mp hx).1;exact n5 ‹_›),?_,rfl⟩
  rw [r6 q2]
  simp
 ·intro σ hh_ex
  refine IQ hh_ex fun done rest u_dots' u_often' M' hi hKd q1 q2 ee9=> ?_
  clear hh_ex
  subst ee9
  have hr:rest=[]:=by cases rest with
   |nil=>rfl
   |cons c r=>exact Hw hi
  rw [hr,append_nil]at hKd
  subst hKd
  walk_at ""
  refine Bn (q1 _ _ n0) q2 (by simp;lia) ?_
  walk_at "9!B!i"
  refine Bn (f6 i9) i9 (by simp;exact e8 ‹_› ‹_› rfl) ?_
  walk_at "k"
  have eline:([AV.int 99,AV.int 99,AV.int 99]++((S1.e 0).map fun k=>(k.1:Int)).map AV.int)++[AV.int (-1),AV.int (-1),AV.int (-1)]=(Ab (S1.d 0)).map AV.int:=by
   rw [←hK];unfold Ab;simp
  rw [eline]
  generalize hM3:M'++[[AV.int 99,AV.int 99,AV.int 99]++((S1.e 0).map fun k=>(k.1:Int)).map AV.int]++[[AV.int (-1),AV.int (-1),AV.int (-1)]]=M3
  have k3:∀(k:Nat)(x:List AV),(S1.l 0)[k]? =some x->(M3++[(Ab (S1.d 0)).map AV.int])[k]? =some x:=fun k x h=>by rw [←hM3];exact f6 (f6 (f6 (q1 _ _ (k0 _ _ h))))
  refine c0 (x:=Nb) (j6 Nb.eq_1 ?_)
  walk_at "Q,!"
  show Spec S1.b ((S1.n 0)+25) (.ref 91) [.lst M3.length,.int (e:Int),.int ((3:Nat):Int),.int (((S1.e 0).length:Int)+3)] _ _ _
  rw [show((S1.e 0).length:Int)+3=(((S1.d 0).length+3:Nat):Int) by lia]
  refine(ME (n:=(S1.n 0)) C.toCtx i9 (by rw [At];exact JA ‹_› rfl) (by rw [At];exact J6 rfl) (by lia) (FW hs) fun r r1 r2 r3 r4=> ?_).mono (by exact J6 rfl)
  obtain⟨j,rfl⟩:∃j,r=3+j:=⟨r-3,by exact Lp ‹_›⟩
  walk_at "k"
  refine c0 (x:=Nn) (j6 Nn.eq_1 ?_)
  walk_at "Q1!&0!"
  refine u4 (IntMulOk.of_left (by decide)) ?_
  walk_at "]k"
  have hj1:∀x,x<j->(S1.d 0).getD x 0<=e:=fun x hx=>by
   have:=r3 (3+x) (by exact EW) (by exact WI ‹_›)
   rw [T2 (S1.d 0) (by lia)]at this;exact c9 ‹_›
  have hj2:∀x,j<=x->x<(S1.d 0).length->e<(S1.d 0).getD x 0:=fun x hx hl=>by
   have:=r4 (3+x) (by exact RD ‹_›) (by lia)
   rw [T2 (S1.d 0) (by assumption)]at this;exact c8 ‹_›
  have hg:=Jr e (S1.d 0) j (by lia) hj1 hj2
  rw [No (g:=LW e (S1.d 0)) (x:=((3+j:Nat):Int)-((S1.e 0).length:Int)-3) (by rw [hg];lia)]
  exact hF _ e _ j b he (by exact c8 ‹_›) k3 i9 (by lia) hj1 hj2
 ·exact⟨[],(S1.e 0),none,none,_,rfl,rfl,fun k x h=>f6 h,i9,rfl⟩
omit C in
theorem We{B:Bs}{P:Params}{n:Nat}{F:Fl->St->Prop}{p:Pv}{tot:Int}{M:Ls}{u_dots u_often:Option AV}{kd hl:Nat}{K:List (Nat×Nat)}{ks:List Nat}:Xs B P n F p tot M u_dots u_often kd hl K ks:=by with_unfolding_all exact hk (q:=fun u:Uc=>Xs u.b u.p (u.n 0) u.f u.v (u.i 0) (u.l 0) (u.o 0) (u.o 1) (u.n 1) (u.n 2) (u.e 0) (u.d 0)) dG (.mk B P F S1.q p [M] [n,kd,hl] [tot] [ks] [K] [] [] [] [] [u_dots,u_often] [] [] [] [] [])
end
noncomputable def BL(p:Pv)(Fc Kd Fd x18 JT Mj Om PT x32 x33 TA x35 VJ:Option AV):List (Option AV):=[p.q0,p.q1,p.q2,p.q3,none,p.q5,p.q6,none,p.q8,p.q9,p.q10,Fc,Kd,Fd,p.q14,p.q15,p.q16,p.q17,x18,JT,p.q20,p.q21,p.q22,p.q23,p.q24,p.q25,p.q26,Mj,p.q28,p.q29,Om,PT,x32,x33,TA,x35,VJ,none,none,none]
section
variable{B:Bs}{P:Params}(C:CtxQ B P){n:Nat}{F:Fl->St->Prop}
include C
@[reducible] def WW(B:Bs)(P:Params)(n:Nat)(F:Fl->St->Prop)(p:Pv)(M:Ls)(u_dots u_often u_told:Option AV)(sh kd hl ln e j:Nat)(b:Bool)(K:List (Nat×Nat))(ks:List Nat)(SP:List (Nat×Bool)):Prop:=∀(C:CtxQ B P)(hK:K.map (·.1)=ks)(hs:ks.Pairwise (· < ·))(hk5:ks.length<=5)(mk:M[kd]? =some (U7 K))(ml:M[ln]? =some ((Ab ks).map .int))(he:e<12)(h5:SP.length=5)(hle:∀r∈SP,r.1<=9)(hsD:(SP.map (·.1)).Pairwise (· <= ·))(hmem:∀d∈ks,d∈SP.map (·.1))(ms:M[sh]? =some ((d8 SP).map .str))(hj:j<=ks.length)(hj1:∀x,x<j->ks.getD x 0<=e)(hj2:∀x,j<=x->x<ks.length->e<ks.getD x 0)(hF:∀(u_dots u_often u_told u_known:Option AV),
   d9 B (n+25) MJ ⟨(BL p (some (.lst sh)) (some (.lst kd)) (some (.int (K.length:Int))) u_dots u_often (some (.lst hl)) u_told (some (.int (e:Int))) (some (.str (k9 e b))) (some (.lst ln)) (some (.int ((3+j:Nat):Int))) (some (.int (A3 e ks))) u_known),M⟩ F),d9 B (n+25) OW ⟨(BL p (some (.lst sh)) (some (.lst kd)) (some (.int (K.length:Int))) u_dots u_often (some (.lst hl)) u_told (some (.int (e:Int))) (some (.str (k9 e b))) (some (.lst ln)) (some (.int ((3+j:Nat):Int))) (some (.int (X5 (LW e ks)))) none),M⟩ F
noncomputable def u9:Uc:=ec fun u=>WW u.b u.p (u.n 0) u.f u.v (u.l 0) (u.o 0) (u.o 1) (u.o 2) (u.n 1) (u.n 2) (u.n 3) (u.n 4) (u.n 5) (u.n 6) (u.c 0) (u.e 0) (u.d 0) (u.g 0)
@[irreducible] noncomputable def K68.u_dots:Option AV:=(u9.o 0)
@[irreducible] noncomputable def K68.u_often:Option AV:=(u9.o 1)
@[irreducible] noncomputable def K68.u_told:Option AV:=(u9.o 2)
@[irreducible] noncomputable def K68.hl:Nat:=(u9.n 3)
omit C in
open K68 in
theorem dM:WW u9.b u9.p (u9.n 0) u9.f u9.v (u9.l 0) u_dots u_often u_told (u9.n 1) (u9.n 2) hl (u9.n 4) (u9.n 5) (u9.n 6) (u9.c 0) (u9.e 0) (u9.d 0) (u9.g 0):=fun C hK hs hk5 mk ml he h5 hle hsD hmem ms hj hj1 hj2 hF=>by
 have hKl:(u9.e 0).length=(u9.d 0).length:=by(rw [←hK,length_map];rfl)
 have hSl:(d8 (u9.g 0)).length=5:=by unfold d8;(rw [length_map,h5];rfl)
 refine c0 (x:=Ox) (j6 Ox.eq_1 ?_)
 walk_at "Y"
 refine z5 ?_
 walk_at "%!"
 refine b8 mk ?_
 refine Bo (fun items σ=>∃(rest:List (Nat×Nat))(pr:Int)(u_dots u_often u_told u_known:Option AV),items=U7 rest∧(∀k∈rest,k∈(u9.e 0))∧pr*GS (u9.n 5) (rest.map (·.1))=X5 (LW (u9.n 5) (u9.d 0))*GS (u9.n 5) (u9.d 0)∧σ=⟨(BL u9.v (some (.lst (u9.n 1))) (some (.lst (u9.n 2))) (some (.int ((u9.e 0).length:Int))) u_dots u_often (some (.lst hl)) u_told (some (.int ((u9.n 5):Int))) (some (.str (k9 (u9.n 5) (u9.c 0)))) (some (.lst (u9.n 4))) (some (.int ((3+(u9.n 6):Nat):Int))) (some (.int pr)) u_known),(u9.l 0)⟩) ?_ ?_ ?_ _ ?_
 ·rintro l σ ⟨_,_,_,_,_,_,_,_,_,rfl⟩;exact mk
 ·intro I hI0 v r σ hh_ex
  refine KA hh_ex fun rest pr u_dots u_often u_told u_known hi hm hp ee9=> ?_
  clear hh_ex
  subst ee9
  cases rest with
  |nil=>exact HF hi
  |cons k rest=>
  (refine Jd hi fun h1 h2=> ?_;clear hi;subst h1;subst h2)
  have hkD:k.1∈(u9.g 0).map (·.1):=hmem _ (by rw [←hK];exact mem_map.mpr ⟨k,hm k (.head _),rfl⟩)
  obtain⟨i0,hi0,hi1⟩:=getElem_of_mem hkD
  rw [length_map]at hi0
  have hdi:((u9.g 0).map (·.1)).getD i0 0=k.1:=by rw [getD_eq_getElem?_getD,getElem?_eq_getElem (by rw [length_map];exact hi0)];exact hi1
  have hk9:k.1<=9:=by
   refine a9 (mem_map.mp hkD) fun r hr e1=> ?_
   rw [←e1];exact hle r hr
  have hsm:∀y∈d8 (u9.g 0),y.length<=1000000:=fun y hy=>by
   refine a9 (mem_map.mp hy) fun r hr ee2=> ?_
   subst ee2
   rw [j8]
   have:=hle r hr;exact JA ‹_› rfl
  refine b8 (a:=(⟨(BL u9.v (some (.lst (u9.n 1))) (some (.lst (u9.n 2))) (some (.int ((u9.e 0).length:Int))) (some (.int (k.1:Int))) (some (.int (k.2:Int))) (some (.lst hl)) u_told (some (.int ((u9.n 5):Int))) (some (.str (k9 (u9.n 5) (u9.c 0)))) (some (.lst (u9.n 4))) (some (.int ((3+(u9.n 6):Nat):Int))) (some (.int pr)) u_known),(u9.l 0)⟩:St)) rfl ?_
  refine Ai RW.eq_1 ?_
  walk_at "#Q3%5!B)!"
  refine(LB (n:=(u9.n 0)) C.toCtx ms (by exact e6 ‹_› rfl) hsm (CH hsD) fun r hr h1 h2=> ?_).mono (by exact J6 rfl)
  walk_at ""
  have hri:r<=i0:=by
   refine Nat.le_of_not_lt fun h=> ?_
   have:=h1 i0 h
   rw [T1 hi0,hdi]at this;lia
  have hr5:r<(u9.g 0).length:=by exact t2 ‹_› ‹_›
  have hdr:((u9.g 0).map (·.1)).getD r 0=k.1:=by
   have a1:=h2 r (Nat.le_refl _) (by lia)
   rw [T1 hr5]at a1
   have a2:=T5 hsD hri (by rw [length_map];exact hi0)
   rw [hdi]at a2
   lia
  have hSr:(d8 (u9.g 0))[r]? =some (k9 k.1 ((u9.g 0)[r]).2):=by
   unfold d8
   rw [getElem?_map,getElem?_eq_getElem hr5]
   have:((u9.g 0)[r]).1=k.1:=by
    rw [getD_eq_getElem?_getD,getElem?_map,getElem?_eq_getElem hr5]at hdr;exact hdr
   rw [←this];rfl
  generalize ((u9.g 0)[r]).2=b2 at hSr
  have i1:t8 (u9.l 0) (.lst (u9.n 1)) (.int (r:Int))=some (.str (k9 k.1 b2)):=s0 ms (by rw [getElem?_map,hSr];rfl) (by rw [length_map];exact e6 ‹_› rfl)
  with_reducible refine b8 i1 ?_
  walk_at "k#Q,!"
  have hfar:(S5 (u9.n 5) k.1 (u9.c 0) b2).fdiv 2=((((u9.n 5):Int)-(k.1:Int)).natAbs:Int):=by
   unfold S5
   rw [Int.fdiv_eq_ediv_of_nonneg _ (by decide)]
   split<;>lia
  have hfb:S5 (u9.n 5) k.1 (u9.c 0) b2<=50:=by
   unfold S5
   split<;>lia
  refine(OB (n:=(u9.n 0)) C.toCtx C.pins (by exact u5 ‹_› rfl) (by exact u2 ‹_› rfl) (by lia) ?_).mono (by exact J6 rfl)
  walk_at "k#XI%,!"
  refine(Gb (n:=(u9.n 0)) C.toCtx (by exact u5 ‹_› rfl) (by exact u2 ‹_› rfl) ?_).mono (by exact J6 rfl)
  walk_at "f"
  rw [if_neg (by simp)]
  walk_at "$k#Q1!%0!b"
  rw [hfar]
  refine u4 (IntMulOk.of_right (intBits_le_64 (by lia) (by lia))) ?_
  walk_at "k$j"
  refine⟨rest,_,_,_,_,_,rfl,fun k hk=>hm k (.tail _ hk),?_,rfl⟩
  rw [←hp]
  show pr*_*GS (u9.n 5) (rest.map (·.1))=pr*(((((u9.n 5):Int)-(k.1:Int)).natAbs:Int)*GS (u9.n 5) (rest.map (·.1)))
  (rw [Int.mul_assoc];rfl)
 ·intro σ hh_ex
  refine KA hh_ex fun rest pr u_dots u_often u_told u_known hi hm hp ee9=> ?_
  clear hh_ex
  subst ee9
  have hr:rest=[]:=by cases rest with
   |nil=>rfl
   |cons c r=>exact Hw hi
  subst hr
  have hpr:pr=A3 (u9.n 5) (u9.d 0):=by
   rw [←Ki,←hp]
   show pr=pr*1
   (rw [Int.mul_one];rfl)
  subst hpr
  walk_at "k"
  refine c0 (x:=Ov) (j6 Ov.eq_1 ?_)
  walk_at "XI1%,!"
  show Spec u9.b ((u9.n 0)+25) (.ref 109) [.lst (u9.n 4),.int ((u9.n 5):Int),.int ((3:Nat):Int),.int (((u9.e 0).length:Int)+3)] _ _ _
  rw [show((u9.e 0).length:Int)+3=(((u9.d 0).length+3:Nat):Int) by lia]
  refine(MM (n:=(u9.n 0)) C.toCtx ml (by rw [At];exact JA ‹_› rfl) (by rw [At];exact J6 rfl) (by lia) (FW hs) fun r r1 r2 r3 r4=> ?_).mono (by exact J6 rfl)
  obtain⟨i,rfl⟩:∃i,r=3+i:=⟨r-3,by exact Lp ‹_›⟩
  walk_at "]4!D2%&!fB!"
  refine Hy ?_
  walk_at "f"
  have hend:=QH (e:=(u9.n 5)) hs hj (i:=i) (by lia) hj1 hj2 (fun x hx=>by
   have:=r3 (3+x) (by exact EW) (by exact WI ‹_›)
   rw [T2 (u9.d 0) (by lia)]at this;exact c8 ‹_›) (fun x hx hl=>by
   have:=r4 (3+x) (by exact RD ‹_›) (by lia)
   rw [T2 (u9.d 0) (by assumption)]at this;exact c9 ‹_›)
  have e1:((3+(u9.n 6):Nat):Int)-((3+i:Nat):Int)=if(A3 (u9.n 5) (u9.d 0)==0)=true then 1 else 0:=by
   have:((3+(u9.n 6):Nat):Int)-((3+i:Nat):Int)=((u9.n 6):Int)-(i:Int):=by lia
   rw [this,hend]
   by_cases h0:A3 (u9.n 5) (u9.d 0)=0
   ·(rw [if_pos h0,if_pos (by exact decide_eq_true h0)];rfl)
   ·(rw [if_neg h0,if_neg (by simpa using h0)];rfl)
  rw [e1,if_neg (by simp)]
  walk_at "$k"
  exact hF _ _ _ _
 ·refine⟨(u9.e 0),_,u_dots,u_often,u_told,none,rfl,fun k hk=>hk,by(rw [hK];rfl),rfl⟩
omit C in
theorem UG{B:Bs}{P:Params}{n:Nat}{F:Fl->St->Prop}{p:Pv}{M:Ls}{u_dots u_often u_told:Option AV}{sh kd hl ln e j:Nat}{b:Bool}{K:List (Nat×Nat)}{ks:List Nat}{SP:List (Nat×Bool)}:WW B P n F p M u_dots u_often u_told sh kd hl ln e j b K ks SP:=by with_unfolding_all exact hk (q:=fun u:Uc=>WW u.b u.p (u.n 0) u.f u.v (u.l 0) (u.o 0) (u.o 1) (u.o 2) (u.n 1) (u.n 2) (u.n 3) (u.n 4) (u.n 5) (u.n 6) (u.c 0) (u.e 0) (u.d 0) (u.g 0)) dM (.mk B P F u9.q p [M] [n,sh,kd,hl,ln,e,j] [] [ks] [K] [SP] [] [] [] [u_dots,u_often,u_told] [b] [] [] [] [])
end
theorem KQ:∀(f:Nat)(last:Int)(main es:List (List Int))(pv:List Int)(fs:List (List Int)),J7 f last main es=(pv,fs)->∀p∈pv,p≠0
 |0,last,main,es,pv,fs,he,p,hp=>by
  have:J7 0 last main es=([],es):=by unfold J7;rfl
  rw [this]at he;cases he;cases hp
 |f+1,last,[],es,pv,fs,he,p,hp=>by
  have:J7 (f+1) last [] es=([],es):=by unfold J7;rfl
  rw [this]at he;cases he;cases hp
 |f+1,last,[]::rs,es,pv,fs,he,p,hp=>by
  have:J7 (f+1) last ([]::rs) es=([],es):=by unfold J7;rfl
  rw [this]at he;cases he;cases hp
 |f+1,last,(q::t)::rs,es,pv,fs,he,p,hp=>by
  have e:J7 (f+1) last ((q::t)::rs) es=if q=0 then([],[])else(q::(J7 f q (rs.map (j7 q last t)) (es.map (j7 q last t))).1,(J7 f q (rs.map (j7 q last t)) (es.map (j7 q last t))).2):=by
   conv=>lhs;unfold J7
  rw [e]at he
  by_cases h0:q=0
  ·rw [if_pos h0]at he;cases he;cases hp
  ·rw [if_neg h0]at he
   cases hr:J7 f q (rs.map (j7 q last t)) (es.map (j7 q last t))with
   |mk pv' fs'=>
    rw [hr]at he
    cases he
    rcases mem_cons.mp hp with rfl |hp
    ·exact h0
    ·exact KQ f q _ _ pv' _ hr p hp
theorem Tx{t:Nat}{D:List Nat}(ht:t=1∨t=2∨t=3)(hl:D.length=5)(hs:D.Pairwise (· <= ·))(hV:∀d∈D,d=0∨(t+1<=d∧d<=t+6))(hn1:1<=(f5 D).length):(B8 D).getD ((f5 D).length-1) 0≠0:=by
 have key:∀E:List Nat,Fw D E=true->(B8 D).getD ((f5 D).length-1) 0≠0:=fun E h=>by
  unfold Fw at h
  dsimp only at h
  rw [beq_iff_eq]at h
  have hn:=X0 D
  have:=KQ _ _ _ _ _ _ h
  rw [Ci hs]
  have hlen:(Bu D [([],1)] [0,0,0,0,0]).length=5:=by rw [An];rfl
  have hlt:(f5 D).length-1<(Bu D [([],1)] [0,0,0,0,0]).length:=by lia
  refine this _ ?_
  rw [getD_eq_getElem?_getD,getElem?_map,getElem?_eq_getElem hlt]
  refine mem_map.mpr ⟨_,?_,rfl⟩
  rewrite [List.mem_take_iff_getElem]
  exact⟨(f5 D).length-1,by lia,rfl⟩
 rcases ht with rfl |rfl |rfl
 ·exact key _ (G7 UV hl hs fun d hd=>by have:=hV d hd;simp;lia)
 ·exact key _ (G7 Wu hl hs fun d hd=>by have:=hV d hd;simp;lia)
 ·exact key _ (G7 Wa hl hs fun d hd=>by have:=hV d hd;simp;lia)
theorem Lf:∀(f β:Nat)(last:Int)(rs:List (List Int)),(∀r∈rs,Bd β r)->∀p∈Y0 f last rs,p.natAbs<2^((β+1)*2^f)
 |0,_,_,_,_,p,hp=>by cases hp
 |f+1,β,last,[],_,p,hp=>by cases hp
 |f+1,β,last,[]::rs,_,p,hp=>by cases hp
 |f+1,β,last,(q::t)::rs,hr,p,hp=>by
  have hq:=hr _ (.head _)
  rcases mem_cons.mp (show p∈q::(if q=0 then []else Y0 f q (rs.map (j7 q last t)))from hp)with rfl |hp
  ·refine Nat.lt_of_lt_of_le (hq _ (.head _)) (Nat.pow_le_pow_right (by decide) ?_)
   have:1<=2^(f+1):=Nat.one_le_two_pow
   have:=Nat.mul_le_mul_left (β+1) this
   lia
  ·split at hp
   ·cases hp
   ·have:=Lf f (2*β+1) q (rs.map (j7 q last t)) (fun r' hr'=>by
     refine a9 (mem_map.mp hr') fun r hr2 ee2=> ?_
     subst ee2
     have hrb:=hr r (.tail _ hr2)
     cases r with
     |nil=>intro x hx;cases hx
     |cons x r=>exact DL (hq _ (.head _)) (hrb x (.head _)) r t (fun y hy=>hrb y (.tail _ hy)) (fun y hy=>hq y (.tail _ hy))) p hp
    have e:(2*β+1+1)*2^f=(β+1)*2^(f+1):=by(rw [Nat.pow_succ,←Nat.mul_assoc,show 2*β+1+1=(β+1)*2 by lia,Nat.mul_assoc];rewrite [Nat.mul_comm 2];rw [←Nat.mul_assoc];rfl)
    rw [e]at this;exact this
theorem Ry{D:List Nat}{n:Nat}(hl:D.length=5)(h9:∀d∈D,d<=9)(hn:n<=5):Bd 32 (Cl D n):=fun x hx=>by
 refine a9 (mem_map.mp hx) fun j hj ee2=> ?_
 subst ee2
 rw [mem_range]at hj
 have h1:=Gy j D h9
 rw [←Cc,hl]at h1
 have h2:(9:Int)^j<=9^9:=by
  have e:=Nat.pow_le_pow_right (show 0<9 by decide) (show j<=9 by lia)
  have:((9^j:Nat):Int)<=((9^9:Nat):Int):=by exact c4 ‹_›
  rw [Int.natCast_pow,Int.natCast_pow]at this;exact this
 have h3:(9:Int)^9=387420489:=by decide
 have h4:(2:Nat)^32=4294967296:=by decide
 have h5:Int.ofNat (LV D j)=((LV D j:Nat):Int):=rfl
 rw [h5]at h1 ⊢
 lia
theorem JY{D:List Nat}{n:Nat}(hl:D.length=5)(h9:∀d∈D,d<=9)(hn:n<=5):∀r∈D0 (Cl D n) n,r.length=n+1∧Bd 32 r:=fun r hr=>by
 refine a9 (mem_map.mp hr) fun i hi ee2=> ?_
 subst ee2
 rw [mem_range]at hi
 refine⟨?_,fun x hx=>Ry hl h9 hn x (List.mem_of_mem_drop (mem_of_mem_take hx))⟩
 rw [length_take,length_drop,BV];exact Zl ‹_›
theorem Mo{n e:Nat}(hn:n<=5)(he:e<12):(Dz n e).length=n+1∧Bd 32 (Dz n e):=by
 refine⟨by unfold Dz;(rw [length_map,length_range];rfl),fun x hx=> ?_⟩
 refine a9 (mem_map.mp hx) fun j hj ee2=> ?_
 subst ee2
 rw [mem_range]at hj
 have h1:e^j<=11^5:=Nat.le_trans (Nat.pow_le_pow_left (show e<=11 by exact u5 ‹_› rfl) j) (Nat.pow_le_pow_right (by decide) (by lia))
 have h2:(11:Nat)^5=161051:=by decide
 have h4:(2:Nat)^32=4294967296:=by decide
 show(e^j)<2^32
 exact u3 ‹_› rfl
theorem Io{e:Nat}(he:e<12):∀ks:List Nat,(∀d∈ks,d<=9)->(A3 e ks).natAbs<=11^ks.length
 | [],_=>Nat.le_refl 1
 |d::r,h=>by
  have ih:=Io he r fun d hd=>h d (.tail _ hd)
  have hd:=h d (.head _)
  show(((e:Int)-(d:Int))*A3 e r).natAbs<=11^(r.length+1)
  rw [Int.natAbs_mul,Nat.pow_succ,Nat.mul_comm]
  exact Nat.mul_le_mul ih (by lia)
theorem Kf{e:Nat}(he:e<12){ks:List Nat}(h9:∀d∈ks,d<=9)(hk:ks.length<=5):Builtin.Int.intBits (A3 e ks)<=64:=by
 refine I7 (Nat.lt_of_le_of_lt (Io he ks h9) ?_)
 have h1:11^ks.length<=11^5:=Nat.pow_le_pow_right (by decide) hk
 have h2:(11:Nat)^5=161051:=by decide
 have h3:(2:Nat)^64=18446744073709551616:=by decide
 exact u3 ‹_› rfl
@[reducible] def Qq(tot:Int)(t e:Nat):Prop:=∀(ht:(t:Int)=1+(tot+1).fmod 3)(he:(tot+4).fmod 12=(e:Int)),e%3=t-1∧1<=t∧t<=3∧(t=1∨t=2∨t=3)
noncomputable def Ig:Uc:=ec fun u=>Qq (u.i 0) (u.n 0) (u.n 1)
theorem YM:Qq (Ig.i 0) (Ig.n 0) (Ig.n 1):=fun ht he=>by
 rw [Int.fmod_eq_emod_of_nonneg _ (by decide)]at ht he
 lia
theorem Us{tot:Int}{t e:Nat}:Qq tot t e:=by with_unfolding_all exact Mine.hk (q:=fun u:Uc=>Qq (u.i 0) (u.n 0) (u.n 1)) YM (.mk Ig.b Ig.p Ig.f Ig.q Ig.v [] [t,e] [tot] [] [] [] [] [] [] [] [] [] [] [] [])
theorem Rows.snoc{L:Ls}:∀{ks:List Nat}{rs:List (List Int)}{k:Nat}{r:List Int},Rows L 0 ks rs->L[k]? =some (r.map .int)->Rows L 0 (ks++[k]) (rs++[r])
 | [],[],k,r,_,h=>⟨⟨[],rfl,by exact h⟩,trivial⟩
 |j::ks,q::rs,k,r,⟨h1,h2⟩,h=>⟨h1,h2.snoc h⟩
 | [],_::_,_,_,h,_=>h.elim
 |_::_,[],_,_,h,_=>h.elim
noncomputable def U8(x0 x1 x2 x3 x5 x6 x8 x9 EZ Fc Kd Fd Px NO KW Md x18 JT Lp Qj Su PH Sy Sr TS Mj x28 x29 Om PT x32 x33 TA x35 VJ VG x38:Option AV):List (Option AV):=[x0,x1,x2,x3,none,x5,x6,none,x8,x9,EZ,Fc,Kd,Fd,Px,NO,KW,Md,x18,JT,Lp,Qj,Su,PH,Sy,Sr,TS,Mj,x28,x29,Om,PT,x32,x33,TA,x35,VJ,VG,x38,none]
section
variable{B:Bs}{P:Params}(C:CtxQ B P){n:Nat}{F:Fl->St->Prop}
include C
theorem UY{M:Ls}{u_script u_total u_cells u_place u_times u_mail u_turn u_row u_dots u_often u_first u_left u_second u_rest u_some u_low u_due u_told u_known u_rows u_shelf u_kinds u_sign u_width u_base u_lower u_upper u_fresh u_line u_behind:Option AV}{pw hl e cn:Nat}{pr:Int}{D:List Nat}{hk:List Nat}{PL:List Int}(hDl:D.length=5)(hc1:1<=cn)(hc5:cn<=5)(he:e<12)
  (mp:M[pw]? =some (PL.map .int)) (hPl:PL.length=2*cn) (mh:M[hl]? =some (hk.map .lst)) (hkl:hk.length=5) (hh:∀i h,(hv [] D)[i]? =some h->∃hp,hk[i]? =some hp∧M[hp]? =some (h.map .int)∧h.length=i∧Bd 32 h)
  (hF:∀(M':Ls)(sm tl:Nat)(tk:List Nat),M'[sm]? =some ((B8 D).map .int)->M'[tl]? =some (tk.map .lst)->tk.length=cn+1->tk.Nodup->(∀k∈tk,tl<k)->sm<tl->Rows M' 0 tk (D0 PL cn++[Dz cn e])->
   d9 B (n+25) NX ⟨(U8 u_script u_total u_cells u_place u_times u_rows u_mail u_turn u_row u_shelf u_kinds (some (.int (cn:Int))) u_sign u_width u_base u_lower u_dots u_often u_upper u_first u_left u_second u_rest u_some (some (.lst pw)) (some (.lst hl)) u_low u_due u_told (some (.int (e:Int))) u_fresh u_line u_behind (some (.int pr)) u_known (some (.lst sm)) (some (.lst tl))),M'⟩ F):
  d9 B (n+25) MJ ⟨(U8 u_script u_total u_cells u_place u_times u_rows u_mail u_turn u_row u_shelf u_kinds (some (.int (cn:Int))) u_sign u_width u_base u_lower u_dots u_often u_upper u_first u_left u_second u_rest u_some (some (.lst pw)) (some (.lst hl)) u_low u_due u_told (some (.int (e:Int))) u_fresh u_line u_behind (some (.int pr)) u_known none none),M⟩ F:=by
 have hvl:(hv [] D).length=5:=by(rw [JP,hDl];rfl)
 refine c0 (x:=NW) (j6 NW.eq_1 ?_)
 walk_at "Q,!"
 refine(Tp (n:=n) C.toCtx mh (by lia) (by exact e6 ‹_› rfl) hh ?_).mono (by exact J6 rfl)
 rw [hvl]
 walk_at "k"
 have es:Ef (hv [] D) 0 [([],1)] (List.replicate 5 0)=B8 D:=rfl
 rw [es]
 generalize hM1:M++[(B8 D).map AV.int]=M1
 have k1:∀(k:Nat)(x:List AV),M[k]? =some x->M1[k]? =some x:=fun k x h=>by rw [←hM1];exact f6 h
 have n1:M1[M.length]? =some ((B8 D).map .int):=by rw [←hM1];exact i9
 have l1:M1.length=M.length+1:=by rw [←hM1,length_append];rfl
 refine c0 (x:=Oi) (j6 Oi.eq_1 ?_)
 walk_at "P"
 refine C6 ?_
 walk_at "%c!"
 refine⟨by lia,by lia,?_⟩
 refine J8 (fun items σ=>∃(j:Nat)(tk:List Nat)(u_place:Option AV)(M':Ls),j<=cn∧items=o2 (j:Int) (cn:Int)∧(∀(k:Nat)(x:List AV),M1[k]? =some x->M'[k]? =some x)∧M'[M1.length]? =some (tk.map .lst)∧tk.length=j∧tk.Nodup∧(∀k∈tk,M1.length<k∧k<M'.length)∧Rows M' 0 tk ((D0 PL cn).take j)∧σ=⟨(U8 none none none u_place none none none none none none none (some (.int (cn:Int))) none none none none none none none none none none none none (some (.lst pw)) none none none none none none none none none none none none),M'⟩) ?_ ?_ ?_ _ ?_
 ·intro _ _ _;trivial
 ·intro I hI0 v r σ hh_ex
  refine RP hh_ex fun j tk u_place M' hj hi q1 q2 q3 q4 q5 q6 ee12=> ?_
  clear hh_ex
  subst ee12
  have hjc:j<cn:=by
   refine Nat.lt_of_le_of_ne hj fun e=> ?_
   rw [e,y8 (Int.le_refl _)]at hi;exact HF hi
  rw [s7 (by exact c3 ‹_›)]at hi
  (refine Jd hi fun h1 h2=> ?_;clear hi;subst h1;subst h2)
  refine b8 (a:=(⟨(U8 none none none (some (.int (j:Int))) none none none none none none none (some (.int (cn:Int))) none none none none none none none none none none none none (some (.lst pw)) none none none none none none none none none none none none),M'⟩:St)) rfl ?_
  walk_at "7%%/*"
  have ml:=(List.getElem?_eq_some_iff.mp q2).1
  refine D2 (lo:=some ((j:Nat):Int)) (hi:=some ((j+cn+1:Nat):Int)) (st:=none) (q1 _ _ (k1 _ _ mp)) rfl (by rw [show((j+cn+1:Nat):Int)=(j:Int)+(cn:Int)+1 by lia];rfl) rfl (by simp) (by rw [length_map];lia) ?_
  rw [LJ _ _ _ (by lia) (by rw [length_map];lia),←map_drop,←map_take,show j+cn+1-j=cn+1 by lia]
  refine V8 hI0 (f6 q2) ?_
  have hrow:(D0 PL cn).take (j+1)=(D0 PL cn).take j++[(PL.drop j).take (cn+1)]:=by
   have hg:(D0 PL cn)[j]? =some ((PL.drop j).take (cn+1)):=by
    unfold D0
    rw [getElem?_map,getElem?_range hjc];rfl
   rw [take_succ,hg];rfl
  refine⟨by rw [length_map];lia,j+1,tk++[M'.length],_,_,hjc,rfl,fun k x h=> ?_,?_,by rw [length_append,q3];rfl,?_,fun k hk=> ?_,?_,rfl⟩
  ·have:=(List.getElem?_eq_some_iff.mp h).1
   exact A6 (f6 (q1 k x h)) (by exact n5 ‹_›)
  ·rw [r6 (f6 q2)];simp
  ·rewrite [nodup_append]
   refine⟨q4,by simp,fun a ha b hb=> ?_⟩
   rw [mem_singleton.mp hb]
   have:=(q5 a ha).2;exact n4 ‹_›
  ·rw [length_set,length_append]
   rcases mem_append.mp hk with h |h
   ·have:=q5 k h;exact⟨this.1,by show k<M'.length+1;lia⟩
   ·rw [mem_singleton.mp h];exact⟨ml,by show M'.length<M'.length+1;lia⟩
  ·rw [hrow]
   refine Rows.snoc (q6.same fun k hk=> ?_) (A6 i9 (by exact n4 ‹_›))
   have:=q5 k hk
   (rw [getElem?_set_ne (by lia),getElem?_append_left this.2];rfl)
 ·intro σ hh_ex
  refine RP hh_ex fun j tk u_place' M' hj hi q1 q2 q3 q4 q5 q6 ee12=> ?_
  clear hh_ex
  subst ee12
  have hjc:cn=j:=by
   refine Nat.le_antisymm (Nat.le_of_not_lt fun h=> ?_) hj
   rw [s7 (by exact c3 ‹_›)]at hi;exact Hw hi
  subst hjc
  have hall:(D0 PL cn).take cn=D0 PL cn:=take_of_length_le (by unfold D0;rw [length_map,length_range];exact Nat.le_refl _)
  rw [hall]at q6
  walk_at "k!"
  refine c0 (x:=Nh) (j6 Nh.eq_1 ?_)
  walk_at "U6%gD@"
  refine C6 ?_
  walk_at "/c!"
  refine⟨by lia,by lia,?_⟩
  refine J8 (fun items σ=>∃(i:Nat)(u_place:Option AV)(M2:Ls),i<=cn+1∧items=o2 (i:Int) ((cn:Int)+1)∧(∀(k:Nat)(x:List AV),M'[k]? =some x->M2[k]? =some x)∧M2[M'.length]? =some (((List.range i).map fun x=>Int.ofNat (Nat.pow e x)).map .int)∧M2.length=M'.length+1∧σ=⟨(U8 none none none u_place none none none none none none none none none none none none none none none none none none none none none none none none none (some (.int (e:Int))) none none none none none none none),M2⟩) ?_ ?_ ?_ _ ?_
  ·intro _ _ _;trivial
  ·intro I hI0 v r σ hh_ex
   refine KS hh_ex fun i u_place2 M2 hi2 hi3 p1 p2 p3 ee8=> ?_
   clear hh_ex
   subst ee8
   have hij:i<cn+1:=by
    refine Nat.lt_of_le_of_ne hi2 fun e=> ?_
    rw [e,y8 (by lia)]at hi3;exact HF hi3
   rw [s7 (by lia)]at hi3
   (refine Jd hi3 fun h1 h2=> ?_;clear hi3;subst h1;subst h2)
   refine b8 (a:=(⟨(U8 none none none (some (.int (i:Int))) none none none none none none none none none none none none none none none none none none none none none none none none none (some (.int (e:Int))) none none none none none none none),M2⟩:St)) rfl ?_
   walk_at "0!"
   have hbe:Builtin.Int.intBits (e:Int)<=4:=I7 (by show e<16;lia)
   have hbm:(Builtin.Int.intBits (e:Int):Int)*(i:Int)<=2^27:=by
    have:=Nat.mul_le_mul hbe (show i<=10 by lia)
    have h3:((Builtin.Int.intBits (e:Int)*i:Nat):Int)=(Builtin.Int.intBits (e:Int):Int)*(i:Int):=Int.natCast_mul ..
    lia
   refine Fx (by exact c1) hbm ?_
   rw [Int.toNat_natCast]
   refine V8 hI0 p2 ?_
   refine⟨by simp;lia,i+1,_,_,hij,rfl,fun k x h=>A6 (p1 k x h) (by have:=(List.getElem?_eq_some_iff.mp h).1;exact n5 ‹_›),?_,by rw [length_set];exact p3,rfl⟩
   rw [r6 p2,range_succ,map_append,map_append]
   have:(e:Int)^i=Int.ofNat (Nat.pow e i):=(Int.natCast_pow e i).symm
   rw [this];rfl
  ·intro σ hh_ex
   refine KS hh_ex fun i u_place2 M2 hi2 hi3 p1 p2 p3 ee8=> ?_
   clear hh_ex
   subst ee8
   have hij:i=cn+1:=by
    refine Nat.le_antisymm hi2 (Nat.le_of_not_lt fun h=> ?_)
    rw [s7 (by lia)]at hi3;exact Hw hi3
   subst hij
   have ml:=(List.getElem?_eq_some_iff.mp q2).1
   walk_at "B!"
   refine F6 (p1 _ _ q2) (by rw [length_map];lia) ?_
   walk_at "dk"
   have ea:tk.map AV.lst++[AV.lst M'.length]=(tk++[M'.length]).map AV.lst:=by simp
   rw [ea]
   refine hF _ M.length M1.length (tk++[M'.length]) (A6 (p1 _ _ (q1 _ _ n1)) (by lia)) (r6 (p1 _ _ q2)) (by rw [length_append,q3];rfl) ?_ (fun k hk=> ?_) (by lia) ?_
   ·rewrite [nodup_append]
    refine⟨q4,by simp,fun a ha b hb=> ?_⟩
    rw [mem_singleton.mp hb]
    have:=(q5 a ha).2;exact n4 ‹_›
   ·rcases mem_append.mp hk with h |h
    ·exact(q5 k h).1
    ·rw [mem_singleton.mp h];exact ml
   ·refine Rows.snoc (q6.same fun k hk=> ?_) (A6 p2 (by exact n4 ‹_›))
    have h5:=q5 k hk
    rw [getElem?_set_ne (by lia)]
    (rw [p1 k _ (getElem?_eq_getElem h5.2),getElem?_eq_getElem h5.2];rfl)
  ·refine⟨0,none,_,Nat.zero_le _,rfl,fun k x h=>f6 h,i9,by rw [length_append];rfl,rfl⟩
 ·refine⟨0,[],none,_,Nat.zero_le _,rfl,fun k x h=>f6 h,i9,rfl,.nil,fun k hk=>(by cases hk),trivial,rfl⟩
end
theorem OC{ls:Ls}{i j:Nat}{xs:List Int}(hi:ls[i]? =some (xs.map AV.int))(hj:ls[j]? =some (xs.map AV.int)):Bm ls .ne (.lst i) (.lst j)=some false:=by
 show((ls[i]?).bind fun xs=>(ls[j]?).bind fun ys=>GR xs ys)=_
 simp only [hi,hj,Option.bind_some,GR,Jk]
 simp
noncomputable def Rq(p:Pv)(Fd PT x35 VG x38:Option AV):List (Option AV):=[p.q0,p.q1,p.q2,p.q3,none,p.q5,p.q6,none,p.q8,p.q9,p.q10,p.q11,p.q12,Fd,p.q14,p.q15,p.q16,p.q17,p.q18,p.q19,p.q20,p.q21,p.q22,p.q23,p.q24,p.q25,p.q26,p.q27,p.q28,p.q29,p.q30,PT,p.q32,p.q33,p.q34,x35,p.q36,VG,x38,none]
section
variable{B:Bs}{P:Params}(C:CtxQ B P){n:Nat}{F:Fl->St->Prop}
include C
@[reducible] def Xi(B:Bs)(P:Params)(n:Nat)(F:Fl->St->Prop)(p:Pv)(M:Ls)(e cn t sm tl:Nat)(D tk:List Nat):Prop:=∀(C:CtxQ B P)(HD:MP t D)(hcn:cn=(f5 D).length)(he:e<12)(het:e%3=t-1)(m1:M[sm]? =some ((B8 D).map .int))(m2:M[tl]? =some (tk.map .lst))(h1:tk.length=cn+1)(h2:tk.Nodup)(h3:∀k∈tk,tl<k)(h4:sm<tl)(h5:Rows M 0 tk (D0 (Cl D cn) cn++[Dz cn e]))(hF:∀(vs:List (Option AV))(M':Ls)(pv:Nat)(ini:List Int)(S:Int),vs[39]? =some (some (.lst pv))->vs[35]? =some (some (.int (A3 e (f5 D))))->M'[pv]? =some ((ini++[S*A3 e (f5 D)]).map .int)->ini.length<=5->S≠0->(S*A3 e (f5 D)).natAbs<2^7000->F .next ⟨vs,M'⟩),d9 B (n+25) NX ⟨(Rq p (some (.int (cn:Int))) (some (.int (e:Int))) (some (.int (A3 e (f5 D)))) (some (.lst sm)) (some (.lst tl))),M⟩ F
noncomputable def F2:Uc:=ec fun u=>Xi u.b u.p (u.n 0) u.f u.v (u.l 0) (u.n 1) (u.n 2) (u.n 3) (u.n 4) (u.n 5) (u.d 0) (u.d 1)
omit C in
theorem cH:Xi F2.b F2.p (F2.n 0) F2.f F2.v (F2.l 0) (F2.n 1) (F2.n 2) (F2.n 3) (F2.n 4) (F2.n 5) (F2.d 0) (F2.d 1):=fun C HD hcn he het m1 m2 h1 h2 h3 h4 h5 hF=>by
 have hn1:=HD.n1
 have hn5:=HD.n5
 have hlaw:=Rn HD.t3 HD.len HD.srt HD.val he het
 have hne:=Tx HD.t3 HD.len HD.srt HD.val hn1
 rw [←hcn]at hlaw hne hn1 hn5
 rw [PJ]at hlaw
 have hsl:(B8 (F2.d 0)).length=5:=by rw [Ci HD.srt,length_map,An];rfl
 have hrows:∀r∈D0 (Cl (F2.d 0) (F2.n 2)) (F2.n 2)++[Dz (F2.n 2) (F2.n 1)],r.length=(F2.d 1).length∧Bd 32 r:=fun r hr=>by
  rw [h1]
  rcases mem_append.mp hr with h |h
  ·exact JY HD.len HD.le9 hn5 r h
  ·rw [mem_singleton.mp h];exact Mo hn5 he
 have hpow:2^(F2.d 1).length<=2^6:=Nat.pow_le_pow_right (by decide) (by lia)
 have hbd:=Lf ((F2.n 2)+1) 32 1 (D0 (Cl (F2.d 0) (F2.n 2)) (F2.n 2)++[Dz (F2.n 2) (F2.n 1)]) (fun r hr=>(hrows r hr).2) ((B8 (F2.d 0)).getD ((F2.n 2)-1) 0*A3 (F2.n 1) (f5 (F2.d 0))) (by rw [hlaw];simp)
 have hbd2:((B8 (F2.d 0)).getD ((F2.n 2)-1) 0*A3 (F2.n 1) (f5 (F2.d 0))).natAbs<2^7000:=Nat.lt_of_lt_of_le hbd (Nat.pow_le_pow_right (by decide) (by rw [←h1];lia))
 refine c0 (x:=Pi) (j6 Pi.eq_1 ?_)
 walk_at "Q,!"
 refine(NK (n:=(F2.n 0)) (β:=32) C.toCtx m2 (fun h=>absurd (h3 (F2.n 5) h) (Nat.lt_irrefl _)) h2 (by lia) (by decide) (by lia) h5 hrows fun L' hL1 hL2=> ?_).mono (by exact J6 rfl)
 rw [h1,hlaw]
 walk_at "k"
 generalize hini:(B8 (F2.d 0)).take (F2.n 2)=ini at*
 have hil:ini.length=(F2.n 2):=by rw [←hini,length_take];lia
 generalize hS:(B8 (F2.d 0)).getD ((F2.n 2)-1) 0=S at*
 generalize hPL:(ini++[S*A3 (F2.n 1) (f5 (F2.d 0))]).map AV.int=PV
 have hsm:(L'++[PV])[(F2.n 4)]? =some ((B8 (F2.d 0)).map .int):=f6 (by rw [hL2 (F2.n 4) fun h=>by have:=h3 (F2.n 4) h;lia];exact m1)
 have hpv:(L'++[PV])[(F2.l 0).length]? =some PV:=by rw [←hL1];exact i9
 refine c0 (x:=MY) (j6 MY.eq_1 ?_)
 walk_at "XI%1!7%*%*"
 refine D2 (lo:=none) (hi:=some (((F2.n 2):Nat):Int)) (st:=none) hsm rfl rfl rfl (by simp) (by rw [length_map];exact e6 ‹_› rfl) ?_
 rw [Bg,←map_take,hini]
 walk_at "9!D1.!"
 have i1:∀N:Ls,t8 (L'++[PV]++N) (.lst (F2.n 4)) (.int (((F2.n 2):Int)-1))=some (.int S):=fun N=>by
  rw [show((F2.n 2):Int)-1=(((F2.n 2)-1:Nat):Int) by exact Sr ‹_›]
  refine s0 (f6 hsm) ?_ (by rw [length_map];exact e6 ‹_› rfl)
  rw [getElem?_map,←hS,getD_some (by exact JT ‹_› ‹_› ‹_›)];rfl
 with_reducible refine b8 (i1 _) ?_
 walk_at "%!"
 refine u4 (IntMulOk.of_right (Kf he (fun d hd=>HD.le9 d ((N9 (F2.d 0) d).mpr hd)) (by exact dJ ‹_› ‹_›))) ?_
 walk_at "B!i"
 refine Bn (f6 i9) i9 (by simp;exact e8 ‹_› ‹_› rfl) ?_
 walk_at ""
 have ea:ini.map AV.int++[AV.int (S*A3 (F2.n 1) (f5 (F2.d 0)))]=(ini++[S*A3 (F2.n 1) (f5 (F2.d 0))]).map AV.int:=by simp
 rw [ea,hPL]
 refine b8 (OC (xs:=ini++[S*A3 (F2.n 1) (f5 (F2.d 0))]) ?_ ?_) ?_
 ·rw [hPL];exact f6 (f6 (f6 hpv))
 ·rw [hPL];exact i9
 rw [if_neg (by decide)]
 walk_at "$k"
 unfold RV
 refine Ck ?_
 refine hF _ _ (F2.l 0).length ini S rfl rfl ?_ (by exact e8 ‹_› ‹_› rfl) hne hbd2
 rw [hPL]
 exact f6 (f6 (f6 hpv))
omit C in
theorem WJ{B:Bs}{P:Params}{n:Nat}{F:Fl->St->Prop}{p:Pv}{M:Ls}{e cn t sm tl:Nat}{D tk:List Nat}:Xi B P n F p M e cn t sm tl D tk:=by with_unfolding_all exact hk (q:=fun u:Uc=>Xi u.b u.p (u.n 0) u.f u.v (u.l 0) (u.n 1) (u.n 2) (u.n 3) (u.n 4) (u.n 5) (u.d 0) (u.d 1)) cH (.mk B P F F2.q p [M] [n,e,cn,t,sm,tl] [] [D,tk] [] [] [] [] [] [] [] [] [] [] [])
end
noncomputable def JC(x0:Option AV):List (Option AV):=[x0,none,none,none,none,none,none,none,none,none,none,none,none,none,none,none,none,none,none,none,none,none,none,none,none,none,none,none,none,none,none,none,none,none,none,none,none,none,none,none]
section
variable{B:Bs}{P:Params}(C:CtxQ B P){n:Nat}{F:Fl->St->Prop}
include C
theorem MT{a:Addr}{xs:List Int}(hI:Bj B.eB a xs)(hx:xs.length<=1000000)
  (hF:∀(vs:List (Option AV))(M':Ls)(pv:Nat)(ini:List Int)(S pr:Int),vs[39]? =some (some (.lst pv))->vs[35]? =some (some (.int pr))->M'[pv]? =some ((ini++[S*pr]).map .int)->ini.length<=5->S≠0->(S*pr).natAbs<2^7000->F .next ⟨vs,M'⟩):
  d9 B (n+25) FA ⟨(JC (some (.raw (.ref a)))),[]⟩ F:=by
 rw [TI]
 refine YC (n:=n+24) C hI hx fun tot cells t M h5 hc ht m0 m6 m7=> ?_
 have ht13:1<=t∧t<=3:=by
  refine a9 (S3 (tot+1) (show(0:Int)<3 by decide)) fun c e1 e2=> ?_
  lia
 dsimp only [Bq]
 refine Zg (p:=⟨_,_,none,none,none,none,none,none,none,none,none,none,none,none,none,none,none,none,none,none,none,none,none,none,none,none,none,none,none,none,none,none,none,none,none,none,none,none,none,none⟩) (n:=n+24) C h5 hc ht13.1 ht13.2 m0 m6 m7 fun u_turn M1 x hxl q6=> ?_
 have hxlen:x.length<=100:=by
  have:=By cells t ht13.2 h5
  rw [Au cells (by lia),←hxl]at this
  rw [Str.length_list];exact this
 dsimp only [EI]
 refine Yz (p:=⟨_,none,none,none,none,none,none,none,none,_,none,none,none,none,none,none,none,none,none,none,none,none,none,none,none,none,none,none,none,none,none,none,none,none,none,none,none,none,none,none⟩) (n:=n+22) C h5 ht13.2 hxl hxlen q6 fun u_row M2 sh SP hperm hsrt r1 r2=> ?_
 have hp5:(Kw t cells).length=5:=by unfold Kw;(rw [length_map,h5];rfl)
 have hSP5:SP.length=5:=by(rw [hperm.length_eq,hp5];rfl)
 have hp9:∀r∈Kw t cells,r.1<=9:=Ke ht13.2
 have hS9:∀r∈SP,r.1<=9:=fun r hr=>hp9 r (hperm.mem_iff.mp hr)
 dsimp only [JZ]
 refine ZQ (p:=⟨_,_,none,none,none,_,none,none,_,_,none,none,none,none,none,none,none,none,none,none,none,none,none,none,none,none,none,none,none,none,none,none,none,none,none,none,none,none,none,none⟩) (n:=n+22) C hSP5 hS9 hsrt r1 r2 fun u_place u_row M3 kd s1 s2 s3=> ?_
 generalize hD:SP.map (·.1)=D at*
 have hDmem:∀d,d∈D↔d∈(Kw t cells).map (·.1):=fun d=>by
  rw [←hD];exact(hperm.map _).mem_iff
 have HD:MP t D:={
  len:=by(rw [←hD,length_map,hSP5];rfl)
  srt:=hsrt
  t3:=by lia
  val:=fun d hd=>by
   rw [hDmem]at hd
   refine a9 (mem_map.mp hd) fun r hr ee2=> ?_
   subst ee2
   refine a9 (mem_map.mp hr) fun c _ ee2=> ?_
   subst ee2
   show E4 c t=0∨(t+1<=E4 c t∧E4 c t<=t+6)
   unfold E4
   split<;>lia}
 dsimp only [Dw]
 refine YX (p:=⟨_,none,_,_,none,_,none,none,_,_,_,none,none,none,none,none,none,none,none,none,none,none,none,none,none,none,none,none,none,none,none,none,none,none,none,none,none,none,none,none⟩) (n:=n+22) C (fun w w1 w2=>HD.kok w1 w2) (fun k hk=>by have:=JG D none k hk;rw [HD.len]at this;exact this) s1 s2 s3 fun u_dots u_often M4 s w hs w1 w2 t1 t2 t3=> ?_
 dsimp only [DS]
 refine VH (p:=⟨_,_,_,_,none,_,none,none,_,_,_,_,_,none,none,none,none,none,_,_,none,none,none,none,none,none,none,none,none,none,none,none,none,none,none,none,none,none,none,none⟩) (n:=n) C (HD.kok w1 w2) hs fun u_left u_second u_rest _ _=> ?_
 rw [BZ]at t2
 dsimp only [Hs]
 refine VK (p:=⟨_,_,_,_,none,_,none,none,_,_,none,none,none,none,_,none,none,none,_,_,none,none,_,none,_,none,none,none,none,none,none,none,none,none,none,none,none,none,none,none⟩) (n:=n) C HD w1 w2 hp5 hp9 hDmem t1 t2 t3 fun u_first u_second u_some M5 pw v1 v2 v3=> ?_
 dsimp only [Hf]
 refine Ym (n:=n) C hSP5 hS9 hD hsrt v1 v2 v3 fun u_place u_row u_low u_due u_told M6 hl hk w1' w2' w3 w4 w5 w6=> ?_
 dsimp only [Dy]
 refine We (p:=⟨_,none,_,_,none,_,_,none,_,_,_,_,none,none,_,_,_,_,none,none,_,_,_,_,_,_,_,none,_,_,_,none,none,none,none,none,none,none,none,none⟩) (n:=n) C (BR D) (P9 D hsrt) HD.n5 w2' fun M7 e ln j b he he12 hkeep hline hj hj1 hj2=> ?_
 dsimp only [Gp]
 refine UG (p:=⟨_,_,_,_,none,_,_,none,_,_,_,none,none,none,_,_,_,_,none,none,_,_,_,_,_,_,_,none,_,_,none,none,none,none,none,none,none,none,none,none⟩) (n:=n) C (BR D) (P9 D hsrt) HD.n5 (hkeep _ _ w2') hline he12 hSP5 hS9 (by rw [hD];exact hsrt) (fun d hd=>by rw [hD];exact(N9 D d).mpr hd) (hkeep _ _ w1') hj hj1 hj2 fun u_dots u_often u_told u_known=> ?_
 have hkl:=HD.kl
 have hn1:=HD.n1
 have hn5:=HD.n5
 refine b7 (Us ht he) fun het _=> ?_
 dsimp only [BL]
 refine UY (n:=n) (D:=D) (cn:=(km none D).length) C HD.len (by exact e4 ‹_› ‹_›) (by exact e8 ‹_› ‹_› rfl) he12 (hkeep _ _ w3) (BV D _) (hkeep _ _ w4) w5 (fun i h hi=>by
  refine FD (w6 i h hi) fun hp g1 g2 g3 g4=> ?_
  exact⟨hp,g1,hkeep _ _ g2,g3,g4⟩) fun M8 sm tl tk x1 x2 x3 x4 x5 x6 x7=> ?_
 dsimp only [U8]
 refine WJ (p:=⟨_,_,_,_,none,_,_,none,_,_,_,_,_,none,_,_,_,_,_,_,_,_,_,_,_,_,_,_,_,_,_,none,_,_,_,none,_,none,none,none⟩) (n:=n) C HD hkl he12 het x1 x2 x3 x4 x5 x6 x7 fun vs M' pv ini S y1 y2 y3 y4 y5 y6=> ?_
 exact hF vs M' pv ini S _ y1 y2 y3 y4 y5 y6
end
section
open PySem.W
noncomputable def GZ:List (Str×Value):=[(Str.ofString "ZeroDivisionError",.type "ZeroDivisionError")]
theorem VI(P:Params):Bx (KK P) GZ=true:=by kernel_rfl
structure JO(B:Bs)(P:Params):Prop extends CtxQ B P where
 GZ:i7 B GZ
theorem R.slots{B:Bs}{W:Wd}{C:FC}{σ:St}{s s':Shared}(h:R B W C σ s)(hk:∀b o,b≠C.env.locals->s.heap.get? b=some o->s'.heap.get? b=some o)(hu:s.heap.UpToSlots s'.heap)(hg:s'.gens=s.gens)(ho:s'.os=s.os):R B W C σ s':=by
 have hS:N6 B W [C.env.locals] s:=⟨fun a ha=>h.fr.own (B:=B) |>.off a (by rw [mem_singleton.mp ha];exact .head _),fun a ha=>h.fr.own (B:=B) |>.obj a (by rw [mem_singleton.mp ha];exact .head _)⟩
 refine⟨h.rl.ext hS ⟨fun b o hb e=>hk b o (fun q=>hb (by rw [q];exact .head _)) e,hg,ho⟩,?_⟩
 have F:=h.fr
 have offL:=F.off C.env.locals (.head _)
 have kk:∀a o,W.K a=some o->s'.heap.get? a=some o:=fun a o e=>hk a o (fun q=>by rw [q,offL.1]at e;exact on e) (h.rl.keep a o e)
 have ownK:∀c∈C0 C,∀o,s.heap.get? c=some o->s'.heap.get? c=some o:=fun c hc o e=>hk c o (fun q=>F.nd (q▸hc)) e
 refine⟨F.kind,F.glob,F.blt,F.off,F.nd,F.gnd,F.inj,fun x c hm hmine hx=> ?_,F.frozen,F.hasCell,?_⟩
 ·refine o1 (F.isCell x c hm hmine hx) fun v o ho hd=> ?_
  exact⟨v,o,ownK c (o8 hmine hm hx) o ho,hd⟩
 ·refine a9 (F.ns) fun m hm hv=> ?_
  refine⟨m,hu.ns hm,fun i x av e1 e2=> ?_⟩
  refine a9 (hv i x av e1 e2) fun v g b=> ?_
  refine⟨v,g,b.imp (fun q=>q) fun⟨kd,c,e,o,ho,hd⟩=>⟨kd,c,e,o,?_,hd⟩⟩
  by_cases hx:C.mine=true∧C.env.kindOf x=some .cell
  ·exact ownK c (o8 hx.1 (j3 e) hx.2) o ho
  ·refine o1 (F.frozen x c (j3 e) hx) fun gU eH h1 h2=> ?_
   have:=h.rl.keep _ _ h1
   rw [ho]at this;(replace this:=Option.some.inj this;subst this)
   exact kk _ _ h1
section
variable{M:Model}{A:Around}{E:Value->Shared->Prop}{s:Shared}
theorem Mh{base h:Heap}{env:Env}{outer:List Env}{L e:Addr}{cls:String}{Q:Unit->Shared->Prop}
  (hfr:A.frames=some (env::outer)) (hf:env.frame=some L) (hkb:base.StaysIn h) (hl:h.FunFrames base (env::outer)) (hx:Heap.NewExc h s.heap e cls)
  (hQ:∀h' a0,Heap.FlyingW base outer e (.type cls) a0 h'->s.heap.UpToSlots h'->Q () {s with heap:=h'}):wpAny M A (leaving env (.ref e)) Q E s:=by
 refine o4 (hx.there) fun ob tp he hcls hd=> ?_
 have hen:base.get? e=none:=by
  cases q:base.get? e with
  |none=>rfl
  |some o=>have:=hkb _ _ q;rw [hx.new]at this;exact on this
 refine wpAny_leaving_firstW (a0:=tp) hfr (hl.of_keeps fun b o hb _=>⟨o,hx.keeps b o hb,rfl⟩) hf he (fun b o hb=>hx.keeps b o (hkb b o hb)) hen hd rfl rfl fun h' hL=> ?_
 refine BM hL fun k1 ee1 k3 k4=> ?_
 clear hL
 obtain⟨_,_,k2⟩:=ee1
 exact hQ h' tp ⟨k1,hen,k2,by rw [←hcls];exact k3⟩ k4
end
noncomputable def aG:Stmt->Expr
 | .If t _ _ _=>t
 |_=>default
noncomputable def bL:Stmt->List Stmt
 | .If _ b _ _=>b
 |_=>[]
noncomputable def cX:Stmt->List Stmt
 | .If _ _ o _=>o
 |_=>[]
noncomputable def UX:Stmt->Pos
 | .If _ _ _ p=>p
 | .Raise _ _ p=>p
 | .Try _ _ _ _ p=>p
 | .Return _ p=>p
 |_=>default
noncomputable def ZA:Stmt->Expr
 | .Raise (some e) _ _=>e
 |_=>default
noncomputable def Yg:Expr->Pos
 | .Name _ p=>p
 |_=>default
noncomputable def OK(P:Params):Stmt:=(i6 (KK P) 73).getD 0 (.Pass default)
noncomputable def QG(P:Params):Stmt:=(bL (OK P)).getD 0 (.Pass default)
theorem Tw(P:Params):i6 (KK P) 73= .If (aG (OK P)) [.Raise (some (.Name (Str.ofString "ZeroDivisionError") (Yg (ZA (QG P))))) none (UX (QG P))] (cX (OK P)) (UX (OK P))::(i6 (KK P) 73).drop 1:=by kernel_rfl
theorem UF(P:Params):(d6 GL (D4++K1) true (f3 (KK P) 73).scope (aG (OK P)) (.cmp (.var 1) .eq (.int 0))&&d6 GZ (D4++K1) true (f3 (KK P) 73).scope (.Name (Str.ofString "ZeroDivisionError") (Yg (ZA (QG P)))) (.glob (.type "ZeroDivisionError")))=true:=by kernel_rfl
section
variable{B:Bs}{W:Wd}{C:FC}{σ:St}{s:Shared}{A:Around}{E:Value->Shared->Prop}
theorem MG(hR:R B W C σ s)(hG:i7 B GL){e:Expr}{k:Int}(h:d6 GL C.Γ C.mine C.env.scope e (.int k)=true){Z:Value->Shared->Prop}(hZ:∀t tk,Z (.int k t) {s with toks:=tk}):wpAny (model B.prog B.w) A (eval e C.env) Z E s:=by
 rcases Kx h with⟨u,p,rfl⟩ |⟨t,hg⟩
 ·exact wpAny_Constant_int (hZ _ _)
 ·exact G2 hG hR hg (hZ _ s.toks)
theorem PQ(hR:R B W C σ s)(hG:i7 B GL){e:Expr}{i:Nat}{k v:Int}(h:d6 GL C.Γ C.mine C.env.scope e (.cmp (.var i) .eq (.int k))=true)(hi:σ.vars[i]? =some (some (.int v))){Z:Value->Shared->Prop}(hZ:∀tk,Z (.bool (v==k)) {s with toks:=tk}):wpAny (model B.prog B.w) A (eval e C.env) Z E s:=by
 refine r5 (BC h) fun l r p ee3 hs h1 h2=> ?_
 subst ee3
 refine o1 (BG h1) fun id q ee2 hv=> ?_
 subst ee2
 refine wpAny_Compare1 (EL hR hv hi fun va ⟨t,e1⟩=>MG hR hG h2 fun t2 tk=> ?_) (D3 hs)
 subst e1
 exact PyProof.Rows.eq_int (hZ tk)
theorem IJ(hR:R B W C σ s)(hG:i7 B GL){e:Expr}{i:Nat}{k v:Int}(h:d6 GL C.Γ C.mine C.env.scope e (.cmp (.var i) .eq (.int k))=true)(hi:σ.vars[i]? =some (some (.int v))){Z:Bool->Shared->Prop}(hZ:∀tk,Z (v==k) {s with toks:=tk}):wpAny (model B.prog B.w) A (isTrue e C.env (eval e C.env)) Z E s:=by
 refine r5 (BC h) fun l r p ee3 hs h1 h2=> ?_
 subst ee3
 refine o1 (BG h1) fun id q ee2 hv=> ?_
 subst ee2
 refine PySem.wpAny_isTrue_Compare1 (EL hR hv hi fun va ⟨t,e1⟩=>MG hR hG h2 fun t2 tk=> ?_) (D3 hs)
 subst e1
 exact PyProof.Rows.eq_int (wpAny_truthy_bool (hZ tk))
end
section
variable{B:Bs}{P:Params}(C:JO B P){n:Nat}{ls:Ls}
include C
@[reducible] def Xx(B:Bs)(P:Params)(n:Nat)(ls:Ls)(W:Wd)(s:Shared)(vals:List Value)(A:Around)(base:Heap)(Q E:Value->Shared->Prop):Prop:=∀(C:JO B P)(hR:RL B W ls s)(hv:l5 W [.int 0,.int 0] vals)(hA:Br (n+1) A){outer:List Env}(hfr:A.frames=some outer)(hb:base.StaysIn s.heap)(hl:s.heap.FunFrames base outer)(hE:∀e a0 s',Heap.FlyingW base outer e (.type "ZeroDivisionError") a0 s'.heap->s.heap.UpToSlots s'.heap->s'.gens=s.gens->s'.os=s.os->E (.ref e) s'),wpAny (model B.prog B.w) A (call (.ref 73) vals []) Q E s
noncomputable def X7:Ue:=ee fun u=>Xx u.b u.pr (u.n 0) (u.l 0) (u.w 0) (u.s 0) (u.h 0) (u.A 0) (u.hp 0) (u.e 0) (u.e 1)
omit C in
theorem bP:Xx X7.b X7.pr (X7.n 0) (X7.l 0) (X7.w 0) (X7.s 0) (X7.h 0) (X7.A 0) (X7.hp 0) (X7.e 0) (X7.e 1):=fun C hR hv hA{outer} hfr hb hl hE=>by
 refine BM (CC C.X C.lim (E5 X7.pr)) fun F h1 h2 h3=> ?_
 refine a9 (F.obj) fun o hob hod=> ?_
 have ho:=hR.keep _ _ (hR.base _ _ hob)
 refine wpAny_call ?_
 have hbs:=BindsTo.of_eq (s:=(X7.s 0)) (J4 X7.pr (X7.h 0) (by rw [hv.length];rfl))
 have hold:∀b o,X7.b.eB.get? b=some o->(X7.s 0).heap.get? b=some o:=fun b o e=>hR.keep _ _ (hR.base _ _ e)
 refine codeAny_call_function (by have:=hA.1;lia) ho hod F.co F.gen F.body (F.code.keeps hold) (hbs _ _ _ _ ?_)
 rw [h1]
 refine wpAny_newFunctionEnv_cells F.kind (fun x hx=> ?_) fun env he s' x=> ?_
 ·have hp:=(of_mem_zip hx).1
  rcases h3 x.1 hp with hk |hk
  ·exact .inl hk
  ·refine f8 (o9 (n:=(X7.s 0).heap.objs.size+1) (acc:=[]) (mem_of_lookup hk)) fun c hc=> ?_
   exact .inr ⟨hk,j0 hc⟩
 subst he
 have hlim:s'.heap.NoLimit:=(F.lim.keeps hold).keeps x.toInCall.keep
 refine⟨hlim,codeAny_func ?_⟩
 have hf:=S9 F h2 hR hv rfl h3 x
 have hkp:∀b o,(X7.s 0).heap.get? b=some o->s'.heap.get? b=some o:=x.toInCall.keep
 have hsame:s'.gens=(X7.s 0).gens∧s'.os=(X7.s 0).os:=by
  refine I9 (x.toInCall.same) fun h' tk ee2=> ?_
  subst ee2
  exact⟨rfl,rfl⟩
 rw [Tw]
 have hA':Br (X7.n 0) ((X7.A 0).deeper (callEnvC (f3 (KK X7.pr) 73) (X7.s 0).heap.objs.size 73)):=hA.deeper
 have ck:=UF X7.pr
 rw [Bool.and_eq_true]at ck
 refine wpAny_execs_cons (wpAny_If (IJ hf C.G ck.1 (v:=0) rfl fun tk=> ?_))
 rw [if_pos (show((0:Int)==0)=true from rfl)]
 have hRt:=hf.toks tk
 have hx:wpAny (model X7.b.prog X7.b.w) ((X7.A 0).deeper (callEnvC (f3 (KK X7.pr) 73) (X7.s 0).heap.objs.size 73)) (eval (.Name (Str.ofString "ZeroDivisionError") (Yg (ZA (QG X7.pr)))) (callEnvC (f3 (KK X7.pr) 73) (X7.s 0).heap.objs.size 73)) (fun v dR=>v= .type "ZeroDivisionError"∧dR={s' with toks:=tk}) (fun _ _=>False) {s' with toks:=tk}:=G2 C.GZ hRt (Z0 ck.2) ⟨rfl,rfl⟩
 refine a9 (hf.fr.ns) fun mm hmm _=> ?_
 refine wpAny_execs_cons (Raise_classB (N:="ZeroDivisionError.__new__") (I:="ZeroDivisionError.__init__") hA'.2.2 excClass_ZeroDivisionError (by rw [isSubtype_type];kernel_rfl) (wpAny_mono hx (fun _ _ h=>h) fun _ _ h=>h.elim) fun h' e hx=> ?_)
 have hlf:s'.heap.FunFrames (X7.hp 0) (callEnvC (f3 (KK X7.pr) 73) (X7.s 0).heap.objs.size 73::outer):=Heap.FunFrames.cons (m:=mm) (L:=(X7.s 0).heap.objs.size) (by rw [hf.fr.kind];decide) rfl hmm (Heap.StaysIn.fresh hb) (hl.of_keeps fun b o hb' _=>⟨o,hkp b o hb',rfl⟩)
 refine Mh (Around.frames_deeper hfr) rfl (fun b o q=>hkp b o (hb b o q)) hlf hx fun h'' a0 hfl hup=> ?_
 exact hE e a0 _ hfl (((Heap.UpToSlots.of_keeps hkp).trans (Heap.UpToSlots.of_keeps hx.keeps)).trans hup) hsame.1 hsame.2
omit C in
theorem Kb{B:Bs}{P:Params}{n:Nat}{ls:Ls}{W:Wd}{s:Shared}{vals:List Value}{A:Around}{base:Heap}{Q E:Value->Shared->Prop}:Xx B P n ls W s vals A base Q E:=by with_unfolding_all exact hk (q:=fun u:Ue=>Xx u.b u.pr (u.n 0) (u.l 0) (u.w 0) (u.s 0) (u.h 0) (u.A 0) (u.hp 0) (u.e 0) (u.e 1)) bP (.mk B [W] [] [] [s] [A] [Q,E] [] [n] [] [] [] [] [] [ls] [] [] [vals] [] [] [] [] [] [] [] [] [] [] [] [] [] [] [] [] [] [] [] P [] [base])
end
end
section
open PySem.W
noncomputable def Ra(P:Params):Stmt:=((i6 (KK P) 180).getLast?).getD (.Pass default)
noncomputable def YT:Stmt->List Stmt
 | .Try b _ _ _ _=>b
 |_=>[]
noncomputable def Pu:Stmt->List ExceptHandler
 | .Try _ h _ _ _=>h
 |_=>[]
noncomputable def bB:List ExceptHandler->Expr
 | .ExceptHandler (some e) _ _ _::_=>e
 |_=>default
noncomputable def bM:List ExceptHandler->List Stmt
 | .ExceptHandler _ _ b _::_=>b
 |_=>[]
noncomputable def bW:List ExceptHandler->Pos
 | .ExceptHandler _ _ _ p::_=>p
 |_=>default
noncomputable def tR(P:Params):Stmt:=(YT (Ra P)).getD 0 (.Pass default)
noncomputable def hR(P:Params):Stmt:=(bM (Pu (Ra P))).getD 0 (.Pass default)
theorem UE(P:Params):i6 (KK P) 180=(i6 (KK P) 180).dropLast++[Ra P]:=by kernel_rfl
theorem Uk(P:Params):Ra P= .Try [.Return (some (HT (tR P))) (UX (tR P))] [.ExceptHandler (some (bB (Pu (Ra P)))) none [.Return (some (HT (hR P))) (UX (hR P))] (bW (Pu (Ra P)))] [] [] (UX (Ra P)):=by kernel_rfl
noncomputable def m1:Ex:= .item (.var 39) (.neg (.int 1))
noncomputable def Zq:Ex:= .cmp (.call (.glob (.ref 73)) (.cons (.bin .mul (.int 3) m1) (.cons m1 .nil))) .eq (.tup (.cons (.int 3) (.cons (.int 0) .nil)))
noncomputable def Zc:Ex:= .cmp (.call (.glob (.ref 73)) (.cons (.bin .mul (.neg (.int 3)) m1) (.cons m1 .nil))) .eq (.tup (.cons (.neg (.int 3)) (.cons (.int 0) .nil)))
theorem YE(P:Params):(d6 GL (G6++N8) true (f3 (KK P) 180).scope (HT (tR P)) (.and Zq Zc)&&d6 GL (G6++N8) true (f3 (KK P) 180).scope (HT (hR P)) (.cmp (.var 35) .eq (.int 0))&&d6 GZ (G6++N8) true (f3 (KK P) 180).scope (bB (Pu (Ra P))) (.glob (.type "ZeroDivisionError")))=true:=by kernel_rfl
theorem FQ{ls:Ls}{k:Nat}{ini:List Int}{x:Int}(hk:ls[k]? =some ((ini++[x]).map .int))(hl:ini.length<=5):t8 ls (.lst k) (.int (-1))=some (.int x):=by
 unfold t8
 dsimp only
 rw [if_pos (by decide),hk]
 have e:seqIndex? (-1) ((ini++[x]).map AV.int).length=some ini.length:=by
  unfold seqIndex?
  simp only [length_map,length_append,length_cons,length_nil]
  simp
  lia
 show(seqIndex? (-1) ((ini++[x]).map AV.int).length).bind (((ini++[x]).map AV.int)[·]?)=_
 rw [e]
 show((ini++[x]).map AV.int)[ini.length]? =_
 rw [getElem?_map,getElem?_append_right (Nat.le_refl _)];simp
theorem Ss{p q:Int}(h0:p≠0)(hq:q=3*p∨q= -3*p):Builtin.Int.intBits q<=19*Builtin.Int.intBits p:=by
 have h1:1<=Builtin.Int.intBits p:=by
  refine Nat.one_le_iff_ne_zero.mpr fun e=>h0 ?_
  have:=intBits_le_iff.mp (Nat.le_of_eq e)
  rw [Nat.pow_zero]at this
  lia
 have h2:=intBits_le_iff.mp (Nat.le_refl (Builtin.Int.intBits p))
 have h3:Builtin.Int.intBits q<=Builtin.Int.intBits p+2:=by
  (rewrite [intBits_le_iff];rw [Nat.pow_add])
  generalize 2^Builtin.Int.intBits p=Y at*
  rcases hq with rfl |rfl
  ·rw [Int.natAbs_mul,show(3:Int).natAbs=3 from rfl,show(2:Nat)^2=4 from rfl];lia
  ·rw [Int.natAbs_mul,show(-3:Int).natAbs=3 from rfl,show(2:Nat)^2=4 from rfl];lia
 lia
section
variable{B:Bs}{P:Params}(C:CtxQ B P){n:Nat}
include C
@[reducible] def XU(B:Bs)(P:Params)(n:Nat)(vs:List (Option AV))(L:Ls)(pv:Nat)(ini:List Int)(p:Int)(Q:AV->St->Prop):Prop:=∀(C:CtxQ B P)(hv:vs[39]? =some (some (.lst pv)))(hL:L[pv]? =some ((ini++[p]).map .int))(hl:ini.length<=5)(hp:p≠0)(hb:p.natAbs<2^7000)(hQ:Q (.bool true) ⟨vs,L⟩),t9 B (n+25) (.and Zq Zc) ⟨vs,L⟩ Q
noncomputable def Fq:Ue:=ee fun u=>XU u.b u.pr (u.n 0) (u.lv 0) (u.l 0) (u.n 1) (u.li 0) (u.i 0) (u.k 0)
omit C in
theorem bK:XU Fq.b Fq.pr (Fq.n 0) (Fq.lv 0) (Fq.l 0) (Fq.n 1) (Fq.li 0) (Fq.i 0) (Fq.k 0):=fun C hv hL hl hp hb hQ=>by
 have hbp:Builtin.Int.intBits (Fq.i 0)<=8000:=Nat.le_trans (I7 hb) (by decide)
 have i1:=FQ hL hl
 have f1:(3*(Fq.i 0)).fdiv (Fq.i 0)=3∧(3*(Fq.i 0)).fmod (Fq.i 0)=0:=⟨Int.mul_fdiv_cancel _ hp,Int.mul_fmod_left ..⟩
 have f2:(-3*(Fq.i 0)).fdiv (Fq.i 0)= -3∧(-3*(Fq.i 0)).fmod (Fq.i 0)=0:=⟨Int.mul_fdiv_cancel _ hp,Int.mul_fmod_left ..⟩
 unfold Zq Zc m1
 refine VE ?_
 refine Sw ?_
 refine EX ?_
 refine G3 ?_
 refine Id ?_
 refine P7 ?_
 refine Bf ?_
 refine P1 hv ?_
 refine BU (P7 (CB ?_))
 refine b8 i1 ?_
 refine u4 (IntMulOk.of_left (by decide)) ?_
 refine G3 ?_
 refine Bf ?_
 refine P1 hv ?_
 refine BU (P7 (CB ?_))
 refine b8 i1 ?_
 refine Ce ?_
 refine J9 (K:=(Fq.n 0)) C.toCtxP hp hbp (Ss hp (.inl rfl)) ?_
 rw [f1.1,f1.2]
 refine OY (G3 (P7 (G3 (P7 (Ce ⟨rfl,?_⟩)))))
 refine b8 (a:=true) rfl ?_
 refine b8 (a:=true) rfl ?_
 rw [if_pos rfl]
 refine Sw ?_
 refine EX ?_
 refine G3 ?_
 refine Id ?_
 refine BU (P7 (CB ?_))
 refine Bf ?_
 refine P1 hv ?_
 refine BU (P7 (CB ?_))
 refine b8 i1 ?_
 refine u4 (IntMulOk.of_left (by decide)) ?_
 refine G3 ?_
 refine Bf ?_
 refine P1 hv ?_
 refine BU (P7 (CB ?_))
 refine b8 i1 ?_
 refine Ce ?_
 refine J9 (K:=(Fq.n 0)) C.toCtxP hp hbp (Ss hp (.inr rfl)) ?_
 rw [f2.1,f2.2]
 refine OY (G3 (BU (P7 (CB (G3 (P7 (Ce ⟨rfl,?_⟩)))))))
 exact b8 (a:=true) rfl hQ
omit C in
theorem QM{B:Bs}{P:Params}{n:Nat}{vs:List (Option AV)}{L:Ls}{pv:Nat}{ini:List Int}{p:Int}{Q:AV->St->Prop}:XU B P n vs L pv ini p Q:=by with_unfolding_all exact hk (q:=fun u:Ue=>XU u.b u.pr (u.n 0) (u.lv 0) (u.l 0) (u.n 1) (u.li 0) (u.i 0) (u.k 0)) bK (.mk B [] [] [] [] [] [] [] [n,pv] [] [] [] [] [] [L] [Q] [] [] [] [] [] [] [] [] [] [] [] [] [] [] [] [] [] [] [p] [ini] [vs] P [] [])
end
end
section
open PySem.W
section
variable{B:Bs}{G:List (Str×Value)}{n:Nat}
theorem FU{M:Model}{A:Around}{env:Env}{tail:List Stmt}{E:Value->Shared->Prop}{Z:Flow->Shared->Prop}{Γ:PySem.Ctx}(iD:Γ.In A):∀(ss:List Stmt)(p:Pos)(s:Shared),
  Sem.wp M Γ (execs ss env) (fun f _ s'=>f= .next∧wpAny M A (execs tail env) Z E s') (fun e _ s'=>E e s') p s->Sem.wp M Γ (execs (ss++tail) env) (fun a _ s'=>Z a s') (fun e _ s'=>E e s') p s
 | [],p,s,h=>h.2 Γ p iD
 |st::r,p,s,h=>by
  rw [show execs (st::r) env=(exec st env>>=fun f=>match f with | .next=>execs r env |f=>pure f)from rfl,Sem.wp_bind']at h
  rw [show execs (st::r++tail) env=(exec st env>>=fun f=>match f with | .next=>execs (r++tail) env |f=>pure f)from rfl,Sem.wp_bind']
  refine Sem.wp_mono M Γ _ (fun f p' s' h'=> ?_) (fun _ _ _ h'=>h') p s h
  cases f with
  |next=>exact FU iD r p' s' h'
  |_=>exact nomatch h'.1
theorem NA(hG:i7 B G){A:Around}(hA:Br n A){tail:List Stmt}(xs:o7){C:FC}{ss:List Stmt}{σ:St}{Q:Fl->St->Prop}{W:Wd}{s:Shared}{E:Value->Shared->Prop}{Z:Flow->Shared->Prop}(h:l9 G C.Γ C.mine C.env.scope ss xs=true)(hq:d9 B n xs σ Q)(hR:R B W C σ s)(hn:∀f σ,Q f σ->f= .next)
  (hZ:∀s' W' eG,W.le W'->R B W' C eG s'->Q .next eG->wpAny (model B.prog B.w) A (execs tail C.env) Z E s'):wpAny (model B.prog B.w) A (execs (ss++tail) C.env) Z E s:=fun Γ p iD=>
 FU iD ss p s (R9 hG xs h hq W s A E _ hA hR (fun f s' W' fl eG hl hr hf hq'=>by
  have e:=hn _ _ hq'
  subst e
  exact⟨hf,hZ s' W' eG hl hr hq'⟩) Γ p iD)
end
theorem TD:isSubtype (.type "ZeroDivisionError") (.type "BaseException")=pure true:=by rw [isSubtype_type];kernel_rfl
theorem PG:isSubtype (.type "ZeroDivisionError") (.type "ZeroDivisionError")=pure true:=by rw [isSubtype_type];kernel_rfl
theorem Rz:isSubtype (.type ((Manifest.find? "ZeroDivisionError").elim "type" fun x=>x.metatype)) (.type "tuple")=pure false:=by kernel_rfl
section
variable{B:Bs}{P:Params}(C:JO B P){n:Nat}
include C
@[reducible] def Xr(B:Bs)(P:Params)(n:Nat)(env:Env)(vs:List (Option AV))(L:Ls)(pv:Nat)(ini:List Int)(S:Int)(W:Wd)(s:Shared)(A:Around)(E:Value->Shared->Prop)(Z:Flow->Shared->Prop):Prop:=∀(C:JO B P)(hsc:env.scope=(f3 (KK P) 180).scope)(hfm:env.frame=some env.locals){pr:Int}(hv:vs[39]? =some (some (.lst pv)))(hv2:vs[35]? =some (some (.int pr)))(hL:L[pv]? =some ((ini++[S*pr]).map .int))(hl:ini.length<=5)(hS:S≠0)(hb:(S*pr).natAbs<2^7000)(hR:R B W ⟨env,G6++N8,true⟩ ⟨vs,L⟩ s)(hA:Br (n+26) A)(hfr:A.frames=some [env])(hZ:∀s' W' eG,R B W' ⟨env,G6++N8,true⟩ eG s'->Z (.ret (.bool true)) s'),wpAny (model B.prog B.w) A (exec (Ra P) env) Z E s
noncomputable def H4:Ue:=ee fun u=>Xr u.b u.pr (u.n 0) (u.env 0) (u.lv 0) (u.l 0) (u.n 1) (u.li 0) (u.i 0) (u.w 0) (u.s 0) (u.A 0) (u.e 0) (u.fz 0)
omit C in
theorem dH:Xr H4.b H4.pr (H4.n 0) (H4.env 0) (H4.lv 0) (H4.l 0) (H4.n 1) (H4.li 0) (H4.i 0) (H4.w 0) (H4.s 0) (H4.A 0) (H4.e 0) (H4.fz 0):=fun C hsc hfm{pr} hv hv2 hL hl hS hb hR hA hfr hZ=>by
 have ck:=YE H4.pr
 simp only [Bool.and_eq_true]at ck
 refine b7 ck fun ee0 c3=> ?_
 clear ck
 obtain⟨c1,c2⟩:=ee0
 rw [←hsc]at c1 c2 c3
 rw [Uk]
 by_cases hp:pr=0
 ·subst hp
  rw [Int.mul_zero]at hL
  obtain⟨x,y,p,e1,k1,k2⟩ |⟨_,_,_,_,_,_,_,e2,_⟩:=Hj c1
  ·refine r5 (BC k1) fun l r p2 e2 hs k3 k4=> ?_
   refine r5 (Eg k3) fun g args p3 e3 hg k5 k6=> ?_
   subst e3
   subst e2
   rw [e1]
   refine wpAny_Try_except (wpAny_execs_cons (wpAny_Return_some (wpAny_And2 (wpAny_Compare1 ?_ (D3 hs)))))
   have he:eval (.Call g args [] p3) (H4.env 0)=(do callWith p3 (←eval g (H4.env 0)) [] (backTo p3 (starEach args (H4.env 0))) []):=by
    cases g<;>first |rfl | (exact tf hg)
   rw [he]
   have hq1:t9 H4.b ((H4.n 0)+25) (.glob (.ref 73)) ⟨(H4.lv 0),(H4.l 0)⟩ fun av σ=>av= .raw (.ref 73)∧σ=⟨(H4.lv 0),(H4.l 0)⟩:=JH ⟨rfl,rfl⟩
   have i1:=FQ hL hl
   have hq2:AU H4.b ((H4.n 0)+25) (.cons (.bin .mul (.int 3) m1) (.cons m1 .nil)) ⟨(H4.lv 0),(H4.l 0)⟩ fun avs σ=>avs=[.int 0,.int 0]∧σ=⟨(H4.lv 0),(H4.l 0)⟩:=by
    unfold m1
    refine G3 ?_
    refine Id ?_
    refine P7 ?_
    refine Bf ?_
    refine P1 hv ?_
    refine BU (P7 (CB ?_))
    refine b8 i1 ?_
    refine u4 (IntMulOk.of_left (by decide)) ?_
    refine G3 ?_
    refine Bf ?_
    refine P1 hv ?_
    refine BU (P7 (CB ?_))
    refine b8 i1 ?_
    refine Ce ?_
    exact⟨rfl,rfl⟩
   have hA25:Br ((H4.n 0)+25) (H4.A 0):=hA.mono (by exact J6 rfl)
   refine wpAny_bind (g9 C.G _ k5 hq1 (H4.w 0) (H4.s 0) (H4.A 0) _ _ hA25 hR fun vf dR dX fv dU dW dT dZ dS=> ?_)
   refine b7 dS fun ee0 ee1=> ?_
   clear dS
   subst ee0
   subst ee1
   obtain rfl:vf= .ref 73:=dZ
   refine y0 (u8 k6) rfl (Aa C.G _ k6 hq2 dX dR (H4.A 0) _ _ hA25 dT fun vals dY eE avs eD eF eA eH eC=>wpAny_pure ?_)
   refine b7 eC fun ee0 ee1=> ?_
   clear eC
   subst ee0
   subst ee1
   have hbase:(hideAll dY.heap [(H4.env 0).locals]).StaysIn dY.heap:=fun b o e=>of_hideAll _ e
   have hLn:(hideAll dY.heap [(H4.env 0).locals]).get? (H4.env 0).locals=none:=hideAll_none _ (.head _)
   refine a9 (eA.fr.ns) fun mm hmm _=> ?_
   have hff:dY.heap.FunFrames (hideAll dY.heap [(H4.env 0).locals]) [(H4.env 0)]:=Heap.FunFrames.cons (m:=mm) (L:=(H4.env 0).locals) (by have:=eA.fr.kind;rw [show(H4.env 0).scope.kind=_ from this];decide) hfm hmm hLn trivial
   have key:∀h',(hideAll dY.heap [(H4.env 0).locals]).StaysIn h'->dY.heap.UpToSlots h'->∀s':Shared,s'.gens=dY.gens->s'.os=dY.os->s'.heap=h'->R H4.b eE ⟨(H4.env 0),G6++N8,true⟩ ⟨(H4.lv 0),(H4.l 0)⟩ s':=fun h' q1 q2 s' q3 q4 q5=>eA.slots (fun b o hb e=>by rw [q5];exact q1 b o (hideAll_get _ e (by simpa using hb))) (by rw [q5];exact q2) q3 q4
   refine⟨fun a e=> ?_,Kb C (n:=(H4.n 0)+24) eA.rl eH hA25 hfr hbase hff fun e a0 s' hfl hup hg2 ho2=> ?_⟩
   ·cases e
    refine b7 (CC C.X C.lim (E5 H4.pr)) fun F _=> ?_
    refine a9 (F.obj) fun o hob hod=> ?_
    exact⟨o,_,eA.rl.keep _ _ (eA.rl.base _ _ hob),hod⟩
   ·refine wpAny_looks_onW hfr hfm hfl fun eX hheld gP=> ?_
    refine wpAny_landsW hheld fun fC fV gQ=> ?_
    have iE:=key fC fV.1 (hup.trans (gP.trans gQ)) {s' with heap:=fC} hg2 ho2 rfl
    refine a9 (fV.there) fun ob hob hobc=> ?_
    refine wpAny_handleBy_builtin (X:="ZeroDivisionError") (T:="ZeroDivisionError") (b:=true) TD Rz PG (G2 C.GZ iE (Z0 c3) ⟨rfl,⟨ob,hob,hobc⟩,?_⟩)
    rw [if_pos rfl]
    refine lands_againW fV fun fE eW iF=> ?_
    have gR:=key fE eW.1 (hup.trans (gP.trans (gQ.trans iF))) {s' with heap:=fE} hg2 ho2 rfl
    refine wpAny_execs_cons (wpAny_Return_some (PQ gR C.G c2 hv2 fun tk=> ?_))
    exact hZ _ _ _ (gR.toks tk)
 ·have hne:(H4.i 0)*pr≠0:=fun h=>by
   rcases Int.mul_eq_zero.mp h with h |h
   ·exact hS h
   ·exact hp h
  refine wpAny_Try_except (wpAny_execs_cons (wpAny_Return_some (g9 C.G _ c1 (QM C.toCtxQ (n:=(H4.n 0)) hv hL hl hne hb (Q:=fun v _=>v= .bool true) rfl) (H4.w 0) (H4.s 0) (H4.A 0) _ _ (hA.mono (by exact J6 rfl)) hR fun va dR dX av dU dW dT dZ dS=> ?_)))
  subst dS
  obtain rfl:va= .bool true:=dZ
  exact hZ _ _ _ dT
omit C in
theorem Ty{B:Bs}{P:Params}{n:Nat}{env:Env}{vs:List (Option AV)}{L:Ls}{pv:Nat}{ini:List Int}{S:Int}{W:Wd}{s:Shared}{A:Around}{E:Value->Shared->Prop}{Z:Flow->Shared->Prop}:Xr B P n env vs L pv ini S W s A E Z:=by with_unfolding_all exact hk (q:=fun u:Ue=>Xr u.b u.pr (u.n 0) (u.env 0) (u.lv 0) (u.l 0) (u.n 1) (u.li 0) (u.i 0) (u.w 0) (u.s 0) (u.A 0) (u.e 0) (u.fz 0)) dH (.mk B [W] [] [] [s] [A] [E] [] [n,pv] [] [] [] [] [] [L] [] [] [] [] [] [] [] [env] [] [] [] [] [] [] [] [] [] [] [] [S] [ini] [vs] P [Z] [])
end
end
section
open PySem.W
theorem Vn(P:Params):∀vals:List Value,vals.length=G6.length->bindArgs (f3 (KK P) 180) ⟨vals,[]⟩=pure (G6.zip vals):=fun vals h=>by
 refine f8 (ND h) fun a ee1=> ?_
 subst ee1
 kernel_rfl
theorem FG:Br 27 callerA:=⟨by decide+kernel,by decide+kernel,rfl⟩
section
variable{B:Bs}{P:Params}(C:JO B P)
include C
@[reducible] def Xl(B:Bs)(P:Params)(fd:FuncData)(body pre:List Stmt)(a:Addr)(xs:List Int)(W:Wd)(s:Shared):Prop:=∀(C:JO B P){last:Stmt}(F:Jm B 180 fd body)(h1:fd.closure=[])(h2:(G6++N8).Nodup)(h3:∀x∈G6,fd.scope.names.lookup x=some .local∨fd.scope.names.lookup x=some .cell)(hbd:∀v:Value,bindArgs fd ⟨[v],[]⟩=pure (G6.zip [v]))(cx:l9 GL (G6++N8) true fd.scope pre FA=true)(hb:body=pre++[last])(htry:∀(env:Env),env.scope=fd.scope->env.frame=some env.locals->∀{vs:List (Option AV)}{L:Ls}{pv:Nat}{ini:List Int}{S pr:Int},vs[39]? =some (some (.lst pv))->vs[35]? =some (some (.int pr))->L[pv]? =some ((ini++[S*pr]).map .int)->ini.length<=5->S≠0->(S*pr).natAbs<2^7000->
   ∀{W:Wd}{s:Shared},R B W ⟨env,G6++N8,true⟩ ⟨vs,L⟩ s->∀{A:Around},Br 26 A->A.frames=some [env]->∀{E:Value->Shared->Prop}{Z:Flow->Shared->Prop},
   (∀s' W' eG,R B W' ⟨env,G6++N8,true⟩ eG s'->Z (.ret (.bool true)) s')->wpAny (model B.prog B.w) A (exec last env) Z E s) (hI:Bj B.eB a xs) (hx:xs.length<=1000000) (hRL:RL B W [] s) {Rr:Result->Shared->Prop} (hZ:∀s' W' L',RL B W' L' s'->Rr (.ok (.ret (.bool true))) s'),codeAny (model B.prog B.w) callerA (.call (.ref 180) ⟨[.ref a],[]⟩) Rr s
noncomputable def Dd:Ue:=ee fun u=>Xl u.b u.pr (u.fd 0) (u.bd 0) (u.bd 1) (u.n 0) (u.li 0) (u.w 0) (u.s 0)
omit C in
theorem cV:Xl Dd.b Dd.pr (Dd.fd 0) (Dd.bd 0) (Dd.bd 1) (Dd.n 0) (Dd.li 0) (Dd.w 0) (Dd.s 0):=fun C{last} F h1 h2 h3 hbd cx hb htry hI hx hRL{Rr} hZ=>by
 refine a9 (F.obj) fun o hob hod=> ?_
 have ho:=hRL.keep _ _ (hRL.base _ _ hob)
 have hbs:=BindsTo.of_eq (s:=(Dd.s 0)) (hbd (.ref (Dd.n 0)))
 have hold:∀b o,Dd.b.eB.get? b=some o->(Dd.s 0).heap.get? b=some o:=fun b o e=>hRL.keep _ _ (hRL.base _ _ e)
 have hv:l5 (Dd.w 0) [.raw (.ref (Dd.n 0))] [.ref (Dd.n 0)]:=⟨.ref (Dd.n 0),[],rfl,rfl,rfl⟩
 refine codeAny_call_function (by have:=FG.1;lia) ho hod F.co F.gen F.body (F.code.keeps hold) (hbs _ _ _ _ ?_)
 rw [h1]
 refine wpAny_newFunctionEnv_cells F.kind (fun x hx=> ?_) fun env he s' x=> ?_
 ·have hp:=(of_mem_zip hx).1
  rcases h3 x.1 hp with hk |hk
  ·exact .inl hk
  ·refine f8 (o9 (n:=(Dd.s 0).heap.objs.size+1) (acc:=[]) (mem_of_lookup hk)) fun c hc=> ?_
   exact .inr ⟨hk,j0 hc⟩
 subst he
 have hlim:s'.heap.NoLimit:=(F.lim.keeps hold).keeps x.toInCall.keep
 refine⟨hlim,codeAny_func ?_⟩
 have hf:=S9 F h2 hRL hv rfl h3 x
 have hA':Br 26 (callerA.deeper (callEnvC (Dd.fd 0) (Dd.s 0).heap.objs.size 180)):=FG.deeper
 have hw:d9 Dd.b 26 FA ⟨([AV.raw (.ref (Dd.n 0))]:List AV).map some++List.replicate N8.length none,[]⟩ fun fl σ=>fl= .next∧∃(pv:Nat)(ini:List Int)(S pr:Int),σ.vars[39]? =some (some (.lst pv))∧σ.vars[35]? =some (some (.int pr))∧σ.lists[pv]? =some ((ini++[S*pr]).map .int)∧ini.length<=5∧S≠0∧(S*pr).natAbs<2^7000:=
  MT (n:=1) C.toCtxQ hI hx fun vs M' pv ini S pr y1 y2 y3 y4 y5 y6=>⟨rfl,pv,ini,S,pr,y1,y2,y3,y4,y5,y6⟩
 rw [hb]
 refine NA (C:=⟨callEnvC (Dd.fd 0) (Dd.s 0).heap.objs.size 180,G6++N8,true⟩) C.G hA' FA cx hw hf (fun f σ h=>h.1) fun dR dX dU dW dT dS=> ?_
 obtain⟨_,pv,ini,S,pr,y1,y2,y3,y4,y5,y6⟩:=dS
 refine wpAny_execs_cons (htry _ rfl rfl y1 y2 y3 y4 y5 y6 (dT:R Dd.b dX ⟨_,G6++N8,true⟩ ⟨dU.vars,dU.lists⟩ dR) hA' (Around.frames_deeper rfl) fun dY eE eD eA=> ?_)
 exact hZ dY eE _ eA.rl
omit C in
theorem Gj{B:Bs}{P:Params}{fd:FuncData}{body pre:List Stmt}{a:Addr}{xs:List Int}{W:Wd}{s:Shared}:Xl B P fd body pre a xs W s:=by with_unfolding_all exact hk (q:=fun u:Ue=>Xl u.b u.pr (u.fd 0) (u.bd 0) (u.bd 1) (u.n 0) (u.li 0) (u.w 0) (u.s 0)) cV (.mk B [W] [] [] [s] [] [] [] [a] [] [] [] [] [] [] [] [] [] [] [] [] [] [] [] [] [body,pre] [fd] [] [] [] [] [] [] [] [] [xs] [] P [] [])
theorem Mn{a:Addr}{xs:List Int}(hI:Bj B.eB a xs)(hx:xs.length<=1000000){W:Wd}{s:Shared}(hRL:RL B W [] s){Rr:Result->Shared->Prop}(hZ:∀s' W' L',RL B W' L' s'->Rr (.ok (.ret (.bool true))) s'):
  codeAny (model B.prog B.w) callerA (.call (.ref 180) ⟨[.ref a],[]⟩) Rr s:=by
 refine BM (CC C.X C.lim (TJ P)) fun F h1 h2 h3=> ?_
 exact Gj C F h1 h2 h3 (fun v=>Vn P [v] rfl) (Ta P) (UE P) (fun env e1 e2 _ _ _ _ _ _ y1 y2 y3 y4 y5 y6 _ _ r _ hA hf _ _ z=>Ty C (n:=0) e1 e2 y1 y2 y3 y4 y5 y6 r hA hf z) hI hx hRL hZ
end
theorem Gi{P:Params}{h:Heap}:∀{ns:List Int}{vs:List Value},WellAll P h vs (ofPys (ns.map PyData.int))->l5 ⟨fun _=>none,[]⟩ (ns.map AV.int) vs
 | [],vs,w=>by
  cases w
  rfl
 |i::ns,vs,w=>by
  cases w with
  |cons w1 w2=>
   cases w1
   exact⟨_,_,rfl,⟨_,rfl⟩,Gi w2⟩
end
section
open PySem.W
noncomputable def Sx(prog:Program)(w:World)(eX:Heap)(os:OsState):Bs:=⟨prog,w,ghostOf eX [(58,54),(51,47)],os,[(51,47,Str.ofString "_int2digits.<locals>.inner"),(58,54,Str.ofString "_digits2int.<locals>.inner")],[]⟩
section
variable{prog:Program}{w:World}{dR:Shared}
@[reducible] def Xd(dR:Shared):Prop:=∀{prog:Program}{w:World}(hT:TabsAt [(58,54),(51,47)] dR.heap)(hg:dR.gens= #[]),RL (Sx prog w dR.heap dR.os) ⟨fun a=>(ghostOf dR.heap [(58,54),(51,47)]).get? a,[]⟩ [] dR
noncomputable def Ti:Ue:=ee fun u=>Xd (u.s 0)
theorem cY:Xd (Ti.s 0):=fun{prog}{w} hT hg=>{
 base:=fun a o e=>e
 keep:=fun a o e=>of_hideAll _ e
 len:=rfl
 off:=fun a h=>by cases h
 nd:= .nil
 lists:=fun k a vs h=>by simp at h
 gens:=hg
 os:=rfl
 tabs:=fun c P q hm=>by
  have key:∀c P,(c,P)∈[(58,54),(51,47)]->(ghostOf (Ti.s 0).heap [(58,54),(51,47)]).get? P=none∧P∉([]:List Addr)∧∃ps,(Ti.s 0).heap.IsCode c P ps∧(Ti.s 0).heap.TableAt c P ps∧∀pos c',codeAmong pos ps.toList=some c'->∃a o vs t,c'= .ref a∧(ghostOf (Ti.s 0).heap [(58,54),(51,47)]).get? a=some o∧o.cls= .type "code"∧o.data= .fields vs∧vs[1]? =some (.str q t):=fun c P h=>by
   refine b7 (hT (c,P) h) fun h1 h2=> ?_
   refine⟨hideAll_none _ (mem_map.mpr ⟨(c,P),h,rfl⟩),(by simp),#[],h1.code h2 trivial,h1.tab h2,fun pos c' e=> ?_⟩
   exact on e
  rcases mem_cons.mp hm with e |hm
  ·cases e;exact key 51 47 (by simp)
  ·have e:=mem_singleton.mp hm
   cases e
   exact key 58 54 (by simp)
 pins:=fun k a h=>by cases h}
theorem Ot{dR:Shared}:Xd dR:=by with_unfolding_all exact Mine.hk (q:=fun u:Ue=>Xd (u.s 0)) cY (.mk Ti.b [] [] [] [dR] [] [] [] [] [] [] [] [] [] [] [] [] [] [] [] [] [] [] [] [] [] [] [] [] [] [] [] [] [] [] [] [] Ti.pr [] [])
end
theorem Oe(P:Params):nsIn (KK P) mainGlobals (Str.ofString "law")=some (some (.ref 180)):=by kernel_rfl
theorem WK(P:Params):noTabs (KK P)=true:=by kernel_rfl
theorem Hz{P:Params}{h:Heap}{ts:List (Addr×Addr)}(hT:TabsAt ts h){a:Addr}{xs:List Int}(w:Well P h (.ref a) (ofPy (.list (xs.map .int)))):Bj (ghostOf h ts) a xs:=by
 have w2:Well P h (.ref a) (.list (ofPys (xs.map .int))):=w
 cases w2 with
 |list h1 h2=>exact⟨_,_,ghost_get hT h1 (fun q=>by cases q),Gi h2⟩
theorem zz:PySem.Challenge.rw_tv0047_01.Holds:=Mine.hd (by
 k_fill
 intro w iS dR mg mb G Y fa o pm cd doc dV kV ho hd hcd hD hmg hg args vals as hpre hlay hrd hwl hlo
 have KX:=km_in_of Y
 km_tabs Y
 have X:=(Ground.X G).1
 have V:=(Ground.X G).2
 refine Ground.open G ?_
 intro T B D TE TW
 try (refine guard_noD D (by decide+kernel) ?_;clear D)
 km_lay T hmg ho hd cd
 have hmg2:mg (Str.ofString "law")=some (.ref fa):=hmg
 clear hmg
 wrow_args hpre hlay hrd hwl hlo
 clear hd hcd hD Y G
 rename Well _ _ _ _=>hwell
 rename ¬_<_=>hlen
 refine enter_call (kn_post hT9 (fun _ _=>rfl) ?_)
 have T':=ghost_top hT9 T
 have TR:=topRead_of T'
 have hfa:fa=180:=by
  have:=mg_of KX T.g (Oe w.params)
  rw [hmg2]at this
  exact Value.ref.inj (Option.some.inj this)
 subst hfa
 have GK:=ghost_K hT9 KX (WK w.params)
 refine UW (T'.bmain) fun bm ob b1 b2 b3 b4 b5 b6=> ?_
 have CZ:JO (Sx PySem.Challenge.rw_tv0047_01.row.prog w dR.heap dR.os) w.params:={
  X:=GK
  lim:=TR.nolimit
  G:=Gu GK TR (ZO w.params)
  D:=⟨mg,TR.g,bm,ob,b1,b2,b3,b4,b5,b6⟩
  tabs:=rfl
  pins:=rfl
  GQ:=Gu GK TR (Vj w.params)
  GZ:=Gu GK TR (VI w.params)}
 refine Mn CZ (Hz hT9 hwell) (by lia) (Ot hT9 hg) fun s' W' L' r=>⟨⟨.inl ⟨.bool true,.bool true,[],rfl,fun _=>rfl,.bool true,(by first |kernel_rfl |wrow_post |decide),fun _=>⟨.nil,fun a h=>by cases h⟩⟩,r.old,r.os,r.gens⟩,?_,?_,trivial⟩
 ·refine B2 (r.tabs 58 54 _ (.tail _ (.head _))) fun _ _ rr3=> ?_
  obtain⟨ps,_,h2,_⟩:=rr3
  exact⟨ps,h2.2⟩
 ·refine B2 (r.tabs 51 47 _ (.head _)) fun _ _ rr4=> ?_
  obtain⟨ps,_,h2,_⟩:=rr4
  exact⟨ps,h2.2⟩)
end
end
end Mine
theorem PySem.Challenge.cw_tv0047_01_holds : PySem.Challenge.rw_tv0047_01.Holds :=
 Mine.zz
