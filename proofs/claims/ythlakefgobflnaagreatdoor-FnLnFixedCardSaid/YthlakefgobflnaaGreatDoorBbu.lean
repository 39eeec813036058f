/- THE THIN PACKAGE's digits: of a number's words, its text. CONTRACTS: the thin package's digits of a number of the store; whole of a text of digits; ZzLnFixed. -/
import Derived.Test.YthlakefgobflnaaGreatDoorBas
import Derived.Test.YthlakefgobflnaaGreatDoorBbt
import Derived.Test.YthlakefgobflnaaGreatDoorBbq
import Derived.Test.YthlakefgobflnaaGreatDoorBbs
import Derived.Test.YthlakefgobflnaaGreatDoorBai
import Derived.Defers
import Derived.Recover
namespace Go.Proofs.YthlakefgobflnaaGreatDoor.Lm
open Go.RowKit Go.Proofs.YthlakefgobflnaaGreatDoorW.PrintWords Go.Proofs.YthlakefgobflnaaGreatDoorW.PrintMore Go.Proofs.YthlakefgobflnaaGreatDoor.S
set_option linter.unusedVariables false
theorem di_rev(x:List Int)(hL:x.length<9223372036854775807)(d:Nat): ∀(t:Nat) (y:List Int),d=x.length-2*t→2*t≤x.length+1→y.length=x.length→
 (∀p,p<x.length→y.getD p 0=if p<t∨x.length-t≤p then x.getD (x.length-1-p) 0 else x.getD p 0)→
 Ev (fun k=>impl_digits.l5 k y (t:Int) ((x.length:Int)-1-(t:Int))) (strOfNums x.reverse):=by
 induction d using Nat.strongRecOn with
 |_ d ih=>
  intro t y hd ht hy hp;refine Ev.step ?_;simp only[impl_digits.l5];by_cases h:2*t+1<x.length
  ·obtain⟨j,hj⟩: ∃j:Nat,(x.length:Int)-1-(t:Int)=(j:Int):=⟨x.length-1-t,by omega⟩
   have hj':j=x.length-1-t:=by omega
   rw[hj];refine Ev.pos (by omega) (Ev.pos (by omega) (Ev.pos (by omega) (Ev.pos (by omega) (Ev.pos (by omega) ?_))));have e1:wrap64 ((t:Int)+1)=((t+1:Nat):Int):=by rw[w64 (by omega) (by omega)];omega
   have e2:wrap64 ((j:Int)-1)=(x.length:Int)-1-((t+1:Nat):Int):=by rw[w64 (by omega) (by omega)];omega
   rw[e1,e2,Int.toNat_natCast,Int.toNat_natCast];refine ih (x.length-2*(t+1)) (by omega) (t+1) _ rfl (by omega) (by simp[hy]) (fun p hpl=>?_);have r1:rd y (j:Int)=x.getD j 0:=by
    unfold rd;rw[Int.toNat_natCast,hp j (by omega),if_neg (by omega)]
   have r2:rd y (t:Int)=x.getD t 0:=by
    unfold rd;rw[Int.toNat_natCast,hp t (by omega),if_neg (by omega)]
   rw[r1,r2];have hpp:=hp p hpl;rw[List.getD_eq_getElem?_getD,List.getElem?_set,List.getElem?_set];by_cases c1:j=p
   ·subst c1;rw[if_pos rfl,if_pos (by rw[List.length_set];omega),if_pos (by omega)];rw[show x.length-1-j=t by omega];rfl
   ·rw[if_neg c1];by_cases c2:t=p
    ·subst c2;rw[if_pos rfl,if_pos (by omega),if_pos (by omega),show x.length-1-t=j by omega];rfl
    ·rw[if_neg c2,←List.getD_eq_getElem?_getD,hpp];by_cases c3:p<t∨x.length-t≤p
     ·rw[if_pos c3,if_pos (by omega)]
     ·rw[if_neg c3,if_neg (by omega)]
  ·refine Ev.neg (by omega) ?_;have:y=x.reverse:=by
    apply List.ext_getElem (by simp[hy]);intro p h1 h2;have h3:=hp p (by omega);rw[List.getD_eq_getElem?_getD,List.getElem?_eq_getElem h1]at h3;rw[List.getElem_reverse];have h4:y[p]=x.getD (x.length-1-p) 0:=by
     show(some y[p]).getD 0=_;rw[h3];by_cases c3:p<t∨x.length-t≤p
     ·rw[if_pos c3]
     ·rw[if_neg c3,show x.length-1-p=p by omega]
    rw[h4,List.getD_eq_getElem?_getD,List.getElem?_eq_getElem (by omega)];rfl
   rw[this];exact Ev.pure _
theorem di_j6(x:List Int)(h0:0<x.length)(hL:x.length<9223372036854775807):Ev (fun k=>impl_digits.j6 k x) (strOfNums x.reverse):=by
 refine Ev.step ?_;simp only[impl_digits.j6];rw[w64 (by omega) (by omega)];have:=di_rev x hL _ 0 x rfl (by omega) rfl (fun p hp=>by rw[if_neg (by omega)])
 simpa using this
theorem str_app(a b:List Int):strOfNums (a++b)=strOfNums a++strOfNums b:=by
 apply bytes_eq;rw[ByteArray.toList_eq,ByteArray.toList_eq,ByteArray.data_append];unfold strOfNums;simp
theorem di_end(l0:List Int)(b:Bool)(n:Nat)(hb:b=true→n≠0)(hl:b=decide (0<l0.length))(hn:ndig n≤10000):Ev (fun k=>impl_digits.l1 k l0 [] (revDig n)) (text b n):=by
 have hn':(revDig n).length≤10000:=hn;refine Ev.step ?_;simp only[impl_digits.l1];refine Ev.neg (by simp) ?_;by_cases h0:n=0
 ·subst h0;rw[revDig_zero]
  have:b=false:=by cases b with
   |true=>exact absurd rfl (hb rfl)
   |false=>rfl
  subst this;exact Ev.pos rfl (Ev.pure _)
 ·have hp:0<(revDig n).length:=by rw[revDig_pos h0];simp
  refine Ev.neg (by omega) ?_;have hd:decimal n=strOfNums (revDig n).reverse:=by unfold decimal;rw[if_neg h0]
  cases b with
  |true=>
   have h1:0<l0.length:=by simpa using hl
   have h:=di_j6 (revDig n++ [45]) (by rw[List.length_append];omega) (by rw[List.length_append];simp;omega);rw[List.reverse_append,str_app]at h;have ht:text true n=(⟨#[45]⟩:ByteArray)++decimal n:=if_pos rfl;rw[ht,hd];exact Ev.pos h1 (Ev.pos (by omega) h)
  |false=>
   have h1: ¬0<l0.length:=by simpa using hl
   have ht:text false n=decimal n:=if_neg (by simp);rw[ht,hd];exact Ev.neg h1 (di_j6 (revDig n) hp (by omega))
theorem digit_u(x:Nat)(hx:x<1000000000):(IntKind.u64.wrap (48+(Int.tmod (x:Int) 10)))%256=((48+x%10:Nat):Int):=by
 rw[Int.tmod_eq_emod_of_nonneg (by omega),wu64 (by omega) (by omega)];omega
theorem digit_d(x:Nat)(hx:x<1000000000):IntKind.u64.wrap (Int.tdiv (x:Int) 10)=((x/10:Nat):Int):=by
 rw[Int.tdiv_eq_ediv_of_nonneg (by omega),wu64 (by omega) (by omega)];omega
theorem di_l4(l0:List Int)(s:ByteArray)(n i:Nat)(hn:ndig n≤10000)(a:List Int)(ha:a=L32.lim (n/1000000000^(i+1)))
 (K:Ev (fun k=>impl_digits.l1 k l0 a ((revDig n).take (9*(i+1)))) s) (d:Nat):
 ∀q x,q+d=9→x=n/1000000000^i%1000000000/10^q→Ev (fun k=>impl_digits.l4 k l0 a ((revDig n).take (9*i+q)) (x:Int) (q:Int)) s:=by
 have hn':(revDig n).length≤10000:=hn;have hz:(a.length:Int)>0↔n/1000000000^(i+1)≠0:=by
  have:=L32.len_zero (n:=n/1000000000^(i+1));rw[←ha]at this;omega
 induction d with
 |zero=>
  intro q x hq hx;obtain rfl:q=9:=hq;refine Ev.step ?_;simp only[impl_digits.l4];exact Ev.neg (by omega) K
 |succ d ih=>
  intro q x hq hx;have e9:(1000000000:Nat)=10^q*10^(d+1):=by rw[←Nat.pow_add,show q+(d+1)=9 by omega]
  have hd:n/10^(9*i+q)=n/1000000000^i/10^q:=by
   rw[Nat.pow_add,←Nat.div_div_eq_div_mul,Nat.pow_mul]
  have hx10:x%10=n/10^(9*i+q)%10:=by
   rw[hd,hx];rw[show n/1000000000^i%1000000000=n/1000000000^i%(10^q*10^(d+1)) by rw[←e9],Nat.mod_mul_right_div_self,Nat.pow_succ,Nat.mul_comm (10^d),Nat.mod_mul_right_mod]
  have hxs:x<1000000000:=by
   rw[hx];exact Nat.lt_of_le_of_lt (Nat.div_le_self _ _) (Nat.mod_lt _ (by omega))
  have hol:((revDig n).take (9*i+q)).length<140737488355328:=Nat.lt_of_le_of_lt (Nat.le_trans (List.length_take_le' _ _) hn') (by omega);have hz1:n/10^(9*i+q)≠0↔9*i+q<(revDig n).length:=(revDig_len n (9*i+q)).symm;have go:n/10^(9*i+q)≠0→Ev (fun k=>impl_digits.l4 k l0 a ((revDig n).take (9*i+q)++ [(IntKind.u64.wrap (48+(Int.tmod (x:Int) 10)))%256]) (IntKind.u64.wrap (Int.tdiv (x:Int) 10)) (wrap64 ((q:Int)+1))) s:=by
   intro hne;have hlt:=hz1.1 hne;have h:=ih (q+1) (x/10) (by omega) (by rw[hx,Nat.div_div_eq_div_mul,Nat.pow_succ]);have g:=revDig_get n _ hlt;rw[List.getD_eq_getElem?_getD,List.getElem?_eq_getElem hlt,Option.getD_some]at g;rw[show 9*i+(q+1)=9*i+q+1 by omega,List.take_succ_eq_append_getElem hlt,g,←hx10]at h;rw[digit_u x hxs,digit_d x hxs,w64s q (by omega)];exact h
  refine Ev.step ?_;simp only[impl_digits.l4];refine Ev.pos (by omega) ?_;by_cases hx0:x=0
  ·refine Ev.pos (by omega) ?_;by_cases ha0:n/1000000000^(i+1)=0
   ·refine Ev.neg (fun h=>hz.1 h ha0) ?_;have hall:(revDig n).length≤9*i+q:=by
     rcases Nat.lt_or_ge (9*i+q) (revDig n).length with h|h
     ·have h5:=hz1.2 h;rw[hd]at h5;rw[pow_succ_div]at ha0;have h6:n/1000000000^i<1000000000:=by
       rcases Nat.lt_or_ge (n/1000000000^i) 1000000000 with h7|h7
       ·exact h7
       ·have:=Nat.div_pos h7 (by omega);omega
      rw[Nat.mod_eq_of_lt h6]at hx;omega
     ·exact h
    rw[List.take_of_length_le hall,←List.take_of_length_le (l:=revDig n) (i:=9*(i+1)) (by omega)];exact K
   ·refine Ev.pos (hz.2 ha0) (Ev.pos hol (go ?_));rw[hd];intro h0;apply ha0;rw[pow_succ_div,show n/1000000000^i/1000000000=n/1000000000^i/(10^q*10^(d+1)) by rw[←e9],←Nat.div_div_eq_div_mul,h0,Nat.zero_div]
  ·refine Ev.neg (by omega) (Ev.pos hol (go ?_));rw[hd];intro h0;have h4:=Nat.div_le_div_right (c:=10^q) (Nat.mod_le (n/1000000000^i) 1000000000);omega
theorem di_l3(l0 out:List Int)(x:Int)(s:ByteArray)(m:Nat)(K:Ev (fun k=>impl_digits.j4 k l0 (L32.lim m) out x) s)(d:Nat):
 ∀a:List Int,a.length=d→d≤100000→L32.Ok a→L32.val a=m→Ev (fun k=>impl_digits.l3 k l0 a out x) s:=by
 induction d with
 |zero=>
  intro a ha hd hok hv;obtain rfl:a= []:=List.length_eq_zero_iff.1 ha;refine Ev.step ?_;simp only[impl_digits.l3];have:m=0:=hv.symm;rw[this,L32.lim_zero]at K;exact Ev.neg (by simp) K
 |succ d ih=>
  intro a ha hd hok hv;refine Ev.step ?_;simp only[impl_digits.l3];rw[ha,show wrap64 (((d+1:Nat):Int)-1)=(d:Int) by rw[w64 (by omega) (by omega)];omega,rd_nat];refine Ev.pos (by omega) (Ev.pos (by omega) (Ev.pos (by omega) ?_));have hsp:=L32.val_split a d;have hdr:L32.val (a.drop d)=(a.getD d 0).toNat:=by
   rw[L32.val_drop (by omega),L32.val_drop_nil (by omega)];rfl
  rw[hdr]at hsp;by_cases h0:a.getD d 0=0
  ·refine Ev.pos h0 (Ev.pos (by omega) ?_);rw[Int.toNat_natCast];rw[h0,Int.toNat_zero,Nat.mul_zero,Nat.add_zero]at hsp;exact ih (a.take d) (by rw[List.length_take];omega) (by omega) (fun y hy=>hok y (List.mem_of_mem_take hy)) (by rw[←hsp];exact hv)
  ·refine Ev.neg h0 ?_;have:=L32.lim_val hok (fun y hy=>by
    rw[List.getLast?_eq_getElem?,ha,Nat.add_sub_cancel]at hy;rw[List.getD_eq_getElem?_getD,hy]at h0;exact h0)
   rw[this,hv];exact K
theorem or_word(r w:Nat)(hr:r<1000000000)(hw:w<4294967296):Go.bits .or .u64 (IntKind.u64.wrap ((r:Int)*4294967296)) (w:Int)=((w+4294967296*r:Nat):Int):=by
 rw[u64_32 r (by omega)];exact or_w' w r hw (by omega)
theorem di_step(H w q r:Nat)(hH:1000000000*q+r=H)(hr:r<1000000000):(w+4294967296*H)/1000000000=(w+4294967296*r)/1000000000+4294967296*q∧(w+4294967296*H)%1000000000=(w+4294967296*r)%1000000000:=by
 subst hH;omega
theorem val_set0(l:List Int)(v:Int)(j:Nat):j<l.length→L32.val ((l.set j v).drop j)=v.toNat+4294967296*L32.val (l.drop (j+1)):=by
 intro h;rw[List.drop_eq_getElem_cons (by rw[List.length_set];exact h),List.getElem_set_self,List.drop_set_of_lt (Nat.lt_succ_self j)];rfl
theorem di_l2(l0 out:List Int)(s:ByteArray)(a:List Int)(hok:L32.Ok a)(hl:a.length≤100000)
 (K: ∀c:List Int,c.length=a.length→L32.Ok c→L32.val c=L32.val a/1000000000→Ev (fun k=>impl_digits.l3 k l0 c out ((L32.val a%1000000000:Nat):Int)) s) (d:Nat):
 ∀c:List Int,d≤a.length→c.length=a.length→L32.Ok c→c.take d=a.take d→L32.val (c.drop d)=L32.val (a.drop d)/1000000000→
  Ev (fun k=>impl_digits.l2 k l0 c out ((L32.val (a.drop d)%1000000000:Nat):Int) ((d:Int)-1)) s:=by
 induction d with
 |zero=>
  intro c hd hc hokc ht hv;refine Ev.step ?_;simp only[impl_digits.l2];rw[List.drop_zero,List.drop_zero]at hv;have h:=K c hc hokc hv;rw[List.drop_zero];exact Ev.neg (by omega) h
 |succ d ih=>
  intro c hd hc hokc ht hv;have hcd:c.getD d 0=a.getD d 0:=by
   rw[List.getD_eq_getElem?_getD,List.getD_eq_getElem?_getD];have h1:(c.take (d+1))[d]?=c[d]?:=List.getElem?_take_of_lt (Nat.lt_succ_self d);have h2:(a.take (d+1))[d]?=a[d]?:=List.getElem?_take_of_lt (Nat.lt_succ_self d);rw[←h1,←h2,ht]
  have hag:=L32.ok_get hok d;obtain⟨w,hw⟩: ∃w:Nat,a.getD d 0=(w:Int):=⟨(a.getD d 0).toNat,by omega⟩
  have hwl:w<4294967296:=by omega
  have hva:=L32.val_drop (l:=a) (i:=d) (by omega);rw[hw,Int.toNat_natCast]at hva;rw[hw]at hcd;obtain⟨H,hH⟩: ∃H,L32.val (a.drop (d+1))=H:=⟨_,rfl⟩
  rw[hH]at hva hv⊢;obtain⟨hs1,hs2⟩:=di_step H w (H/1000000000) (H%1000000000) (Nat.div_add_mod H 1000000000) (Nat.mod_lt _ (by omega));have hr:H%1000000000<1000000000:=Nat.mod_lt _ (by omega);refine Ev.step ?_;simp only[impl_digits.l2];rw[show(((d+1:Nat):Int)-1)=(d:Int) by omega,rd_nat,hcd,or_word _ w hr hwl];have hq:(w+4294967296*(H%1000000000))/1000000000<4294967296:=by clear ih K hs1 hs2 hva hv;omega
  rw[show IntKind.u64.wrap (Int.tdiv ((w+4294967296*(H%1000000000):Nat):Int) 1000000000)=(((w+4294967296*(H%1000000000))/1000000000:Nat):Int) by
   generalize w+4294967296*(H%1000000000)=y at hq⊢;rw[Int.tdiv_eq_ediv_of_nonneg (by omega),wu64 (by omega) (by omega)];omega,
   show Int.tmod ((w+4294967296*(H%1000000000):Nat):Int) 1000000000=(((w+4294967296*(H%1000000000))%1000000000:Nat):Int) by
    generalize w+4294967296*(H%1000000000)=y at hq⊢;rw[Int.tmod_eq_emod_of_nonneg (by omega)];omega,←hs2,←hva,w64 (by omega) (by omega),Int.toNat_natCast]
  refine Ev.pos (by omega) (Ev.pos (by omega) (Ev.pos (by omega) (ih _ (by omega) (by rw[List.length_set];exact hc) (L32.ok_set hokc d (by omega) (by omega)) ?_ ?_)))
  ·rw[List.take_set_of_le (Nat.le_refl d)];have h1:=congrArg (List.take d) ht;rw[List.take_take,List.take_take,Nat.min_eq_left (Nat.le_succ d)]at h1;exact h1
  ·rw[val_set0 _ _ _ (by omega),hv,Int.toNat_natCast,hva,hs1]
theorem di_l1(l0:List Int)(b:Bool)(n:Nat)(hb:b=true→n≠0)(hl:b=decide (0<l0.length))(hn:ndig n≤10000)(m:Nat): ∀(i:Nat) (a:List Int),m=n/1000000000^i→L32.Ok a→L32.val a=m→a.length≤100000→(0<a.length→m≠0)→
 Ev (fun k=>impl_digits.l1 k l0 a ((revDig n).take (9*i))) (text b n):=by
 induction m using Nat.strongRecOn with
 |_ m ih=>
  intro i a hm hok hv ha h0;by_cases hz:0<a.length
  ·have hm0:=h0 hz;have hlt:m/1000000000<m:=Nat.div_lt_self (by omega) (by omega);have K:=ih (m/1000000000) hlt (i+1) (L32.lim (m/1000000000)) (by rw[hm,pow_succ_div]) (L32.ok_lim _) (L32.val_lim _);refine Ev.step ?_;simp only[impl_digits.l1];refine Ev.pos (by omega) ?_;rw[w64 (by omega) (by omega)];have hlen:(L32.lim (m/1000000000)).length≤100000:=by
    refine Nat.le_trans (L32.len_le (m:=a.length) ?_) ha;have:=L32.val_lt hok;rw[hv]at this;omega
   have hK:=K hlen (fun h=>by
    have:=L32.len_zero (n:=m/1000000000);omega)
   have h:=di_l2 l0 ((revDig n).take (9*i)) (text b n) a hok ha (fun c hc hokc hvc=>by
    refine di_l3 l0 _ _ _ (m/1000000000) ?_ c.length c rfl (by omega) hokc (by rw[hvc,hv]);refine Ev.step ?_;simp only[impl_digits.j4];have h4:=di_l4 l0 (text b n) n i hn (L32.lim (m/1000000000)) (by rw[hm,pow_succ_div]) hK 9 0 (m%1000000000) (Nat.zero_add _) (by rw[hm,Nat.pow_zero,Nat.div_one]);rw[hv];exact h4) a.length a (Nat.le_refl _) rfl hok rfl (by rw[List.drop_length];rfl)
   rw[List.drop_length,show((L32.val []%1000000000:Nat):Int)=0 from rfl]at h;exact h
  ·have ha0:a= []:=List.length_eq_zero_iff.1 (by omega);subst ha0;have hm1:m=0:=hv.symm;have hall:(revDig n).length≤9*i:=by
    rcases Nat.lt_or_ge (9*i) (revDig n).length with h|h
    ·have:=(revDig_len n (9*i)).1 h;rw[Nat.pow_mul]at this;exact absurd (hm.symm.trans hm1) this
    ·exact h
   rw[List.take_of_length_le hall];exact di_end l0 b n hb hl hn
theorem halves(t:Nat):t%4294967296+4294967296*(t/4294967296)=t:=Nat.mod_add_div t 4294967296
theorem digits_some(l0:List Int)(b:Bool)(n:Nat)(hb:b=true→n≠0)(hl:b=decide (0<l0.length))(hn:ndig n≤10000)(hL:(L64.lim n).length≤1000):Ev (fun k=>impl_digits.f k l0 (L64.lim n)) (text b n):=by
 obtain⟨L,hLL⟩: ∃L,(L64.lim n).length=L:=⟨_,rfl⟩
 have loop: ∀d i (a:List Int),i+d=L→L32.Ok a→a.length=2*i→L32.val a=n%18446744073709551616^i→Ev (fun k=>impl_digits.l0 k l0 a (L64.lim n) (L:Int) (i:Int)) (text b n):=by
  intro d;induction d with
  |zero=>
   intro i a hi hok ha hv;obtain rfl:i=L:=hi;refine Ev.step ?_;simp only[impl_digits.l0];have hlt:n<18446744073709551616^i:=L64.lt_of_len (by omega);rw[Nat.mod_eq_of_lt hlt]at hv;have h:=di_l1 l0 b n hb hl hn n 0 a (by rw[Nat.pow_zero,Nat.div_one]) hok hv (by omega) (fun h h0=>by
    have:=L64.len_zero (n:=n);omega)
   exact Ev.neg (by omega) h
  |succ d ih=>
   intro i a hi hok ha hv;have ht:n/18446744073709551616^i%18446744073709551616<18446744073709551616:=Nat.mod_lt _ (by omega);have hps:=Nat.mod_pow_succ (b:=18446744073709551616) (k:=i) (x:=n);refine Ev.step ?_;simp only[impl_digits.l0];rw[L64.rd_lim];generalize n/18446744073709551616^i%18446744073709551616=t at ht hps⊢
   have h:=ih (i+1) (a++ [((t%4294967296:Nat):Int),((t/4294967296:Nat):Int)]) (by omega)
    (L32.ok_append hok (fun x hx=>by
     rcases List.mem_cons.1 hx with rfl|hx
     ·omega
     ·rcases List.mem_cons.1 hx with rfl|hx
      ·omega
      ·cases hx)) (by rw[List.length_append];simp;omega)
    (by
     rw[L32.val_append,hv,ha,hps,Nat.pow_mul];show _+_*((t%4294967296:Nat)+4294967296*((t/4294967296:Nat)+4294967296*0))=_;rw[Nat.mul_zero,Nat.add_zero,halves])
   rw[and32 t ht,show(t:Int)/4294967296=((t/4294967296:Nat):Int) by omega,w64s i (by omega)];exact Ev.pos (by omega) (Ev.pos (by omega) (Ev.pos (by omega) (Ev.pos (by simp;omega) h)))
 have h:=loop L 0 [] (Nat.zero_add _) L32.ok_nil rfl (by rw[Nat.pow_zero,Nat.mod_one];rfl);exact Ev.congr h (fun k=>by unfold impl_digits.f;rw[hLL];rfl)
end Go.Proofs.YthlakefgobflnaaGreatDoor.Lm
namespace Go.Proofs.YthlakefgobflnaaGreatDoor.G
open Go.RowKit Go.Proofs.YthlakefgobflnaaGreatDoorW.PrintWords Go.Proofs.YthlakefgobflnaaGreatDoorW.PrintLast Go.Proofs.YthlakefgobflnaaGreatDoorW.PrintMore Go.Proofs.YthlakefgobflnaaGreatDoor.S
set_option linter.unusedVariables false
set_option linter.unusedSimpArgs false
theorem intAt_of{base h:Nat}{n:Int}{s:Nat→Option Int}{w:World}(hS:St base w s)(hz:s h=some n):IntAt w base h (decide (n<0)) (L64.lim n.natAbs):=by
 obtain⟨_,own,hO⟩:=hS;obtain⟨h1,h2,v,r,hB,hR,hr⟩:=hO h n hz;rcases hR with⟨rfl,rfl,hl⟩|⟨g,L,rfl,hA,hl,hL,ho,rfl⟩
 ·rw[hl];exact⟨none,0,hB,Kd.V_nil _ _ _ _ _⟩
 ·refine⟨some ⟨g,0,none⟩,L.length,hB,Kd.R_V (R_row .u64 81 0 g L.length (u64s L).toArray (L64.lim n.natAbs) w (fun k=>k≠h∧base≤k) hA (Nat.zero_le _) (Row.le (g:=g) hl) ?_ (by simp) ?_ ⟨?_,(hr g rfl).2⟩)⟩
  ·have:maxLen=9223372036854775807:=rfl;omega
  ·show(u64s L).take _=u64s _;rw[←List.map_take,←hl]
  ·intro e;subst e;have hA':w.heap[g]?=some (.cells (u64s L).toArray 81 (0,0)):=hA;rw[hB]at hA';injection hA' with e1;injection e1 with e2 e3;exact absurd e3 (by decide)
theorem digits_is(base h:Nat)(n:Int)(s:Nat→Option Int)(w:World)(hS:St base w s)(hz:s h=some n)(hn:Lm.ndig n.natAbs≤10000)(hL:(L64.lim n.natAbs).length≤1000):
 Calls Tryz.prog 20 #[.pointer (some ⟨h,0,none⟩)] w fun e w'=>e= .returned (.string (Lm.text (decide (n<0)) n.natAbs))∧Below w.heap.size w w':=by
 have hb:decide (n<0)=true→n.natAbs≠0:=fun h=>by have:=of_decide_eq_true h;omega
 have hl:decide (n<0)=decide (0<(if n<0 then([0]:List Int)else []).length):=by
  by_cases c:n<0
  ·rw[if_pos c,decide_eq_true c];rfl
  ·rw[if_neg c,decide_eq_false c];rfl
 obtain⟨k,hk⟩:=(Lm.digits_some (if n<0 then [0]else []) (decide (n<0)) n.natAbs hb hl hn hL).ex;refine impl_digits.calls k base h (decide (n<0)) _ (L64.lim n.natAbs) _ w (intAt_of hS hz) ?_ hk;rw[←hl];unfold sgnI;by_cases c:n<0
 ·rw[decide_eq_true c,if_neg (by have:=L64.len_zero (n:=n.natAbs);omega),if_pos rfl];rfl
 ·rw[decide_eq_false c]
  split
  ·rfl
  ·rw[if_neg (by simp)];rfl
theorem whole_is(n:Nat)(w:World)(hn:Lm.ndig n≤400):
 Calls Tryz.prog 15 #[.string (Lm.decimal n)] w fun e w'=>∃g v r,e= .returned (.tuple #[.pointer (some ⟨g,0,none⟩),.bool true])∧w.heap.size≤g∧w'.heap[g]?=some (.cells #[.bool false,v] 55 (0,0))∧Opd w' v r (L64.lim n)∧(∀k,r=some k→w.heap.size≤k)∧Below w.heap.size w w':=by
 obtain⟨x,ho,hv,hl,hf⟩:=Lm.whole_some false n (fun h=>by cases h) hn;obtain⟨k,hk⟩:=hf.ex;have:=impl_whole.callsO k (Lm.decimal n) x w hk ho (by omega);rw[hv]at this;exact this
theorem ndig_b{n K:Nat}(h:n≤2^K)(hK:K≤250):Lm.ndig n≤250:=by
 refine Lm.ndig_le.2 (Nat.lt_of_le_of_lt h ?_);exact Nat.lt_of_le_of_lt (Nat.pow_le_pow_right (by omega) hK) (Nat.pow_lt_pow_left (by omega) (by omega))
set_option maxRecDepth 100000 in
theorem idle_ln(p q r:Addr)(w:World):
 CallsD Tryz.prog 14 #[.pointer (some p),.pointer (some q),.pointer (some r)] .returning w fun e u' w'=>e= .returned (.tuple #[])∧u'= .returning∧w'=w:=by
 refine callsD_of_wpS Tryz.func14 rfl fun c₀ cs hu=>?_
 apply wpS_seq;apply wpS_region;simp[wpOpsS,go_sem,recoverD,hu,Tryz.ntmps14,Exit.thenS];refine wpS_cond (t:=false) (by simp[Act.eval,Array.replicate]) ?_;simp only[Bool.false_eq_true,if_false];refine wpS_of_wp (wp_skip ?_);cases c₀
 simp_all[bodyPostS,results,Tryz.results14]
def LnOk(m b:Nat)(R:Int)(k:Nat):Prop:=An.UB ((((R:Int):Rat)+2*(k:Rat)+11)/((2^b:Nat):Rat)) ((m:Rat)/((2^b:Nat):Rat))∧An.UB ((-((R:Int):Rat)+2*(k:Rat)+5)/((2^b:Nat):Rat)) (((2^b:Nat):Rat)/(m:Rat))∧k≤300∧R.natAbs≤302*2^b
theorem lnFixed_ok(base x b m:Nat)(w:World)(s:Nat→Option Int)(hS:St base w s)(hx:Arg base w s x (m:Int))(ht:Thr w)(h3:3<base)(hb:20≤b)(hb2:b≤200)(h1:2^b≤m)(h2:m<2*2^b):
 Calls Tryz.prog 40 #[.pointer (some ⟨x,0,none⟩),.int .u64 (b:Int)] w fun e w'=>∃h s' k R,e= .returned (.tuple #[.pointer (some ⟨h,0,none⟩),.int .i64 ((2*(k+1)+23:Nat):Int)])∧St base w' s'∧s' h=some R∧LnOk m b R k∧Below base w w':=by
 obtain⟨a,g,j,n,hE,ha,l1,l2,hc⟩:=lnFixed_is base x b m w s hS hx ht h3 hb hb2 h1 h2;have hf:=An.ln_facts m a b g j n hb h1 h2 hE.1 hE.2.1 hE.2.2.1 ha l1 l2 hE.2.2.2.1;have hz:=ab_half _ _ hf.1;refine hc.mono ?_;rintro e w' ⟨h,s',k,rfl,hS',hk0,hv,hk,hb'⟩;obtain⟨f1,f2⟩:=hf.2 k hk0;refine⟨h,s',k,_,rfl,hS',hv,⟨f1,f2,hk,?_⟩,hb'⟩;have g1:=lns_le _ b (by omega) hz k;have g2:=ab_nat _ _ ha;have g3:(k+1)*2^b≤301*2^b:=Nat.mul_le_mul_right _ (by omega);omega
set_option maxRecDepth 100000 in
theorem zzLn_is(base x b m:Nat)(w:World)(s:Nat→Option Int)(hS:St base w s)(hx:Arg base w s x (m:Int))(ht:Thr w)(h3:3<base)(hb:20≤b)(hb2:b≤200)(h1:2^b≤m)(h2:m<2*2^b):
 Calls Tryz.prog 19 #[.pointer (some ⟨x,0,none⟩),.int .u64 (b:Int)] w fun e w'=>∃h s' k R,e= .returned (.tuple #[.pointer (some ⟨h,0,none⟩),.int .i64 ((2*(k+1)+23:Nat):Int)])∧St base w' s'∧s' h=some R∧LnOk m b R k∧Below base w w':=by
 have HQ:=ak (lnFixed_ok base x b m w s hS hx ht h3 hb hb2 h1 h2);clear hS hx ht h3 hb hb2 h1 h2
 go_enter Tryz.func19,Tryz.ntmps19
 go_wp2_with fail
 refine HQ.out.mono ?_;rintro e w' ⟨h,s',k,R,rfl,hS,hv,hk,hb⟩;obtain⟨off,hoff⟩: ∃off,((2*(k+1)+23:Nat):Int)=off:=⟨_,rfl⟩
 have HF:=ak (And.intro hS (And.intro hv (And.intro hk (And.intro hb hoff))));rw[hoff];clear hS hv hk hb hoff HQ
 go_wp2_with fail
 go_ret2
 exact⟨h,s',k,R,congrArg (fun q=>Ending.returned (.tuple #[.pointer (some ⟨h,0,none⟩),.int .i64 q])) HF.out.2.2.2.2.symm,HF.out.1,HF.out.2.1,HF.out.2.2.1,HF.out.2.2.2.1⟩
set_option maxRecDepth 100000 in
set_option maxHeartbeats 4000000 in
theorem implLn_is(m b:Nat)(w:World)(ht:Thr w)(hw3:3<w.heap.size)(hb:20≤b)(hb2:b≤200)(h1:2^b≤m)(h2:m<2*2^b)(hnd:Lm.ndig m≤400):
 Calls Tryz.prog 6 #[.string (Lm.decimal m),.int .i64 (b:Int)] w fun e w'=>∃(R:Int) (k:Nat),e= .returned (.tuple #[.string (Lm.text (decide (R<0)) R.natAbs),.int .i64 ((2*(k+1)+23:Nat):Int),.int .i64 0])∧LnOk m b R k∧Below w.heap.size w w':=by
 have hmf: ∀(fn:Fn) (first cap:Array Value) (w:World),(Instr.makeFunc fn first cap).run Tryz.prog w= .ok (.func fn first cap) w:=fun _ _ _ _=>rfl
 have HT:=ak ht;have HD:=ak (And.intro hw3 (And.intro hb (And.intro hb2 (And.intro h1 h2))));have HWh:=ak (fun w0=>whole_is m w0 hnd);clear ht hw3 hb hb2 h1 h2 hnd
 go_enter_defers Tryz.func6,Tryz.ntmps6
 go_wp2_with fail
 generalize hW:((w.alloc _).alloc _).alloc _=W;obtain⟨k0,k1,k2,k3,-⟩:=R.alloc3 hW;have B0:=ak k0;have B1:=ak k1;have B2:=ak k2;have HB:=ak k3;clear hW k0 k1 k2 k3;refine(HWh.out W).mono ?_;rintro e w5 ⟨g,v,r,rfl,-,hG,hO,-,hb⟩;have HB5:=ak (below_step HB.out hb);have k0:=blk_below B0.out hb;have k1:=blk_below B1.out hb;have k2:=blk_below B2.out hb;clear B0 B1 B2;have B0:=ak k0;have B1:=ak k1;have B2:=ak k2;clear k0 k1 k2;clear hb HB HWh;have HT5:=ak (Thr.base HT.out HB5.out HD.out.1);have HArg:=ak (fun(s:Nat→Option Int) (w':World) (hb:Below w5.heap.size w5 w')=>show Arg w5.heap.size w' s g (m:Int)from .inr ⟨blk_lt hG,v,r,by rw[decide_eq_false (show¬((m:Int)<0) by omega)];exact blk_below hG hb,by rw[Int.natAbs_natCast];exact hO.below hb,fun k hk=>by subst hk;exact hO.lt⟩);have HLt:=ak (And.intro (blk_lt B0.out) (And.intro (blk_lt B1.out) (blk_lt B2.out)));have HG:=ak (blk_lt hG);have HS5:=ak (show St w5.heap.size w5 (fun _=>none)from⟨Nat.le_refl _,fun _=>0,fun h n hn=>by cases hn⟩);have HB5':=ak (Below.refl w5.heap.size w5);have HBs:=ak (show 3<w5.heap.size by have:=HD.out;have:=HB5.out.size;omega);have HLm:=ak (show(L64.lim m).length≤900 from Nat.le_trans (lenc (K:=b+1) (q:=4) (by rw[Nat.pow_succ];have:=HD.out;omega) (by have:=HD.out;omega)) (by omega));have c1:decide ((b:Int)<1)=false:=decide_eq_false (by have:=HD.out;omega);have c2:decide ((b:Int)>400)=false:=decide_eq_false (by have:=HD.out;omega);have hu:IntKind.u64.wrap (b:Int)=(b:Int):=wrap_eq rfl (by have:=HD.out;omega);have HU:=ak hu;clear hG hO hu;obtain⟨base,hbase⟩: ∃base,w5.heap.size=base:=⟨_,rfl⟩
 have HBase:=ak hbase;rw[hbase]at HArg HLt HG HS5 HB5' HBs;clear hbase
 go_wp2_with fail
 clear c1 c2;have HN:=ak HS5.out.new';obtain⟨w6,hw6⟩: ∃w6,w5.alloc (.cells #[.bool false,.slice none 0 0] 55)=w6:=⟨_,rfl⟩
 rw[hw6]at HN⊢;rw[HBase.out]at HN⊢;clear hw6;refine(newInt_is base 1 _ w6 HN.out.1 (by omega) (by omega)).mono ?_;rintro e w7 ⟨h2,rfl,hh2,hS7,hb7⟩;have hne:=Nat.lt_of_lt_of_le (HN.out.1.lt (upd_self _ _ _)) hh2;have HNe:=ak hne;have HS7:=ak hS7;have HB7:=ak (belowJoin HN.out.2 hb7);clear hh2 hS7 hb7 hne HN;have hu:=HU.out
 go_wp2_with fail
 clear hu;refine(intLsh_new base base h2 b 0 _ w7 HS7.out (by rw[upd_ne _ _ (Nat.ne_of_lt HNe.out)];exact upd_self _ _ _) 1 (.inl (upd_self _ _ _)) (Nat.ne_of_gt HNe.out) (Nat.le_trans (lenb (K:=1) (q:=1) (by decide) (by omega)) (by omega)) (.inl (by have:=HD.out;omega)) (by have:=HD.out;omega)).mono ?_;rintro e w8 ⟨rfl,hS8,hb8⟩;have HV8:=ak (upd_self (upd (upd (fun _=>none) base 0) h2 1) base (1*2^b));have HS8:=ak hS8;have HB8:=ak (belowJoin HB7.out hb8);clear hS8 hb8 HS7 HB7 HNe;generalize upd (upd (upd (fun _=>none) base 0) h2 1) base (1*2^b)=s8 at*
 go_wp2_with fail
 refine(intCmp_is base g base m (2^b) s8 w8 HS8.out (HArg.out _ _ HB8.out) (.inl (by rw[HV8.out,Int.one_mul,pow_cast])) (Nat.ne_of_lt HG.out) HLm.out).mono ?_;rintro e w9 ⟨rfl,hb9⟩;have hd:decide (cmpN m (2^b)<0)=false:=decide_eq_false (by unfold cmpN;have:=HD.out;rw[if_neg (by omega)];split<;>omega);have HS9:=ak (HS8.out.below hb9);have HB9:=ak (belowJoin HB8.out (belowOfSize hb9 HS8.out.1));clear hb9 HS8 HB8 HV8
 go_wp2_with fail
 clear hd;have HN:=ak HS9.out.new';have hfr:=HS9.out.1;obtain⟨h3,hh3⟩: ∃h3,w9.heap.size=h3:=⟨_,rfl⟩
 obtain⟨w6,hw6⟩: ∃w6,w9.alloc (.cells #[.bool false,.slice none 0 0] 55)=w6:=⟨_,rfl⟩
 rw[hh3,hw6]at HN⊢;rw[hh3]at hfr;have HH:=ak hfr;clear hw6 hh3 hfr;refine(newInt_is base 10 _ w6 HN.out.1 (by omega) (by omega)).mono ?_;rintro e w7 ⟨h2,rfl,hh2,hS7,hb7⟩;have hne:=Nat.lt_of_lt_of_le (HN.out.1.lt (upd_self _ _ _)) hh2;have HNe:=ak hne;have HS7:=ak hS7;have HB7:=ak (belowJoin (belowJoin HB9.out HN.out.2) hb7);clear hh2 hS7 hb7 hne HN HS9 HB9;have hu:=HU.out
 go_wp2_with fail
 clear hu;refine(intLsh_new base h3 h2 b 0 _ w7 HS7.out (by rw[upd_ne _ _ (Nat.ne_of_lt HNe.out)];exact upd_self _ _ _) 10 (.inl (upd_self _ _ _)) (Nat.ne_of_gt HNe.out) (Nat.le_trans (lenb (K:=4) (q:=1) (by decide) (by omega)) (by omega)) (.inl (by have:=HD.out;omega)) (by have:=HD.out;omega)).mono ?_;rintro e w8 ⟨rfl,hS8,hb8⟩;have HV8:=ak (upd_self (upd (upd s8 h3 0) h2 10) h3 (10*2^b));have HS8:=ak hS8;have HB8:=ak (belowJoin HB7.out hb8);clear hS8 hb8 HS7 HB7 HNe;generalize upd (upd (upd s8 h3 0) h2 10) h3 (10*2^b)=s9 at*
 go_wp2_with fail
 refine(intCmp_is base g h3 m (10*2^b) s9 w8 HS8.out (HArg.out _ _ HB8.out) (.inl (by rw[HV8.out,pow_cast];rfl)) (Nat.ne_of_lt (Nat.lt_of_lt_of_le HG.out HH.out)) HLm.out).mono ?_;rintro e w9 ⟨rfl,hb9⟩;have hd:decide (cmpN m (10*2^b)>0)=false:=decide_eq_false (by unfold cmpN;have:=HD.out;rw[if_pos (by omega)];omega);have HS9:=ak (HS8.out.below hb9);have HB9:=ak (belowJoin HB8.out (belowOfSize hb9 HS8.out.1));clear hb9 HS8 HB8 HV8 HH;have hu:=HU.out
 go_wp2_with fail
 clear hd hu;refine(zzLn_is base g b m w9 s9 HS9.out (HArg.out _ _ HB9.out) (Thr.base HT5.out HB9.out HBs.out) HBs.out HD.out.2.1 HD.out.2.2.1 HD.out.2.2.2.1 HD.out.2.2.2.2).mono ?_;rintro e w10 ⟨h,s',k,R,rfl,hS,hv,hk,hb⟩;have HS10:=ak hS;have HV10:=ak hv;have HK:=ak hk;have HB10:=ak (belowJoin HB9.out hb);obtain⟨off,hoff⟩: ∃off,((2*(k+1)+23:Nat):Int)=off:=⟨_,rfl⟩
 have HOff:=ak hoff;rw[hoff];clear hS hv hk hb hoff HS9 HB9
 go_wp2_with fail
 have HRl:=ak (show(L64.lim R.natAbs).length≤8∧Lm.ndig R.natAbs≤250 from⟨lenc (K:=9+b) (Nat.le_trans HK.out.2.2.2 (by rw[Nat.pow_add];exact Nat.mul_le_mul_right _ (by omega))) (by have:=HD.out;omega),ndig_b (Nat.le_trans HK.out.2.2.2 (by rw[Nat.pow_add];exact Nat.mul_le_mul_right _ (by omega))) (show 9+b≤250 by have:=HD.out;omega)⟩);refine(digits_is base h R s' w10 HS10.out HV10.out (Nat.le_trans HRl.out.2 (by omega)) (Nat.le_trans HRl.out.1 (by omega))).mono ?_;rintro e w11 ⟨rfl,hb⟩;have HB11:=ak (belowJoin HB10.out (belowOfSize hb HS10.out.1));clear hb HB10 HS10 HV10;have k0:=(HB11.out.block _ HLt.out.1).trans B0.out;have k1:=(HB11.out.block _ HLt.out.2.1).trans B1.out;have k2:=(HB11.out.block _ HLt.out.2.2).trans B2.out;have HF:=ak (show Below w.heap.size w w11 from belowJoin HB5.out ⟨HB11.out.os,HB11.out.tape,HB11.out.output,HB11.out.size,fun i hi=>HB11.out.block i (by have:=HB5.out.size;have:=HBase.out;omega)⟩);clear B0 B1 B2;have B0:=ak k0;have B1:=ak k1;have B2:=ak k2;clear k0 k1 k2;have c0:=(blk_cell B0.out 0).trans rfl;have zc0:=blk_frozen B0.out 0;have d0:=(blk_cell B1.out 0).trans rfl;have zd0:=blk_frozen B1.out 0;have f0:=(blk_cell B2.out 0).trans rfl;have zf0:=blk_frozen B2.out 0
 go_wp2_with fail
 refine leaves_cons (f:=14) (args:=#[.pointer (some ⟨w.heap.size,0,none⟩),.pointer (some ⟨w.heap.size+1,0,none⟩),.pointer (some ⟨w.heap.size+1+1,0,none⟩)]) (by simp) (by simp[go_sem]) ?_;refine(idle_ln _ _ _ _).mono ?_;rintro e' u' w'' ⟨rfl,rfl,rfl⟩;have HFin:=ak (below_set (j:=0) (v:=.int .i64 0) (below_set (j:=0) (v:=.int .i64 off) (below_set (j:=0) (v:=.string (Lm.text (decide (R<0)) R.natAbs)) HF.out (Nat.le_refl _)) (Nat.le_succ _)) (show w.heap.size≤w.heap.size+1+1 by omega));simp[Leaves,settle,results,Tryz.results6,go_sem,c0,d0,f0];exact⟨R,k,⟨rfl,by have:=HOff.out;omega⟩,HK.out,HFin.out⟩
end Go.Proofs.YthlakefgobflnaaGreatDoor.G
