/- WHAT THE REFERENCE's NUMBERS ANSWER, further: natShort, natGuess, natSub, natDiv. Rows of the table of types, for the walks of the numbers' own functions. WORDS for regions whose order is open, op by op: what each operation asks is settled by its own words' tactics. -/
import Derived.Test.YthlakefgobflnaaGreatDoorBad
import Derived.Test.YthlakefgobflnaaGreatDoorBaf
import Derived.Test.YthlakefgobflnaaGreatDoorBaa
namespace Go.Proofs.YthlakefgobflnaaGreatDoor.Lm
open Go.RowKit Go.Proofs.YthlakefgobflnaaGreatDoorW.PrintWords Go.Proofs.YthlakefgobflnaaGreatDoor.S
set_option linter.unusedVariables false
theorem div_step(a j:Nat):a/1000000000^j=1000000000*(a/1000000000^(j+1))+a/1000000000^j%1000000000:=by
 rw[pow_succ_div];exact(Nat.div_add_mod _ _).symm
theorem short_loop(a b N:Nat)(hb:0<b)(hb2:b≤1000000000)(hN:N=(lim a).length)(hN2:N<9223372036854775807)(i:Nat): ∀(out:List Int) (rest:Nat),i≤N→out.length=N→Ok out→
 rest=a/1000000000^i%b→val out=1000000000^i*(a/1000000000^i/b)→(∀p,p<i→out.getD p 0=0)→
 Ev (fun k=>spec_natShort.l0 k (lim a) (b:Int) out (rest:Int) ((i:Int)-1)) (lim (a/b),((a%b:Nat):Int)):=by
 induction i with
 |zero=>
  intro out rest hi hlen hok hr hv hz;refine Ev.step ?_;simp only[spec_natShort.l0];refine Ev.neg (by omega) ?_;simp only[Nat.pow_zero,Nat.div_one,Nat.one_mul]at hr hv;have hlt:a%b<b:=Nat.mod_lt _ hb;have ht:=natTrim out hok (by omega);rw[hv]at ht;refine Ev.bind ht ?_;rw[hr,show((a%b:Nat):Int)%4294967296=((a%b:Nat):Int) by omega];exact Ev.pure _
 |succ j ih=>
  intro out rest hi hlen hok hr hv hz;refine Ev.step ?_;simp only[spec_natShort.l0];rw[show((j+1:Nat):Int)-1=(j:Int) by omega,rd_lim,Int.toNat_natCast];have hstep:=div_step a j;have hdig:a/1000000000^j%1000000000<1000000000:=Nat.mod_lt _ (by omega);rw[pow_succ_div]at hr hv;rw[pow_succ_div]at hstep;generalize a/1000000000^j=A at*;have hr1:rest<b:=by rw[hr];exact Nat.mod_lt _ hb
  have eb:IntKind.u64.wrap (b:Int)=(b:Int):=wu64 (by omega) (by omega);have hprod:rest*1000000000≤1000000000*1000000000:=Nat.mul_le_mul (by omega) (by omega);have e1:IntKind.u64.wrap ((rest:Int)*1000000000)=((rest*1000000000:Nat):Int):=by rw[wu64 (by omega) (by omega)];omega
  have e2:IntKind.u64.wrap ((A%1000000000:Nat):Int)=((A%1000000000:Nat):Int):=wu64 (by omega) (by omega);rw[eb,e1,e2];obtain⟨t,ht⟩: ∃t,t=rest*1000000000+A%1000000000:=⟨_,rfl⟩
  have e3:IntKind.u64.wrap (((rest*1000000000:Nat):Int)+((A%1000000000:Nat):Int))=(t:Int):=by rw[wu64 (by omega) (by omega)];omega
  rw[e3];have htb:t<b*1000000000:=by
   have:=Nat.mul_le_mul_right 1000000000 (show rest+1≤b by omega);omega
  have hq:t/b<1000000000:=(Nat.div_lt_iff_lt_mul hb).2 (by rw[Nat.mul_comm];exact htb);have hm:t%b<b:=Nat.mod_lt _ hb;have e4:IntKind.u64.wrap (Int.tdiv (t:Int) (b:Int))%4294967296=((t/b:Nat):Int):=by
   rw[Int.tdiv_eq_ediv_of_nonneg (by omega),←Int.natCast_ediv];generalize t/b=q at*;rw[wu64 (by omega) (by omega)];omega
  have e5:Int.tmod (t:Int) (b:Int)=((t%b:Nat):Int):=by rw[Int.tmod_eq_emod_of_nonneg (by omega)];exact(Int.natCast_emod t b).symm
  rw[e4,e5,w64n' j (by omega)];refine Ev.pos (by omega) (Ev.pos (by omega) (Ev.pos (by omega) (Ev.neg (by omega) (Ev.pos (by omega) ?_))));have hqA:A/b=1000000000*(A/1000000000/b)+t/b∧A%b=t%b:=by
   have hd:=Nat.div_add_mod (A/1000000000) b;have eA:A=t+b*(1000000000*(A/1000000000/b)):=by
    have e6:b*(1000000000*(A/1000000000/b))=1000000000*(b*(A/1000000000/b)):=by
     rw[←Nat.mul_assoc,Nat.mul_comm b,Nat.mul_assoc]
    rw[e6];omega
   constructor
   ·conv=>lhs;rw[eA]
    rw[Nat.add_mul_div_left _ _ hb];omega
   ·conv=>lhs;rw[eA]
    rw[Nat.add_mul_mod_self_left]
  refine ih _ (t%b) (by omega) (by rw[List.length_set];exact hlen) (ok_set hok _ (by omega) (by omega)) hqA.2.symm ?_ (fun p hp=>?_)
  ·have hs:=val_set (l:=out) (i:=j) (by omega) hok ((t/b:Nat):Int);rw[hz j (by omega),Int.toNat_zero,Int.toNat_natCast,Nat.mul_zero,Nat.add_zero]at hs;rw[hs,hv,hqA.1,Nat.mul_add,Nat.pow_succ,Nat.mul_assoc]
  ·rw[List.getD_eq_getElem?_getD,List.getElem?_set,if_neg (by omega),←List.getD_eq_getElem?_getD];exact hz p (by omega)
theorem natShort(a b:Nat)(hb:0<b)(hb2:b≤1000000000)(hl:(lim a).length≤70368744177664):Ev (fun k=>spec_natShort.f k (lim a) (b:Int)) (lim (a/b),((a%b:Nat):Int)):=by
 unfold spec_natShort.f;rw[Int.toNat_natCast,w64 (by omega) (by omega)];refine Ev.pos (by omega) (Ev.pos hl ?_);have h0:a/1000000000^(lim a).length=0:=Nat.div_eq_of_lt (lt_of_len (Nat.le_refl _))
 have:=short_loop a b _ hb hb2 rfl (by omega) (lim a).length (List.replicate (lim a).length 0) 0 (Nat.le_refl _) (by rw[List.length_replicate]) (ok_zeros _)
  (by rw[h0,Nat.zero_mod]) (by rw[h0,Nat.zero_div,Nat.mul_zero,val_zeros]) (fun p hp=>by rw[List.getD_eq_getElem?_getD,List.getElem?_replicate];split<;>rfl)
 exact this
theorem natGuess(R Y:Nat)(hY:0<Y)(hR:R<Y*1000000000)(hl:(lim Y).length<70368744177664): ∃g:Nat,spec_natGuess.f (lim R) (lim Y)=some (g:Int)∧R/Y≤g∧g<1000000000:=by
 have hRY:R/Y<1000000000:=(Nat.div_lt_iff_lt_mul hY).2 (by rw[Nat.mul_comm];exact hR);unfold spec_natGuess.f;obtain⟨n,hn⟩: ∃n,(lim Y).length=n+1:=by
  have:(lim Y).length≠0:=fun h=>by
   have:=len_zero (n:=Y);omega
  exact⟨(lim Y).length-1,by omega⟩
 have hYlt:Y<1000000000^(n+1):=lt_of_len (by omega);have hYge:1000000000^n≤Y:=by
  have:=(len_lim Y n).1 (by omega);rcases Nat.lt_or_ge Y (1000000000^n)with h|h
  ·exact absurd (Nat.div_eq_of_lt h) this
  ·exact h
 have hp:0<1000000000^n:=Nat.pow_pos (by omega);have hRlt:R<1000000000^(n+1)*1000000000:=Nat.lt_of_lt_of_le hR (Nat.mul_le_mul_right _ (by omega));have hRlen:(lim R).length≤n+2:=len_le (by rw[Nat.pow_succ];exact hRlt);by_cases h1:(lim R).length<(lim Y).length
 ·rw[if_pos (by omega)];refine⟨0,rfl,?_,by omega⟩;have:R<Y:=lt_of_len_lt h1;rw[Nat.div_eq_of_lt this];exact Nat.le_refl _
 ·rw[if_neg (by omega),hn,w64p n (by omega),rd_lim,rd_lim,rd_lim];have hyt:Y/1000000000^n<1000000000:=(Nat.div_lt_iff_lt_mul hp).2 (by rw[Nat.pow_succ,Nat.mul_comm]at hYlt;exact hYlt);have hyp:0<Y/1000000000^n:=Nat.div_pos hYge hp;have key:R/Y≤R/1000000000^n/(Y/1000000000^n):=by
   rw[Nat.div_div_eq_div_mul];exact Nat.div_le_div_left (Nat.mul_div_le Y _) (Nat.mul_pos hp hyp)
  have ht1:R/1000000000^(n+1)<1000000000:=(Nat.div_lt_iff_lt_mul (Nat.pow_pos (by omega))).2 (by rw[Nat.mul_comm];exact hRlt);have hst:R/1000000000^n=1000000000*(R/1000000000^(n+1))+R/1000000000^n%1000000000:=div_step R n;rw[Nat.mod_eq_of_lt hyt];have hlast: ∀top:Nat,top=R/1000000000^n→∃g:Nat,(if(IntKind.u64.wrap ((Y/1000000000^n:Nat):Int))=0 then none else some (mn (IntKind.u64.wrap (Int.tdiv (top:Int) (IntKind.u64.wrap ((Y/1000000000^n:Nat):Int)))) 999999999))=some (g:Int)∧R/Y≤g∧g<1000000000:=by
   intro top ht;have htop:top<1000000000*1000000000:=by
    have:R/1000000000^n%1000000000<1000000000:=Nat.mod_lt _ (by omega);omega
   rw[←ht]at key;clear hst ht hn hRlen h1 hYlt hYge hp hRlt;generalize Y/1000000000^n=yt at*;generalize R/Y=q at*;rw[wu64 (i:=(yt:Int)) (by omega) (by omega),if_neg (by omega),Int.tdiv_eq_ediv_of_nonneg (by omega),←Int.natCast_ediv];have hle:=Nat.div_le_self top yt;generalize top/yt=g at*;rw[wu64 (by omega) (by omega)];unfold mn;by_cases hg:(g:Int)<999999999
   ·refine⟨g,?_,key,by omega⟩
    congr 1
    split<;>omega
   ·refine⟨999999999,?_,by omega,by omega⟩
    congr 1
    split<;>omega
  rw[if_pos (by omega),if_pos (by omega)];by_cases h2:(lim R).length>n+1
  ·rw[if_pos (by omega),if_pos (by omega),if_pos (by omega),if_pos (by omega)];rw[Nat.mod_eq_of_lt ht1];have hm:R/1000000000^n%1000000000<1000000000:=Nat.mod_lt _ (by omega);have e1:IntKind.u64.wrap ((IntKind.u64.wrap ((R/1000000000^n%1000000000:Nat):Int))+(IntKind.u64.wrap ((IntKind.u64.wrap ((R/1000000000^(n+1):Nat):Int))*1000000000)))=((R/1000000000^n:Nat):Int):=by
    clear hlast key;generalize R/1000000000^n=top at*;generalize R/1000000000^(n+1)=tt at*;rw[wu64 (i:=((top%1000000000:Nat):Int)) (by omega) (by omega),wu64 (i:=(tt:Int)) (by omega) (by omega),wu64 (i:=(tt:Int)*1000000000) (by omega) (by omega),wu64 (by omega) (by omega)];omega
   rw[e1];exact hlast _ rfl
  ·rw[if_neg (by omega),if_pos (by omega)];have h0:R/1000000000^(n+1)=0:=Nat.div_eq_of_lt (lt_of_len (by omega));have hm:R/1000000000^n%1000000000=R/1000000000^n:=by omega
   rw[hm];have hs:R/1000000000^n<1000000000:=by omega
   have e1:IntKind.u64.wrap ((R/1000000000^n:Nat):Int)=((R/1000000000^n:Nat):Int):=by
    clear hlast key hst hm;generalize R/1000000000^n=top at*;exact wu64 (by omega) (by omega)
   rw[e1];exact hlast _ rfl
end Go.Proofs.YthlakefgobflnaaGreatDoor.Lm
namespace Go.Proofs.YthlakefgobflnaaGreatDoor.Lm
open Go.RowKit Go.Proofs.YthlakefgobflnaaGreatDoorW.PrintWords Go.Proofs.YthlakefgobflnaaGreatDoor.S
set_option linter.unusedVariables false
theorem mod_step(a i:Nat):a%1000000000^(i+1)=a%1000000000^i+1000000000^i*(a/1000000000^i%1000000000):=by
 rw[Nat.pow_succ,Nat.mod_mul]
theorem len_mul(a b:Nat):(lim (a*b)).length≤(lim a).length+(lim b).length:=by
 by_cases h0:a=0
 ·subst h0;rw[Nat.zero_mul,lim_zero];simp
 refine len_le ?_;rw[Nat.pow_add];have h1:a<1000000000^(lim a).length:=lt_of_len (Nat.le_refl _);have h2:b<1000000000^(lim b).length:=lt_of_len (Nat.le_refl _);exact Nat.mul_lt_mul_of_lt_of_le h1 (Nat.le_of_lt h2) (by omega)
theorem len_one{g:Nat}(h:g<1000000000):(lim g).length≤1:=len_le (by omega)
theorem len_mono{a b:Nat}(h:a≤b):(lim a).length≤(lim b).length:=len_le (Nat.lt_of_le_of_lt h (lt_of_len (Nat.le_refl _)))
theorem natSub_loop(a b N:Nat)(hN:N=(lim a).length)(hN2:N<35184372088832)(hab:b≤a)(d:Nat): ∀(i c:Nat) (out:List Int),i+d=N→c≤1→out.length=i→Ok out→
 val out+b%1000000000^i=a%1000000000^i+c*1000000000^i→
 Ev (fun k=>spec_NatSub.l0 k (lim b) out (c:Int) (lim a) (N:Int) (i:Int)) (lim (a-b)):=by
 induction d with
 |zero=>
  intro i c out hi hc hlen hok hv;refine Ev.step ?_;simp only[spec_NatSub.l0];refine Ev.neg (by omega) ?_;have ha:a<1000000000^i:=lt_of_len (by omega);have hvl:=val_lt hok;rw[hlen]at hvl;rw[Nat.mod_eq_of_lt ha,Nat.mod_eq_of_lt (Nat.lt_of_le_of_lt hab ha)]at hv;have ht:=natTrim out hok (by omega);have e:val out=a-b:=by
   generalize 1000000000^i=P at*;rcases(show c=0∨c=1 by omega)with rfl|rfl<;>omega
  rw[e]at ht;exact Ev.bind ht (Ev.pure _)
 |succ d ih=>
  intro i c out hi hc hlen hok hv;refine Ev.step ?_;simp only[spec_NatSub.l0];rw[rd_lim,rd_lim];have hb0:=len_i b i;have hx:a/1000000000^i%1000000000<1000000000:=Nat.mod_lt _ (by omega);have hy:b/1000000000^i%1000000000<1000000000:=Nat.mod_lt _ (by omega)
  have next: ∀(dg c':Nat) (X C:Int),X=(dg:Int)→C=(c':Int)→dg+(c+b/1000000000^i%1000000000)=a/1000000000^i%1000000000+c'*1000000000→dg<1000000000→c'≤1→
   Ev (fun k=>spec_NatSub.l0 k (lim b) (out++ [X]) C (lim a) (N:Int) (wrap64 ((i:Int)+1))) (lim (a-b)):=by
   intro dg c' X C hX hC he hd hc';subst hX;subst hC;rw[w64s i (by omega)];refine ih (i+1) c' _ (by omega) hc' (by rw[List.length_append,List.length_singleton,hlen]) (ok_snoc hok (by omega) (by omega)) ?_;rw[val_snoc,mod_step a,mod_step b,hlen,Int.toNat_natCast,Nat.pow_succ];generalize a/1000000000^i%1000000000=x at*;generalize b/1000000000^i%1000000000=y at*;generalize a%1000000000^i=am at*;generalize b%1000000000^i=bm at*;generalize 1000000000^i=P at*;have hm:P*dg+(P*c+P*y)=P*x+P*(c'*1000000000):=by rw[←Nat.mul_add,←Nat.mul_add,←Nat.mul_add,he]
   rw[Nat.mul_left_comm c' P 1000000000];rw[Nat.mul_comm c P]at hv;generalize P*(c'*1000000000)=m1 at*;generalize P*dg=m2 at*;generalize P*c=m3 at*;generalize P*y=m4 at*;generalize P*x=m5 at*;omega
  generalize a/1000000000^i%1000000000=x at*;refine Ev.pos (by omega) (Ev.pos (by omega) (Ev.pos (by omega) ?_));by_cases h1:b/1000000000^i≠0
  ·refine Ev.pos (hb0.2 h1) ?_;generalize b/1000000000^i%1000000000=y at*;by_cases h2:x<c+y
   ·refine Ev.pos (by omega) (Ev.pos (by omega) ?_);exact next (x+1000000000-(c+y)) 1 _ _ (by omega) rfl (by omega) (by omega) (by omega)
   ·refine Ev.neg (by omega) (Ev.pos (by omega) ?_);exact next (x-(c+y)) 0 _ _ (by omega) rfl (by omega) (by omega) (by omega)
  ·refine Ev.neg (fun h=>h1 (hb0.1 h)) ?_;have hy0:b/1000000000^i%1000000000=0:=by
    have:b/1000000000^i=0:=by omega
    rw[this]
   rw[hy0]at next;by_cases h2:x<c
   ·refine Ev.pos (by omega) (Ev.pos (by omega) ?_);exact next (x+1000000000-c) 1 _ _ (by omega) rfl (by omega) (by omega) (by omega)
   ·refine Ev.neg (by omega) (Ev.pos (by omega) ?_);exact next (x-c) 0 _ _ (by omega) rfl (by omega) (by omega) (by omega)
theorem natSub(a b:Nat)(hab:b≤a)(hl:(lim a).length<35184372088832):Ev (fun k=>spec_NatSub.f k (lim a) (lim b)) (lim (a-b)):=by
 unfold spec_NatSub.f;exact natSub_loop a b _ rfl hl hab (lim a).length 0 0 [] (by omega) (by omega) rfl ok_nil (by simp[val,Nat.mod_one])
end Go.Proofs.YthlakefgobflnaaGreatDoor.Lm
namespace Go.Proofs.YthlakefgobflnaaGreatDoor.Lm
open Go.RowKit Go.Proofs.YthlakefgobflnaaGreatDoorW.PrintWords Go.Proofs.YthlakefgobflnaaGreatDoor.S
set_option linter.unusedVariables false
theorem div_l1(R Y:Nat)(hY:0<Y)(hl:(lim R).length<35184372088831)(hlY:(lim Y).length<35184372088831)(x4 x8 x9:List Int)(j:Nat)(hj:j<x4.length)(hj2:j<9223372036854775807)(res:List Int×List Int)
 (cont:Ev (fun k=>spec_NatDiv.l0 k (x4.set j ((R/Y:Nat):Int)) (lim (R%Y)) x8 x9 (lim Y) ((j:Int)-1)) res) (e:Nat): ∀g:Nat,g=R/Y+e→g<1000000000→
 Ev (fun k=>spec_NatDiv.l1 k x4 (lim R) x8 x9 (lim Y) (j:Int) (g:Int) (lim (Y*g))) res:=by
 have hRY:=Nat.div_add_mod R Y;have hmlt:=Nat.mod_lt R hY;generalize R/Y=q at*;induction e with
 |zero=>
  intro g hg hgB;refine Ev.step ?_;simp only[spec_NatDiv.l1];have hle:Y*g≤R:=by rw[hg,Nat.add_zero];omega
  have hlp:=len_mono hle;refine Ev.bind (natCmp (Y*g) R (by omega)) ?_;refine Ev.neg (fun h=>by have:=cmp_gt.1 h;omega) ?_;refine Ev.bind (natSub R (Y*g) hle (by omega)) ?_;refine Ev.pos (by omega) (Ev.pos (by omega) ?_);have e1:R-Y*g=R%Y:=by rw[hg,Nat.add_zero];omega
  have e2:((g:Int))%4294967296=(q:Int):=by omega
  rw[e1,e2,Int.toNat_natCast,w64n' j hj2];exact cont
 |succ e ih=>
  intro g hg hgB;refine Ev.step ?_;simp only[spec_NatDiv.l1];have hlp:=len_mul Y g;have hg1:=len_one hgB;refine Ev.bind (natCmp (Y*g) R (by omega)) ?_;have hgt:R<Y*g:=by
   have h1:Y*(q+1)≤Y*g:=Nat.mul_le_mul_left _ (by omega);rw[Nat.mul_add,Nat.mul_one]at h1;omega
  refine Ev.pos (cmp_gt.2 hgt) ?_;have hYg:Y≤Y*g:=Nat.le_mul_of_pos_right _ (by omega);refine Ev.bind (natSub (Y*g) Y hYg (by omega)) ?_;have e1:Y*g-Y=Y*(g-1):=by rw[Nat.mul_sub,Nat.mul_one]
  have e2:IntKind.u64.wrap ((g:Int)-1)=((g-1:Nat):Int):=by rw[wu64 (by omega) (by omega)];omega
  rw[e1,e2];exact ih (g-1) (by omega) (by omega)
theorem div_l0(X Y by':Nat)(hY:0<Y)(hb:0<by')(hb2:by'<1000000000)(N:Nat)(hN:N=(lim X).length)(hN2:N<1000000000)(hlY:(lim Y).length<1000000000)(i:Nat): ∀(q:List Int),i≤N→q.length=N→Ok q→
 val q=1000000000^i*(X/1000000000^i/Y)→(∀p,p<i→q.getD p 0=0)→
 Ev (fun k=>spec_NatDiv.l0 k q (lim (X/1000000000^i%Y)) (lim by') (lim X) (lim Y) ((i:Int)-1)) (lim (X/Y),lim (X%Y/by')):=by
 induction i with
 |zero=>
  intro q hi hlen hok hv hz;refine Ev.step ?_;simp only[spec_NatDiv.l0];refine Ev.neg (by omega) ?_;rw[Nat.pow_zero,Nat.div_one,Nat.one_mul]at*;have hl1:0<(lim by').length:=by
   rcases Nat.eq_zero_or_pos (lim by').length with h|h
   ·have:=lim_eq_nil.1 (List.length_eq_zero_iff.1 h);omega
   ·exact h
  refine Ev.pos (by omega) ?_;have e0:rd (lim by') 0=(by':Int):=by
   have:=rd_lim by' 0;rw[Nat.pow_zero,Nat.div_one,Nat.mod_eq_of_lt hb2]at this;exact this
  rw[e0];have hml:=len_mono (Nat.le_of_lt (Nat.mod_lt X hY));refine Ev.bind (natShort (X%Y) by' hb (by omega) (by omega)) ?_;have ht:=natTrim q hok (by omega);rw[hv]at ht;refine Ev.bind ht (Ev.pure _)
 |succ j ih=>
  intro q hi hlen hok hv hz;refine Ev.step ?_;simp only[spec_NatDiv.l0];rw[show((j+1:Nat):Int)-1=(j:Int) by omega,rd_lim];have hstep:=div_step X j;have hd:X/1000000000^j%1000000000<1000000000:=Nat.mod_lt _ (by omega);obtain⟨r,hr⟩: ∃r,r=X/1000000000^(j+1)%Y:=⟨_,rfl⟩
  rw[←hr];have hrY:r<Y:=by rw[hr];exact Nat.mod_lt _ hY
  have hrl:=len_mono (Nat.le_of_lt hrY);refine Ev.pos (by omega) (Ev.pos (by omega) (Ev.pos (by omega) ?_));refine Ev.bind (Ev.of rfl) ?_;have hlen2:([((X/1000000000^j%1000000000:Nat):Int)]++lim r).length=1+(lim r).length:=by rw[List.length_append,List.length_singleton]
  refine Ev.pos (by rw[List.length_singleton];omega) ?_;have ht:=natTrim ([((X/1000000000^j%1000000000:Nat):Int)]++lim r) (ok_append (ok_one (by omega) (by omega)) (ok_lim r)) (by rw[hlen2];omega);have hval:val ([((X/1000000000^j%1000000000:Nat):Int)]++lim r)=X/1000000000^j%1000000000+1000000000*r:=by
   rw[List.singleton_append,val,val_lim,Int.toNat_natCast]
  rw[hval]at ht;refine Ev.bind ht ?_;obtain⟨R,hR⟩: ∃R,R=X/1000000000^j%1000000000+1000000000*r:=⟨_,rfl⟩
  rw[←hR];have hRB:R<Y*1000000000:=by
   have:=Nat.mul_le_mul_right 1000000000 (show r+1≤Y by omega);omega
  obtain⟨g,hg,hg1,hg2⟩:=natGuess R Y hY hRB (by omega);refine Ev.bind (Ev.of hg) ?_;refine Ev.bind (natFrom g (by omega)) ?_;have hgl:=len_one hg2;refine Ev.bind (natMul Y g (by omega)) ?_;have hRl:(lim R).length≤(lim Y).length+1:=by
   have h1:=len_mono (Nat.le_of_lt hRB);have h2:=len_mul Y 1000000000;have h3:(lim 1000000000).length≤2:=len_le (by omega);have h4:R<1000000000^((lim Y).length+1):=by
    rw[Nat.pow_succ];refine Nat.lt_of_lt_of_le hRB (Nat.mul_le_mul_right _ (Nat.le_of_lt (lt_of_len (Nat.le_refl _))))
   exact len_le h4
  have hq:R/Y<1000000000:=(Nat.div_lt_iff_lt_mul hY).2 (by rw[Nat.mul_comm];exact hRB);obtain⟨A,hA⟩: ∃A,A=X/1000000000^j:=⟨_,rfl⟩
  obtain⟨H,hH⟩: ∃H,H=X/1000000000^(j+1):=⟨_,rfl⟩
  rw[←hA]at hstep hR hd;rw[←hH]at hstep hr;have hHd:=Nat.div_add_mod H Y;have eA:A=R+Y*(1000000000*(H/Y)):=by
   have e6:Y*(1000000000*(H/Y))=1000000000*(Y*(H/Y)):=Nat.mul_left_comm _ _ _;rw[e6];omega
  have hqA:A/Y=1000000000*(H/Y)+R/Y∧A%Y=R%Y:=by
   constructor
   ·conv=>lhs;rw[eA]
    rw[Nat.add_mul_div_left _ _ hY];omega
   ·conv=>lhs;rw[eA]
    rw[Nat.add_mul_mod_self_left]
  refine div_l1 R Y hY (by omega) (by omega) q _ _ j (by omega) (by omega) _ ?_ (g-R/Y) g (by omega) hg2;rw[←hqA.2];have ih':=ih (q.set j ((R/Y:Nat):Int)) (by omega) (by rw[List.length_set];exact hlen) (ok_set hok _ (Int.natCast_nonneg _) (Int.ofNat_lt.2 hq)) ?_ (fun p hp=>?_)
  ·rw[←hA]at ih';exact ih'
  ·have hs:=val_set (l:=q) (i:=j) (by omega) hok ((R/Y:Nat):Int);rw[hz j (by omega),Int.toNat_zero,Int.toNat_natCast,Nat.mul_zero,Nat.add_zero]at hs;rw[←hH]at hv;rw[hs,hv,←hA,hqA.1,Nat.mul_add,Nat.pow_succ,Nat.mul_assoc]
  ·rw[List.getD_eq_getElem?_getD,List.getElem?_set,if_neg (by omega),←List.getD_eq_getElem?_getD];exact hz p (by omega)
theorem natDiv(a b:Nat)(hb:0<b)(hl:(lim a).length+(lim b).length<100000000):Ev (fun k=>spec_NatDiv.f k (lim a) (lim b)) (lim (a/b),lim (a%b)):=by
 unfold spec_NatDiv.f;refine Ev.bind (natCmp a b (by omega)) ?_;by_cases h1:a<b
 ·refine Ev.pos (cmp_lt.2 h1) (Ev.bind (Ev.of rfl) (Ev.pos (by rw[List.length_nil];omega) ?_));rw[Nat.div_eq_of_lt h1,Nat.mod_eq_of_lt h1,lim_zero,List.nil_append];exact Ev.pure _
 refine Ev.neg (fun h=>h1 (cmp_lt.1 h)) ?_;have hlb:0<(lim b).length:=by
  rcases Nat.eq_zero_or_pos (lim b).length with h|h
  ·have:=lim_eq_nil.1 (List.length_eq_zero_iff.1 h);omega
  ·exact h
 by_cases h2:(lim b).length=1
 ·refine Ev.pos (by omega) (Ev.pos (by omega) ?_);have hb9:b<1000000000^1:=lt_of_len (by omega);have e0:rd (lim b) 0=(b:Int):=by
   have:=rd_lim b 0;rw[Nat.pow_zero,Nat.div_one,Nat.mod_eq_of_lt (by omega)]at this;exact this
  rw[e0];refine Ev.bind (natShort a b hb (by omega) (by omega)) ?_;have hm:=Nat.mod_lt a hb;have e1:IntKind.u64.wrap ((a%b:Nat):Int)=((a%b:Nat):Int):=by
   generalize a%b=m at*;exact wu64 (by omega) (by omega)
  simp only[e1];exact Ev.bind (natFrom (a%b) (by omega)) (Ev.pure _)
 refine Ev.neg (by omega) ?_;obtain⟨n,hn⟩: ∃n,(lim b).length=n+1:=⟨(lim b).length-1,by omega⟩
 rw[hn,w64p n (by omega),rd_lim];have hp:0<1000000000^n:=Nat.pow_pos (by omega);have hblt:b<1000000000^(n+1):=lt_of_len (by omega);have hbn:=(len_lim b n).1 (by omega);have htlt:b/1000000000^n<1000000000:=(Nat.div_lt_iff_lt_mul hp).2 (by rw[Nat.pow_succ,Nat.mul_comm]at hblt;exact hblt);rw[Nat.mod_eq_of_lt htlt];generalize b/1000000000^n=t at*;have ew:IntKind.u64.wrap ((IntKind.u64.wrap (t:Int))+1)=((t+1:Nat):Int):=by
  rw[wu64 (i:=(t:Int)) (by omega) (by omega),wu64 (by omega) (by omega)];omega
 rw[ew];refine Ev.pos (by omega) (Ev.pos (by omega) (Ev.neg (by omega) ?_));obtain⟨d,hd⟩: ∃d,d=1000000000/(t+1):=⟨_,rfl⟩
 have hd0:0<d:=by rw[hd];exact Nat.div_pos (by omega) (by omega)
 have hd1:d≤500000000:=by
  rw[hd];refine Nat.le_trans (Nat.div_le_div_left (show 2≤t+1 by omega) (by omega)) (by omega)
 have ed: [(IntKind.u64.wrap (Int.tdiv 1000000000 ((t+1:Nat):Int)))%4294967296]=lim d:=by
  have h3:Int.tdiv 1000000000 ((t+1:Nat):Int)=(d:Int):=by
   rw[hd,Int.tdiv_eq_ediv_of_nonneg (by omega),Int.natCast_ediv];rfl
  rw[h3,wu64 (by omega) (by omega),lim_pos (by omega),show d/1000000000=0 by omega,lim_zero]
  congr 1
  omega
 rw[ed];refine Ev.bind (Ev.of rfl) ?_;have hdl:=len_one (show d<1000000000 by omega);refine Ev.bind (natMul a d (by omega)) (Ev.bind (natMul b d (by omega)) ?_);have hal:=len_mul a d;have hbl:=len_mul b d;refine Ev.pos (by omega) (Ev.pos (by omega) ?_);rw[Int.toNat_natCast];have hY:0<b*d:=Nat.mul_pos hb hd0;have hw:wrap64 (((lim (a*d)).length:Int)-1)=((lim (a*d)).length:Int)-1:=w64n' _ (by omega);rw[hw];have h0:a*d/1000000000^(lim (a*d)).length=0:=Nat.div_eq_of_lt (lt_of_len (Nat.le_refl _))
 have hmain:=div_l0 (a*d) (b*d) d hY hd0 (by omega) _ rfl (by omega) (by omega) (lim (a*d)).length (List.replicate (lim (a*d)).length 0) (Nat.le_refl _) (by rw[List.length_replicate]) (ok_zeros _)
  (by rw[h0,Nat.zero_div,Nat.mul_zero,val_zeros]) (fun p hp=>by rw[List.getD_eq_getElem?_getD,List.getElem?_replicate];split<;>rfl)
 rw[h0,Nat.zero_mod,lim_zero,Nat.mul_div_mul_right _ _ hd0,Nat.mul_mod_mul_right,Nat.mul_div_cancel _ hd0]at hmain;exact hmain
end Go.Proofs.YthlakefgobflnaaGreatDoor.Lm
namespace Go.Proofs.YthlakefgobflnaaGreatDoor.S
theorem tinfo_u8:(Tryz.prog.info? 5).map (fun i=>(i.zero,i.size,i.bytes))=some (some (.int .u8 0),1,1):=by kernel_rfl
theorem tinfo_u64:(Tryz.prog.info? 73).map (fun i=>(i.zero,i.size,i.bytes))=some (some (.int .u64 0),1,8):=by kernel_rfl
theorem tinfo_word:(Tryz.prog.info? 81).map (fun i=>(i.zero,i.size,i.bytes))=some (some (.int .u64 0),1,8):=by kernel_rfl
end Go.Proofs.YthlakefgobflnaaGreatDoor.S
namespace Go.Proofs.YthlakefgobflnaaGreatDoor.G
open Go.RowKit Go.Proofs.YthlakefgobflnaaGreatDoorW.PrintWords Go.Proofs.YthlakefgobflnaaGreatDoorW.PrintLast Go.Proofs.YthlakefgobflnaaGreatDoorW.PrintMore
set_option linter.unusedVariables false
variable {P : Program} {md : Region.Mode} {ops : Array Oper} {Q : Exit → Act → World → Prop} {S : World → Prop} {ds : List Nat}
def nth:Nat→Nat→List Bool→Nat
 |_,i,[]=>i
 |k,i,true::r=>nth k (i+1) r
 |0,i,false::_=>i
 |k+1,i,false::r=>nth k (i+1) r
def nxt(k:Nat)(l:Array Bool):Nat:=nth k 0 l.toList
def opKind(o:Oper):Nat:=match o.op with
 |.load _ _=>1
 |.call c=>match c.callee with
  |.value _=>2
  |_=>0
 |.store _ _ _=>3
 |.buildSlice .. =>4
 |.alloc .. =>4
 |.box .. =>4
 |_=>0
theorem pu(k:Nat){oi:Oper}{N:Option Tmp}{v:Value}{fuel i:Nat}{l:Array Bool}{a a':Act}{w:World}(h:wpAnyLast P md ops Q S ds fuel (l.setIfInBounds i true) a' w)
 (hn:nxt k l=i:=by conv=>lhs;whnf) (hi:ops[i]?=some oi:=by exact rfl) (hk:opKind oi=0:=by exact rfl) (hN:oi.dst=N:=by conv=>lhs;whnf) (hc:anyB md ops l (l.setIfInBounds i true) i=true:=by decide+kernel)
 (hQ: ∀c a w,Q (.panic c) (a.put oi.dst v) w→Q (.panic c) a w:=by exact fun _ _ _ h=>h) (hy:Yields P ops oi v a:=by exact Or.inl ⟨by rfl,by intro w';go_simp;try with_reducible rfl⟩)
 (ha:a.put N v=a':=by simp only[Act.put,List.setIfInBounds_toArray,List.set_cons_zero,List.set_cons_succ,i64_w,i32_w];rfl):wpAnyLast P md ops Q S ds (fuel+1) l a w:=
 pure_ _ hi hN hc hQ hy ha h
theorem un(k:Nat){oi:Oper}{N:Option Tmp}{fuel i:Nat}{l:Array Bool}{a a':Act}{w:World}(h:wpAnyLast P md ops Q S ds fuel (l.setIfInBounds i true) a' w)
 (hn:nxt k l=i:=by conv=>lhs;whnf) (hi:ops[i]?=some oi:=by exact rfl) (hN:oi.dst=N:=by conv=>lhs;whnf) (hw:Region.wanted oi (yielded ops a.tmps)=false:=by exact rfl)
 (hc:anyB md ops l (l.setIfInBounds i true) i=true:=by decide+kernel) (hQ: ∀c a w,Q (.panic c) (a.put oi.dst undef) w→Q (.panic c) a w:=by exact fun _ _ _ h=>h)
 (ha:a.put N undef=a':=by simp only[Act.put,List.setIfInBounds_toArray,List.set_cons_zero,List.set_cons_succ,i64_w,i32_w];rfl):wpAnyLast P md ops Q S ds (fuel+1) l a w:=
 pure_ _ hi hN hc hQ (Or.inr ⟨hw,rfl⟩) ha h
theorem tk(k:Nat){oi:Oper}{N:Option Tmp}{v:Value}{fuel i:Nat}{l:Array Bool}{a a':Act}{w:World}(hS:S w)(h:wpAnyLast P md ops Q S ds fuel (l.setIfInBounds i true) a' w)
 (hn:nxt k l=i:=by conv=>lhs;whnf) (hi:ops[i]?=some oi:=by exact rfl) (hk:opKind oi=1:=by exact rfl) (hN:oi.dst=N:=by conv=>lhs;whnf) (hc:takeB md ops ds l (l.setIfInBounds i true) i=true:=by decide+kernel)
 (hQ: ∀c a w,Q (.panic c) (a.put oi.dst v) w→Q (.panic c) a w:=by exact fun _ _ _ h=>h) (hy:YieldsIf P ops S oi v a:=by exact Or.inl ⟨by rfl,by intro w' h_;go_simp;try with_reducible rfl⟩)
 (ha:a.put N v=a':=by simp only[Act.put,List.setIfInBounds_toArray,List.set_cons_zero,List.set_cons_succ,i64_w,i32_w];rfl):wpAnyLast P md ops Q S ds (fuel+1) l a w:=
 take_ _ hi hN hc hQ hy hS ha h
theorem tn(k:Nat){oi:Oper}{N:Option Tmp}{v:Value}{fuel i:Nat}{l:Array Bool}{a a':Act}{w:World}(hS:S w)(h:wpAnyLast P md ops Q S ds fuel (l.setIfInBounds i true) a' w)
 (hn:nxt k l=i:=by conv=>lhs;whnf) (hi:ops[i]?=some oi:=by exact rfl) (hN:oi.dst=N:=by conv=>lhs;whnf) (hc:takeB md ops ds l (l.setIfInBounds i true) i=true:=by decide+kernel)
 (hQ: ∀c a w,Q (.panic c) (a.put oi.dst v) w→Q (.panic c) a w:=by exact fun _ _ _ h=>h) (hy:YieldsIf P ops S oi v a:=by exact Or.inl ⟨by rfl,by intro w' h_;go_simp;try with_reducible rfl⟩)
 (ha:a.put N v=a':=by simp only[Act.put,List.setIfInBounds_toArray,List.set_cons_zero,List.set_cons_succ,i64_w,i32_w];rfl):wpAnyLast P md ops Q S ds (fuel+1) l a w:=
 take_ _ hi hN hc hQ hy hS ha h
theorem cl{oi:Oper}{N:Option Tmp}{f:FuncId}{fn:Func}{ar:Array Operand}{ts:Array TypeId}{fuel i:Nat}{l:Array Bool}{a:Act}{w:World}(hf:P.funcs[f]?=some fn)(args:Array Value)
 (h:Calls P f args w fun e w'=>∃v,e= .returned v∧S w'∧(S w'→wpAnyLast P md ops Q S ds fuel (l.setIfInBounds i true) (a.put N v) w'))
 (hn:nxt 0 l=i:=by conv=>lhs;whnf) (hi:ops[i]?=some oi:=by exact rfl) (hop:oi.op= .call { callee:=.value (.func f),args:=ar,argTypes:=ts}:=by conv=>lhs;whnf) (hN:oi.dst=N:=by conv=>lhs;whnf)
 (hc:readyB md ops l (l.setIfInBounds i true) i=true:=by decide+kernel) (hd:i∉ds:=by decide) (hname:(fn.name== "runtime.NumGoroutine")=false:=by exact rfl) (hb:fn.body.isSome=true:=by exact rfl)
 (hw:Region.wanted oi (yielded ops a.tmps)=true:=by exact rfl) (hargs:ar.map a.eval=args:=by(try simp only[List.map_toArray,List.map_cons,List.map_nil]);first|done|rfl):wpAnyLast P md ops Q S ds (fuel+1) l a w:=
 one_ _ hi hN hc hd fun K hK=>goes_ hf hname hb args hw hN hop hargs (h.mono fun e w' he=>by
  obtain⟨v,e1,e2,e3⟩:=he;exact⟨v,e1,hK.out _ _ e2 e3⟩)
theorem la{oi:Oper}{N:Option Tmp}{fuel i:Nat}{l:Array Bool}{a:Act}{w:World}(h: ∀K:Act→World→Prop,Shut (∀a' w',wpAnyLast P md ops Q S ds fuel (l.setIfInBounds i true) a' w'→K a' w')→Oper.wp P oi a w K Q)
 (hn:nxt 0 l=i:=by conv=>lhs;whnf) (hi:ops[i]?=some oi:=by exact rfl) (hk:opKind oi=3:=by exact rfl) (hN:oi.dst=N:=by conv=>lhs;whnf)
 (hc:readyB md ops l (l.setIfInBounds i true) i=true:=by decide+kernel) (hd:i∈ds:=by decide) (hw:Region.wanted oi (yielded ops a.tmps)=true:=by exact rfl):wpAnyLast P md ops Q S ds (fuel+1) l a w:=
 last_ _ hi hN hc hd fun K hK=>by rw[if_pos hw];exact h K hK
theorem put_comm(a:Act){m n:Tmp}(h:m≠n)(x y:Value):(a.put (some m) x).put (some n) y=(a.put (some n) y).put (some m) x:=by
 simp only[Act.put];rw[Array.setIfInBounds_comm _ _ h]
theorem lits2{oi oj:Oper}{ni nj:Tmp}{i j fuel:Nat}{l:Array Bool}{a:Act}{w:World}(x y:Value)(T:TypeId)(hS: ∀w',Below w.heap.size w w'→S w')
 (h: ∀g1 g2 w',w'.heap[g1]?=some (.cells #[x] T (0,0))→w'.heap[g2]?=some (.cells #[y] T (0,0))→Below w.heap.size w w'→S w'→wpAnyLast P md ops Q S ds fuel ((l.setIfInBounds i true).setIfInBounds j true) ((a.put (some ni) (.slice (some ⟨g1,0,none⟩) 1 1)).put (some nj) (.slice (some ⟨g2,0,none⟩) 1 1)) w')
 (hni:nxt 0 l=i:=by conv=>lhs;whnf) (hnj:nxt 1 l=j:=by conv=>lhs;whnf) (hi:ops[i]?=some oi:=by exact rfl) (hj:ops[j]?=some oj:=by exact rfl) (hNi:oi.dst=some ni:=by conv=>lhs;whnf) (hNj:oj.dst=some nj:=by conv=>lhs;whnf)
 (hri: ∀(a:Act) w,(execOp a.eval oi).run P w= .ok (.value (.slice (some ⟨w.heap.size,0,none⟩) 1 1)) (w.alloc (.cells #[x] T (0,0))):=by intro a w;go_simp;try rfl) (hrj: ∀(a:Act) w,(execOp a.eval oj).run P w= .ok (.value (.slice (some ⟨w.heap.size,0,none⟩) 1 1)) (w.alloc (.cells #[y] T (0,0))):=by intro a w;go_simp;try rfl)
 (hne:ni≠nj:=by decide) (hij:i≠j:=by decide) (hwi: ∀a:Act,Region.wanted oi (yielded ops a.tmps)=true:=by exact fun _=>rfl) (hwj: ∀a:Act,Region.wanted oj (yielded ops a.tmps)=true:=by exact fun _=>rfl)
 (hc:(Region.ready md ops l== [i,j]&&l.setIfInBounds i true==l.setIfInBounds i true&&l.setIfInBounds j true==l.setIfInBounds j true)=true:=by decide+kernel)
 (hc1:readyB md ops (l.setIfInBounds i true) ((l.setIfInBounds i true).setIfInBounds j true) j=true:=by decide+kernel) (hc2:readyB md ops (l.setIfInBounds j true) ((l.setIfInBounds j true).setIfInBounds i true) i=true:=by decide+kernel)
 (hdi:i∉ds:=by decide) (hdj:j∉ds:=by decide):wpAnyLast P md ops Q S ds (fuel+2) l a w:=by
 have step: ∀(o:Oper) (n:Tmp) (z:Value) (a:Act) (W:World) (K:Act→World→Prop),o.dst=some n→(∀a:Act,Region.wanted o (yielded ops a.tmps)=true)→(∀(a:Act) w,(execOp a.eval o).run P w= .ok (.value (.slice (some ⟨w.heap.size,0,none⟩) 1 1)) (w.alloc (.cells #[z] T (0,0))))→
  K (a.put (some n) (.slice (some ⟨W.heap.size,0,none⟩) 1 1)) (W.alloc (.cells #[z] T (0,0)))→if Region.wanted o (yielded ops a.tmps)=true then Oper.wp P o a W K Q else K (a.put (some n) undef) W:=fun o n z a W K hd hw hr hk=>by
  have e:=event_step (Q:=Q) (Kc:=K) (hw a) (hr a W) (by rw[show o.dst=some n from hd];exact hk);rwa[show o.dst=some n from hd]at e
 have hb1: ∀z:Value,Below w.heap.size w (w.alloc (.cells #[z] T (0,0))):=fun z=>below_alloc (Below.refl _ _) _
 have hb2: ∀z z':Value,Below w.heap.size w ((w.alloc (.cells #[z] T (0,0))).alloc (.cells #[z'] T (0,0))):=fun z z'=>below_alloc (hb1 z) _
 refine two_ _ _ hi hj hNi hNj hc hdi hdj (fun K hK=>?_) (fun K hK=>?_)
 ·refine step oi ni x a w K hNi hwi hri (hK.out _ _ (hS _ (hb1 x)) (fun _=>?_));refine one_ _ hj hNj hc1 hdj (fun K hK=>?_);refine step oj nj y _ _ K hNj hwj hrj (hK.out _ _ (hS _ (hb2 x y)) (fun hs=>?_));exact h _ _ _ (blk_alloc (blk_new w _) _) (blk_new _ _) (hb2 x y) hs
 ·refine step oj nj y a w K hNj hwj hrj (hK.out _ _ (hS _ (hb1 y)) (fun _=>?_));refine one_ _ hi hNi hc2 hdi (fun K hK=>?_);refine step oi ni x _ _ K hNi hwi hri (hK.out _ _ (hS _ (hb2 y x)) (fun hs=>?_));rw[Array.setIfInBounds_comm _ _ (Ne.symm hij),put_comm a (Ne.symm hne)];exact h _ _ _ (blk_new _ _) (blk_alloc (blk_new w _) _) (hb2 y x) hs
theorem sta{id n:Nat}{a:Act}{w:World}(S:World→Prop)(ds:List Nat)(hS:S w.drew)(h:S w.drew→wpAnyLast P .any ops Q S ds n (Array.replicate n false) a w.drew)(hm:P.follows .mixedOrders=true:=by kernel_rfl)
 (hn:ops.size=n:=by conv=>lhs;whnf):(Code.region id ops true).wp P Q a w:=start_ _ hm hn rfl hS h
abbrev C2(w:World)(g:Nat)(a b:Value):Prop:=w.cell? ⟨g,0,none⟩=some a∧w.cell? ⟨g,1,none⟩=some b
theorem C2.of{w:World}{g:Nat}{a b:Value}{t:TypeId}(h:w.heap[g]?=some (.cells #[a,b] t (0,0))):C2 w g a b:=⟨(blk_cell h 0).trans rfl,(blk_cell h 1).trans rfl⟩
abbrev C3(w:World)(g:Nat)(a b c:Value):Prop:=w.cell? ⟨g,0,none⟩=some a∧w.cell? ⟨g,1,none⟩=some b∧w.cell? ⟨g,2,none⟩=some c
theorem C3.of{w:World}{g:Nat}{a b c:Value}{t:TypeId}(h:w.heap[g]?=some (.cells #[a,b,c] t (0,0))):C3 w g a b c:=⟨(blk_cell h 0).trans rfl,(blk_cell h 1).trans rfl,(blk_cell h 2).trans rfl⟩
abbrev C4(w:World)(g:Nat)(a b c d:Value):Prop:=w.cell? ⟨g,0,none⟩=some a∧w.cell? ⟨g,1,none⟩=some b∧w.cell? ⟨g,2,none⟩=some c∧w.cell? ⟨g,3,none⟩=some d
theorem C4.of{w:World}{g:Nat}{a b c d:Value}{t:TypeId}(h:w.heap[g]?=some (.cells #[a,b,c,d] t (0,0))):C4 w g a b c d:=⟨(blk_cell h 0).trans rfl,(blk_cell h 1).trans rfl,(blk_cell h 2).trans rfl,(blk_cell h 3).trans rfl⟩
end Go.Proofs.YthlakefgobflnaaGreatDoor.G
