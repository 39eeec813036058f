/- CONTRACTS: NewInt, oneInt; Sign, BitLen, Uint64. THE LOGARITHM's BOUNDS, all together in whole numbers. CONTRACTS: expFixed. -/
import Derived.Test.YthlakefgobflnaaGreatDoorBbm
import Derived.Test.YthlakefgobflnaaGreatDoorBan
import Derived.Test.YthlakefgobflnaaGreatDoorBbe
namespace Go.Proofs.YthlakefgobflnaaGreatDoor.G
open Go.RowKit Go.Proofs.YthlakefgobflnaaGreatDoorW.PrintWords Go.Proofs.YthlakefgobflnaaGreatDoorW.PrintLast Go.Proofs.YthlakefgobflnaaGreatDoorW.PrintMore Go.Proofs.YthlakefgobflnaaGreatDoor.S
set_option linter.unusedVariables false
set_option linter.unusedSimpArgs false
theorem St.newRow{base:Nat}{w:World}{s:Nat→Option Int}(hS:St base w s)(m:Nat)(n:Int)(hm:n.natAbs=m)(h0:0<m)(hm2:m<18446744073709551616):
 St base ((w.alloc (.cells #[.int .u64 (m:Int)] 81)).alloc (.cells #[.bool (decide (n<0)),.slice (some ⟨w.heap.size,0,none⟩) 1 1] 55)) (upd s (w.heap.size+1) n)∧Below base w ((w.alloc (.cells #[.int .u64 (m:Int)] 81)).alloc (.cells #[.bool (decide (n<0)),.slice (some ⟨w.heap.size,0,none⟩) 1 1] 55)):=by
 obtain⟨hb,own,hO⟩:=hS;have hb1:=below_alloc (Below.refl w.heap.size w) (.cells #[.int .u64 (m:Int)] 81);have hsz:(w.alloc (.cells #[.int .u64 (m:Int)] 81)).heap.size=w.heap.size+1:=by show(w.heap.push _).size=_;simp
 have hb2:=below_alloc hb1 (.cells #[.bool (decide (n<0)),.slice (some ⟨w.heap.size,0,none⟩) 1 1] 55);have hR1:RowAt (w.alloc (.cells #[.int .u64 (m:Int)] 81)) w.heap.size [(m:Int)]:=blk_new w _;have hN2:=blk_new (w.alloc (.cells #[.int .u64 (m:Int)] 81)) (.cells #[.bool (decide (n<0)),.slice (some ⟨w.heap.size,0,none⟩) 1 1] 55);have hR2:RowAt ((w.alloc (.cells #[.int .u64 (m:Int)] 81)).alloc (.cells #[.bool (decide (n<0)),.slice (some ⟨w.heap.size,0,none⟩) 1 1] 55)) w.heap.size [(m:Int)]:=hR1.below (below_alloc (Below.refl _ _) _);rw[hsz]at hN2;generalize (w.alloc (.cells #[.int .u64 (m:Int)] 81)).alloc (.cells #[.bool (decide (n<0)),.slice (some ⟨w.heap.size,0,none⟩) 1 1] 55)=w2 at*;refine⟨⟨Nat.le_trans hb hb2.size,fun k=>if k=w.heap.size+1 then 2*(w.heap.size+1)else if k=w.heap.size then 2*(w.heap.size+1)+1 else own k,fun h q hq=>?_⟩,⟨hb2.os,hb2.tape,hb2.output,hb2.size,fun k hk=>hb2.block k (by omega)⟩⟩;by_cases e:h=w.heap.size+1
 ·subst e;rw[upd_self]at hq;obtain rfl:=Option.some.inj hq;have hl:L64.lim m= [(m:Int)]:=by rw[L64.lim_pos (by omega),Nat.mod_eq_of_lt hm2,Nat.div_eq_of_lt hm2,L64.lim_zero]
  refine⟨if_pos rfl,by omega,_,some w.heap.size,hN2,?_,fun g hg=>?_⟩
  ·rw[hm,hl];exact .inr ⟨w.heap.size,[(m:Int)],rfl,hR2,rfl,by simp,L64.ok_one (by omega) (by omega),rfl⟩
  ·obtain rfl:=Option.some.inj hg;refine⟨?_,hb⟩;show(if w.heap.size=w.heap.size+1 then _ else _)=_;rw[if_neg (by omega),if_pos rfl]
 ·rw[upd_ne _ _ e]at hq;refine(hO h q hq).move _ (fun k hk _=>⟨?_,hb2.block k hk⟩);show(if k=w.heap.size+1 then _ else _)=_;rw[if_neg (by omega),if_neg (by omega)]
theorem St.new'{base:Nat}{w:World}{s:Nat→Option Int}(hS:St base w s):St base (w.alloc (.cells #[.bool false,.slice none 0 0] 55)) (upd s w.heap.size 0)∧Below base w (w.alloc (.cells #[.bool false,.slice none 0 0] 55)):=by
 have hb:=below_alloc (Below.refl w.heap.size w) (.cells #[.bool false,.slice none 0 0] 55);exact⟨hS.new,⟨hb.os,hb.tape,hb.output,hb.size,fun k hk=>hb.block k (by have:=hS.1;omega)⟩⟩
set_option maxRecDepth 100000 in
theorem newInt_pos(base m:Nat)(s:Nat→Option Int)(w:World)(hS:St base w s)(h0:0<m)(hm:m<9223372036854775808):
 Calls Tryz.prog 18 #[.int .i64 (m:Int)] w fun e w'=>∃h,e= .returned (.pointer (some ⟨h,0,none⟩))∧w.heap.size≤h∧St base w' (upd s h (m:Int))∧Below base w w':=by
 have HF:=ak (hS.newRow m (m:Int) (by omega) h0 (by omega));have c0:decide ((m:Int)<0)=false:=decide_eq_false (by omega);have c1:((m:Int)==0)=false:=beq_eq_false_iff_ne.2 (by omega);have hw:IntKind.u64.wrap (m:Int)=(m:Int):=Lm.wrap_nat (by omega);rw[c0]at HF;clear hS h0 hm
 go_enter Tryz.func18,Tryz.ntmps18
 go_wp2_with fail
 go_ret
 exact⟨_,rfl,Nat.le_succ _,HF.out⟩
set_option maxRecDepth 100000 in
theorem newInt_neg(base m:Nat)(s:Nat→Option Int)(w:World)(hS:St base w s)(h0:0<m)(hm:m<9223372036854775808):
 Calls Tryz.prog 18 #[.int .i64 (-(m:Int))] w fun e w'=>∃h,e= .returned (.pointer (some ⟨h,0,none⟩))∧w.heap.size≤h∧St base w' (upd s h (-(m:Int)))∧Below base w w':=by
 have HF:=ak (hS.newRow m (-(m:Int)) (by omega) h0 (by omega));have c0:decide (-(m:Int)<0)=true:=decide_eq_true (by omega);have c1:((-(m:Int))==0)=false:=beq_eq_false_iff_ne.2 (by omega);obtain⟨u,hu⟩: ∃u,IntKind.u64.wrap (-(m:Int))=u:=⟨_,rfl⟩
 have hw:IntKind.u64.wrap (-u)=(m:Int):=by
  rw[IntKind.wrap_u64]at hu⊢;omega
 have c2: ¬(0< -(m:Int)):=by omega
 have c3:(-(m:Int))<0:=by omega
 obtain⟨n,hn⟩: ∃n:Int,-(m:Int)=n:=⟨_,rfl⟩
 rw[c0]at HF;rw[hn]at HF c0 c1 hu c3⊢;clear hS h0 hm hn c2
 go_enter Tryz.func18,Tryz.ntmps18
 go_wp2_with fail
 go_ret
 exact⟨_,rfl,Nat.le_succ _,HF.out⟩
set_option maxRecDepth 100000 in
theorem newInt_zero(base:Nat)(s:Nat→Option Int)(w:World)(hS:St base w s):
 Calls Tryz.prog 18 #[.int .i64 0] w fun e w'=>∃h,e= .returned (.pointer (some ⟨h,0,none⟩))∧w.heap.size≤h∧St base w' (upd s h 0)∧Below base w w':=by
 have HF:=ak hS.new';clear hS
 go_enter Tryz.func18,Tryz.ntmps18
 go_wp2_with fail
 go_ret
 exact⟨_,rfl,Nat.le_refl _,HF.out⟩
theorem newInt_is(base:Nat)(n:Int)(s:Nat→Option Int)(w:World)(hS:St base w s)(h1: -9223372036854775808<n)(h2:n<9223372036854775808):
 Calls Tryz.prog 18 #[.int .i64 n] w fun e w'=>∃h,e= .returned (.pointer (some ⟨h,0,none⟩))∧w.heap.size≤h∧St base w' (upd s h n)∧Below base w w':=by
 rcases Int.lt_trichotomy n 0 with h|h|h
 ·obtain⟨m,rfl⟩: ∃m:Nat,n= -(m:Int):=⟨(-n).toNat,by omega⟩
  exact newInt_neg base m s w hS (by omega) (by omega)
 ·subst h;exact newInt_zero base s w hS
 ·obtain⟨m,rfl⟩: ∃m:Nat,n=(m:Int):=⟨n.toNat,by omega⟩
  exact newInt_pos base m s w hS (by omega) (by omega)
theorem oneInt_is(base:Nat)(s:Nat→Option Int)(w:World)(hS:St base w s):
 Calls Tryz.prog 66 #[] w fun e w'=>∃h,e= .returned (.pointer (some ⟨h,0,none⟩))∧w.heap.size≤h∧St base w' (upd s h 1)∧Below base w w':=by
 have HQ:=ak (newInt_is base 1 s w hS (by omega) (by omega));clear hS
 go_enter Tryz.func66,Tryz.ntmps66
 go_wp2_with fail
 refine HQ.out.mono ?_;rintro e w1 ⟨h,rfl,h1,h2⟩;have H:=ak (And.intro h1 h2);clear h1 h2 HQ
 go_wp2_with fail
 go_ret
 exact⟨_,rfl,H.out⟩
def sgnZ(n:Int):Int:=if n=0 then 0 else if n<0 then-1 else 1
theorem sgn_is(base h:Nat)(n:Int)(s:Nat→Option Int)(w:World)(hS:St base w s)(hz:s h=some n):
 Calls Tryz.prog 42 #[.pointer (some ⟨h,0,none⟩)] w fun e w'=>e= .returned (.int .i64 (sgnZ n))∧w=w':=by
 obtain⟨_,own,hO⟩:=hS;obtain⟨_,_,v,r,hB,hR,_⟩:=hO h n hz;obtain⟨A,c,rfl⟩:=hR.slice;have hbl:(L64.lim n.natAbs).length=0↔n=0:=by
  constructor
  ·intro h;have:=L64.lim_eq_nil.1 (List.length_eq_zero_iff.1 h);omega
  ·rintro rfl;show(L64.lim 0).length=0;rw[L64.lim_zero];rfl
 have HB:=ak hB;obtain⟨l,hl⟩: ∃l,(L64.lim n.natAbs).length=l:=⟨_,rfl⟩
 rw[hl]at HB hbl;clear hB hR hO hz hl;by_cases h0:n=0
 ·have hl0:l=0:=hbl.2 h0;have hd:((l:Int)==0)=true:=beq_iff_eq.2 (by omega);have HE:=ak (show sgnZ n=0 from if_pos h0);obtain⟨c0,zc0,c1,zc1⟩:=rf2 HB.out;clear h0 hbl
  go_enter Tryz.func42,Tryz.ntmps42
  go_wp2_with fail
  exact bodyPost_ret (v:=.int .i64 0) (by simp[results,Tryz.results42,go_sem]) rfl ⟨by rw[HE.out],rfl⟩
 ·have hl0:l≠0:=fun e=>h0 (hbl.1 e)
  have hd:((l:Int)==0)=false:=beq_eq_false_iff_ne.2 (by omega);by_cases h1:n<0
  ·have HE:=ak (show sgnZ n= -1 by unfold sgnZ;rw[if_neg h0,if_pos h1]);rw[decide_eq_true h1]at HB;obtain⟨c0,zc0,c1,zc1⟩:=rf2 HB.out;clear h0 h1 hbl
   go_enter Tryz.func42,Tryz.ntmps42
   go_wp2_with fail
   exact bodyPost_ret (v:=.int .i64 (-1)) (by simp[results,Tryz.results42,go_sem]) rfl ⟨by rw[HE.out],rfl⟩
  ·have HE:=ak (show sgnZ n=1 by unfold sgnZ;rw[if_neg h0,if_neg h1]);rw[decide_eq_false h1]at HB;obtain⟨c0,zc0,c1,zc1⟩:=rf2 HB.out;clear h0 h1 hbl
   go_enter Tryz.func42,Tryz.ntmps42
   go_wp2_with fail
   exact bodyPost_ret (v:=.int .i64 1) (by simp[results,Tryz.results42,go_sem]) rfl ⟨by rw[HE.out],rfl⟩
end Go.Proofs.YthlakefgobflnaaGreatDoor.G
namespace Go.Proofs.YthlakefgobflnaaGreatDoor.An
set_option linter.unusedVariables false
def expv(a:Int)(b g j n:Nat):Int:=sqs (exs (-a*((2^(g-b):Nat):Int)/((2^j:Nat):Int)) g n) g j/((2^(g-b):Nat):Int)
def lnz(a m:Int)(b g j n:Nat):Int:=expv a b g j n*m/((2^b:Nat):Int)-((2^b:Nat):Int)
theorem ln_facts(m:Nat)(a:Int)(b g j n:Nat)(hb:20≤b)(hm:2^b≤m)(hm2:m<2*2^b)(hbg:b≤g)(hj:5≤j)(hD:16*2^j*(7*(n+1)+1)*2^b≤2^g)
 (ha:Ab (a:Rat) (3/4*((2^b:Nat):Rat))) (l1:UB ((a:Rat)/((2^b:Nat):Rat)+9/25) ((m:Rat)/((2^b:Nat):Rat))) (l2:UB (-((a:Rat)/((2^b:Nat):Rat))+9/25) (((2^b:Nat):Rat)/(m:Rat)))
 (h0:ext (-a*((2^(g-b):Nat):Int)/((2^j:Nat):Int)) g (n+1)=0):
 Ab (lnz a m b g j n:Rat) (1/2*((2^b:Nat):Rat))∧
 ∀k,lnp (lnz a m b g j n) b (k+1)=0→
  UB (((lns (lnz a m b g j n) b k+a:Int)+2*(k:Rat)+11)/((2^b:Nat):Rat)) ((m:Rat)/((2^b:Nat):Rat))∧
  UB ((-((lns (lnz a m b g j n) b k+a:Int):Rat)+2*(k:Rat)+5)/((2^b:Nat):Rat)) (((2^b:Nat):Rat)/(m:Rat)):=by
 have hB:=npos (pow2_pos b);have hB20:(1048576:Rat)≤((2^b:Nat):Rat):=by
  have:1048576≤2^b:=Nat.pow_le_pow_right (show 0<2 by omega) hb
  exact_mod_cast this
 have hmr:((2^b:Nat):Rat)≤(m:Rat):=by exact_mod_cast hm
 have hmr2:(m:Rat)<2*((2^b:Nat):Rat):=by exact_mod_cast hm2
 have ha':Ab ((-a:Int):Rat) (3/4*((2^b:Nat):Rat)):=by
  rw[Rat.intCast_neg];obtain⟨p,q⟩:=ha;constructor<;>grind
 obtain⟨e0,e1,e2,-⟩:=exp_all (-a) b g j n hbg (by omega) (by omega) ha' hj hD h0;unfold lnz;have hE:expv a b g j n=sqs (exs (-a*((2^(g-b):Nat):Int)/((2^j:Nat):Int)) g n) g j/((2^(g-b):Nat):Int):=rfl;rw[←hE]at e0 e1 e2;clear hE;generalize expv a b g j n=E at*;rw[Rat.intCast_neg]at e1 e2;have e1':UB (-((a:Rat)/((2^b:Nat):Rat))+1/4/((2^b:Nat):Rat)) ((E:Rat)/((2^b:Nat):Rat)):=e1.mono (by grind) Rat.le_refl;have e2':UB ((a:Rat)/((2^b:Nat):Rat)+1/4/((2^b:Nat):Rat)) (((2^b:Nat):Rat)/((E:Rat)+1)):=e2.mono (by grind) Rat.le_refl;clear e1 e2;have hE0:(0:Rat)≤(E:Rat):=by exact_mod_cast e0
 obtain⟨w1,w2⟩:=fl_le (E*(m:Int)) (2^b) (pow2_pos b);rw[Rat.intCast_mul,Rat.intCast_natCast]at w1 w2;have hlnz:((E*(m:Int)/((2^b:Nat):Int)-((2^b:Nat):Int):Int):Rat)=((E*(m:Int)/((2^b:Nat):Int):Int):Rat)-((2^b:Nat):Rat):=by rw[Rat.intCast_sub,Rat.intCast_natCast]
 have hz:Ab ((E*(m:Int)/((2^b:Nat):Int)-((2^b:Nat):Int):Int):Rat) (1/2*((2^b:Nat):Rat)):=by
  rw[hlnz];refine z_small ((2^b:Nat):Rat) (m:Rat) ((a:Rat)/((2^b:Nat):Rat)) (E:Rat) _ (1/4/((2^b:Nat):Rat)) (by grind) hmr hmr2 hE0 e1' e2' l1 l2 ?_ (by grind) (by grind);exact div_le hB (by grind)
 refine⟨hz,fun k hk=>?_⟩;obtain⟨s1,s2⟩:=lns_cert _ b k hz hk;rw[hlnz]at hz s1 s2;generalize lns (E*(m:Int)/((2^b:Nat):Int)-((2^b:Nat):Int)) b k=s at*;generalize ((E*(m:Int)/((2^b:Nat):Int):Int):Rat)=W at*;rw[show W-((2^b:Nat):Rat)+((2^b:Nat):Rat)=W by grind]at s1 s2;have:=ln_join ((2^b:Nat):Rat) (m:Rat) (a:Rat) (E:Rat) W (s:Rat) (k:Rat) (by grind) hmr hmr2 hE0 hz e1' e2' (by grind) (by grind) s1 s2;rw[Rat.intCast_add];exact this
theorem spans_fit(P B X lo hi R off:Rat)(c1:Rat)(hP:0<P)(hB:0<B)(hX:0<X)(h1:UB (hi/P) X)(h2:UB (-lo/P) (1/X))(g1:UB ((R+off-1)/B) X)(g2:UB ((-R+off-1)/B) (1/X)):
 (R-off)/B*P<hi∧lo<(R+off)/B*P:=by
 have hXi:0<1/X:=div_pos (by decide+kernel) hX;have hm:1≤X*(1/X):=by
  have:X*(1/X)=1:=by grind
  grind
 have f1:=h1.fits g2 (Rat.le_of_lt hX) (Rat.le_of_lt hXi) hm;have f2:=g1.fits h2 (Rat.le_of_lt hX) (Rat.le_of_lt hXi) hm;have hBi:0<1/B:=div_pos (by decide+kernel) hB;have e1:(-R+off-1)/B= -((R-off)/B)-1/B:=by grind
 have e2:(R+off-1)/B=(R+off)/B-1/B:=by grind
 rw[e1]at f1;rw[e2]at f2;have k1:(R-off)/B<hi/P:=by grind
 have k2:lo/P<(R+off)/B:=by
  have: -lo/P= -(lo/P):=by grind
  grind
 have k3:=Rat.mul_lt_mul_of_pos_right k1 hP;have k4:=Rat.mul_lt_mul_of_pos_right k2 hP;have e3:hi/P*P=hi:=by grind
 have e4:lo/P*P=lo:=by grind
 constructor<;>grind
end Go.Proofs.YthlakefgobflnaaGreatDoor.An
namespace Go.Proofs.YthlakefgobflnaaGreatDoor.G
open Go.RowKit Go.Proofs.YthlakefgobflnaaGreatDoorW.PrintWords Go.Proofs.YthlakefgobflnaaGreatDoorW.PrintLast Go.Proofs.YthlakefgobflnaaGreatDoorW.PrintMore Go.Proofs.YthlakefgobflnaaGreatDoor.S
set_option linter.unusedVariables false
set_option linter.unusedSimpArgs false
theorem lenb{v:Nat}{K q:Nat}(h:v<2^K)(hK:K≤64*q):(L64.lim v).length≤q:=by
 refine L64.len_le (Nat.lt_of_lt_of_le h ?_);rw[show(18446744073709551616:Nat)=2^64 from rfl,←Nat.pow_mul];exact Nat.pow_le_pow_right (by omega) hK
theorem lenc{v:Nat}{K q:Nat}(h:v≤2^K)(hK:K<64*q):(L64.lim v).length≤q:=
 lenb (Nat.lt_of_le_of_lt h (Nat.pow_lt_pow_right (by omega) (Nat.lt_succ_self K))) hK
theorem Thr.base{base:Nat}{w w':World}(h:Thr w)(hb:Below base w w')(h3:3<base):Thr w':=by
 obtain⟨a,b,c⟩:=h;exact⟨(World.cell?_of_block (a:=⟨1,0,none⟩) (hb.block 1 (by omega))).trans a,(World.cell?_of_block (a:=⟨2,0,none⟩) (hb.block 2 (by omega))).trans b,(World.cell?_of_block (a:=⟨3,0,none⟩) (hb.block 3 (by omega))).trans c⟩
theorem belowJoin{base:Nat}{a b c:World}(h:Below base a b)(k:Below base b c):Below base a c:=⟨k.os.trans h.os,k.tape.trans h.tape,k.output.trans h.output,Nat.le_trans h.size k.size,fun i hi=>(k.block i hi).trans (h.block i hi)⟩
theorem belowOfSize{base:Nat}{a b:World}(h:Below a.heap.size a b)(hb:base≤a.heap.size):Below base a b:=⟨h.os,h.tape,h.output,h.size,fun i hi=>h.block i (by omega)⟩
def Kp(s s':Nat→Option Int):Prop:=∀k v,s k=some v→s' k=some v
theorem Kp.upd{s s':Nat→Option Int}(h:Kp s s'){z:Nat}(n:Int)(hz:s z=none):Kp s (upd s' z n):=fun k v hk=>by
 rw[upd_ne _ _ (fun e=>by subst e;rw[hz]at hk;cases hk)];exact h k v hk
theorem St.fresh{base:Nat}{w:World}{s:Nat→Option Int}(hS:St base w s){h:Nat}(hh:w.heap.size≤h):s h=none:=by
 cases e:s h with
 |none=>rfl
 |some n=>have:=hS.lt e;omega
theorem pow_cast(n:Nat):(2:Int)^n=((2^n:Nat):Int):=by rw[Int.natCast_pow];rfl
theorem ext_le(xr:Int)(g:Nat)(hx:16*xr.natAbs≤2^g)(hg:5≤g)(k:Nat):(An.ext xr g k).natAbs≤2^g:=by
 have h32:32≤2^g:=Nat.pow_le_pow_right (show 0<2 by omega) hg;have hp:(0:Int)<((2^g:Nat):Int):=by omega
 generalize hG:2^g=G at*;induction k with
 |zero=>simp only[An.ext,hG];omega
 |succ k ih=>
  simp only[An.ext,hG];generalize An.ext xr g k=t at*;have h1:(t*xr).natAbs≤G*xr.natAbs:=by rw[Int.natAbs_mul];exact Nat.mul_le_mul_right _ ih
  have h2:(t*xr/(G:Int)).natAbs≤xr.natAbs+1:=by
   have e1:=Int.mul_ediv_add_emod (t*xr) (G:Int);have e2:=Int.emod_lt_of_pos (t*xr) hp;have e3:=Int.emod_nonneg (t*xr) (show(G:Int)≠0 by omega);generalize t*xr/(G:Int)=q at*;generalize t*xr%(G:Int)=r at*;generalize t*xr=m at*;have e4:((G:Int)*q).natAbs=G*q.natAbs:=by rw[Int.natAbs_mul];rfl
   have e5:G*q.natAbs<G*(xr.natAbs+2):=by
    rw[←e4,Nat.mul_add];omega
   have:=Nat.lt_of_mul_lt_mul_left e5;omega
  have h3:=Int.natAbs_tdiv_le_natAbs (t*xr/(G:Int)) ((k+1:Nat):Int);omega
theorem exs_le(xr:Int)(g:Nat)(hx:16*xr.natAbs≤2^g)(hg:5≤g)(k:Nat):(An.exs xr g k).natAbs≤(k+1)*2^g:=by
 induction k with
 |zero=>simp only[An.exs];omega
 |succ k ih=>
  simp only[An.exs];have:=ext_le xr g hx hg (k+1);rw[Nat.add_mul (k+1) 1,Nat.one_mul];omega
structure Fr (base:Nat) (w0 w:World) (s0 s:Nat→Option Int) (p q r t:Nat) (a b c d:Int):Prop where
 st:St base w s
 kp:Kp s0 s
 bl:Below base w0 w
 z:s0 p=none∧s0 q=none∧s0 r=none∧s0 t=none
 ne:p≠q∧p≠r∧p≠t∧q≠r∧q≠t∧r≠t
 p:s p=some a
 q:s q=some b
 r:s r=some c
 t:s t=some d
theorem Fr.setQ{base:Nat}{w0 w w':World}{s0 s:Nat→Option Int}{p q r t:Nat}{a b c d:Int}(h:Fr base w0 w s0 s p q r t a b c d){v:Int}(hs:St base w' (upd s q v))(hb:Below base w w'):Fr base w0 w' s0 (upd s q v) p q r t a v c d:=
 ⟨hs,h.kp.upd v h.z.2.1,belowJoin h.bl hb,h.z,h.ne,by rw[upd_ne _ _ h.ne.1];exact h.p,upd_self _ _ _,by rw[upd_ne _ _ (Ne.symm h.ne.2.2.2.1)];exact h.r,by rw[upd_ne _ _ (Ne.symm h.ne.2.2.2.2.1)];exact h.t⟩
theorem Fr.setR{base:Nat}{w0 w w':World}{s0 s:Nat→Option Int}{p q r t:Nat}{a b c d:Int}(h:Fr base w0 w s0 s p q r t a b c d){v:Int}(hs:St base w' (upd s r v))(hb:Below base w w'):Fr base w0 w' s0 (upd s r v) p q r t a b v d:=
 ⟨hs,h.kp.upd v h.z.2.2.1,belowJoin h.bl hb,h.z,h.ne,by rw[upd_ne _ _ h.ne.2.1];exact h.p,by rw[upd_ne _ _ h.ne.2.2.2.1];exact h.q,upd_self _ _ _,by rw[upd_ne _ _ (Ne.symm h.ne.2.2.2.2.2)];exact h.t⟩
theorem Fr.setT{base:Nat}{w0 w w':World}{s0 s:Nat→Option Int}{p q r t:Nat}{a b c d:Int}(h:Fr base w0 w s0 s p q r t a b c d){v:Int}(hs:St base w' (upd s t v))(hb:Below base w w'):Fr base w0 w' s0 (upd s t v) p q r t a b c v:=
 ⟨hs,h.kp.upd v h.z.2.2.2,belowJoin h.bl hb,h.z,h.ne,by rw[upd_ne _ _ h.ne.2.2.1];exact h.p,by rw[upd_ne _ _ h.ne.2.2.2.2.1];exact h.q,by rw[upd_ne _ _ h.ne.2.2.2.2.2];exact h.r,upd_self _ _ _⟩
set_option maxRecDepth 100000 in
set_option maxHeartbeats 4000000 in
theorem expFixed_is(base x b j g n L:Nat)(X XR:Int)(s:Nat→Option Int)(w:World)(f1 f2:Nat)(hS:St base w s)(hx:Arg base w s x X)(ht:Thr w)(h3:3<base)
 (hc1: ∀w,(convert 22 102 (.int .u64 (b:Int))).run Tryz.prog w= .ok (.float .f64 f1) w) (HSq: ∀w,Calls Tryz.prog 86 #[.float .f64 f1] w fun e w'=>e= .returned (.float .f64 f2)∧Below w.heap.size w w') (hc2: ∀w,(convert 102 22 (.float .f64 f2)).run Tryz.prog w= .ok (.int .u64 ((j-1:Nat):Int)) w)
 (hb:b≤200) (hj:0<j) (hj2:j≤20) (hL:Lib.bitLen (33*(b+j+64)+363)=L) (hL2:L≤20) (hg:b+j+L+2=g) (hg5:5≤g)
 (hX:X.natAbs≤2^b) (hXR:X*((2^(g-b):Nat):Int)/((2^j:Nat):Int)=XR) (hXR2:16*XR.natAbs≤2^g) (hn:n<254)
 (hend:An.ext XR g (n+1)=0) (hne: ∀k,k≤n→An.ext XR g k≠0) (hsq: ∀i,i≤j→(An.sqs (An.exs XR g n) g i).natAbs≤4*2^g):
 Calls Tryz.prog 63 #[.pointer (some ⟨x,0,none⟩),.int .u64 (b:Int)] w fun e w'=>∃h s',e= .returned (.tuple #[.pointer (some ⟨h,0,none⟩),.int .i64 2])∧w.heap.size≤h∧St base w' s'∧s' h=some (An.sqs (An.exs XR g n) g j/((2^(g-b):Nat):Int))∧Kp s s'∧Below base w w':=by
 have HS0:=ak hS;have HX0:=ak hx;have HSq':=ak HSq;have HT:=ak ht;have HD:=ak (And.intro h3 (And.intro hb (And.intro hj (And.intro hj2 (And.intro hL2 (And.intro hg hg5))))));have HXb:=ak (And.intro hX (And.intro hXR (And.intro hXR2 hn)));have HEnd:=ak (And.intro hend (And.intro hne hsq));have HLen:=ak (fun w0=>len_is ((33*(b+j+64)+363:Nat):Int) w0 (by omega) (by omega));rw[Int.toNat_natCast,hL]at HLen;have Q1:=ak (show IntKind.u64.wrap (((j-1:Nat):Int)+1)=(j:Int)from wrap_eq (by omega) (by omega));have Q2:=ak (show IntKind.u64.wrap ((b:Int)+(j:Int))=((b+j:Nat):Int)from wrap_eq (by omega) (by omega));have Q3:=ak (show IntKind.u64.wrap (((b+j:Nat):Int)+64)=((b+j+64:Nat):Int)from wrap_eq (by omega) (by omega));have Q4:=ak (show IntKind.u64.wrap (33*((b+j+64:Nat):Int))=((33*(b+j+64):Nat):Int)from wrap_eq (by omega) (by omega));have Q5:=ak (show IntKind.u64.wrap (((33*(b+j+64):Nat):Int)+363)=((33*(b+j+64)+363:Nat):Int)from wrap_eq (by omega) (by omega));have Q6:=ak (show IntKind.u64.wrap (L:Int)=(L:Int)from wrap_eq rfl (by omega));have Q7:=ak (show IntKind.u64.wrap (((b+j:Nat):Int)+(L:Int))=((b+j+L:Nat):Int)from wrap_eq (by omega) (by omega));have Q8:=ak (show IntKind.u64.wrap (((b+j+L:Nat):Int)+2)=(g:Int)from wrap_eq (by omega) (by omega));obtain⟨gb,hgb⟩: ∃gb,g-b=gb:=⟨_,rfl⟩
 have Q9:=ak (show IntKind.u64.wrap ((g:Int)-(b:Int))=(gb:Int)from wrap_eq (by omega) (by omega));have HGb:=ak hgb;generalize hj1:((j-1:Nat):Int)=J1 at*;generalize h2:((b+j:Nat):Int)=J2 at*;generalize hJ3:((b+j+64:Nat):Int)=J3 at*;generalize hJ4:((33*(b+j+64):Nat):Int)=J4 at*;generalize hJ5:((33*(b+j+64)+363:Nat):Int)=J5 at*;generalize hJ7:((b+j+L:Nat):Int)=J7 at*;clear hS hx ht h3 HSq hb hj hj2 hL hL2 hg hg5 hX hXR hXR2 hn hend hne hsq hgb hj1 h2 hJ3 hJ4 hJ5 hJ7;have q1:=Q1.out;have q2:=Q2.out;have q3:=Q3.out;have q4:=Q4.out;have q5:=Q5.out
 go_enter Tryz.func63,Tryz.ntmps63
 go_wp2_with fail
 refine(HSq'.out _).mono ?_;rintro e w1 ⟨rfl,hb1⟩;have HB1:=ak (belowOfSize hb1 HS0.out.1);have HS1:=ak (HS0.out.below hb1);have HX1:=ak (HX0.out.below HB1.out);clear hb1
 go_wp2_with fail
 refine(HLen.out _).mono ?_;rintro e w2 ⟨rfl,rfl⟩;have q6:=Q6.out;have q7:=Q7.out;have q8:=Q8.out;have q9:=Q9.out
 go_wp2_with fail
 have HS2:=ak HS1.out.new';have hfr:=HS1.out.fresh (Nat.le_refl _);obtain⟨h1,hh1⟩: ∃h1,w2.heap.size=h1:=⟨_,rfl⟩
 obtain⟨w3,hw3⟩: ∃w3,w2.alloc (.cells #[.bool false,.slice none 0 0] 55)=w3:=⟨_,rfl⟩
 rw[hh1,hw3]at HS2⊢;rw[hh1]at hfr;have HH1:=ak (show w.heap.size≤h1 by rw[←hh1];exact HB1.out.size);have HB3:=ak (belowJoin HB1.out HS2.out.2);have hx1:x≠h1:=by
  rcases HX1.out with e|e
  ·intro e2;rw[e2,hfr]at e;cases e
  ·have:=e.1;have:=HS1.out.1;omega
 have HQ:=ak (intLsh_new base h1 x gb 0 (upd s h1 0) w3 HS2.out.1 (upd_self _ _ _) X (HX1.out.step 0 hx1 HS2.out.2) hx1 (Nat.le_trans (lenb (q:=4) (Nat.lt_of_le_of_lt HXb.out.1 (Nat.pow_lt_pow_right (by omega) (show b<201 by have:=HD.out;omega))) (by omega)) (by omega)) (.inl (by have:=HD.out;have:=HGb.out;omega)) (by have:=HD.out;have:=HGb.out;omega));clear hh1 hw3 hx1;refine HQ.out.mono ?_;rintro e w4 ⟨rfl,hS4,hb4⟩;rw[upd_upd]at hS4;have HK4:=ak (show Kp s (upd s h1 (X*2^gb))from Kp.upd (fun _ _ h=>h) _ hfr);have HB4:=ak (belowJoin HB3.out hb4);have HS4:=ak hS4;clear hS4 hb4 HQ hfr HS2 HB3
 go_wp2_with fail
 have HQ:=ak (intRsh_self base h1 j (X*2^gb) (upd s h1 (X*2^gb)) w4 HS4.out (upd_self _ _ _) (by
  refine Nat.le_trans (lenc (K:=b+gb) (q:=8) ?_ (by have:=HD.out;have:=HGb.out;omega)) (by omega);rw[Int.natAbs_mul,Int.natAbs_pow,Nat.pow_add];exact Nat.mul_le_mul_right _ HXb.out.1) (by have:=HD.out;omega) (by have:=HD.out;omega))
 refine HQ.out.mono ?_;rintro e w5 ⟨rfl,hS5,hb5⟩;rw[upd_upd,show X*2^gb/2^j=XR by rw[pow_cast,pow_cast,←HGb.out];exact HXb.out.2.1]at hS5;have HK5:=ak (show Kp s (upd s h1 XR)from fun k v hk=>by
  have:=HK4.out k v hk;by_cases e:k=h1
  ·subst e;have h0:=HS0.out.lt hk;have:=HH1.out;omega
  ·rw[upd_ne _ _ e]at this⊢;exact this)
 have HP5:=ak (upd_self s h1 XR);have HB5:=ak (belowJoin HB4.out hb5);have HS5:=ak hS5;clear hS5 hb5 HQ HS4 HB4 HK4;generalize upd s h1 XR=s5 at*;clear q1 q2 q3 q4 q5 q6 q7 q8 q9
 go_wp2_with fail
 have HZ1:=ak (HS0.out.fresh HH1.out);have hlt1:=ak (HS5.out.lt HP5.out);have HS6:=ak HS5.out.new';obtain⟨h9,hh9⟩: ∃h9,w5.heap.size=h9:=⟨_,rfl⟩
 obtain⟨w6,hw6⟩: ∃w6,w5.alloc (.cells #[.bool false,.slice none 0 0] 55)=w6:=⟨_,rfl⟩
 have hf9:=ak (HS5.out.fresh (Nat.le_of_eq hh9));have hn9:=ak (show h1<h9 by rw[←hh9];exact hlt1.out);have HZ9:=ak (HS0.out.fresh (show w.heap.size≤h9 by rw[←hh9];exact HB5.out.size));rw[hh9,hw6]at HS6⊢;clear hh9 hw6;have HQ:=ak (oneInt_is base _ w6 HS6.out.1);refine HQ.out.mono ?_;rintro e w7 ⟨h0,rfl,hh0,hS7,hb7⟩;have hf0:=ak (HS6.out.1.fresh hh0);have hn0:=ak (show h9<h0 from Nat.lt_of_lt_of_le (HS6.out.1.lt (upd_self _ _ _)) hh0);have HB7:=ak (belowJoin (belowJoin HB5.out HS6.out.2) hb7);have HS7:=ak hS7;clear hh0 hS7 hb7 HQ HS6 HB5
 go_wp2_with fail
 have HQ:=ak (intLsh_new base h9 h0 g 0 _ w7 HS7.out (by rw[upd_ne _ _ (Nat.ne_of_lt hn0.out)];exact upd_self _ _ _) 1 (.inl (upd_self _ _ _)) (Nat.ne_of_gt hn0.out) (Nat.le_trans (lenb (K:=1) (q:=1) (by decide) (by omega)) (by omega)) (.inl (by have:=HD.out;omega)) (by have:=HD.out;omega));refine HQ.out.mono ?_;rintro e w8 ⟨rfl,hS8,hb8⟩;have HK8:=ak (show Kp s5 (upd (upd (upd s5 h9 0) h0 1) h9 (1*2^g))from((Kp.upd (fun _ _ h=>h) 0 hf9.out).upd 1 (by have:=hf0.out;rwa[upd_ne _ _ (Nat.ne_of_gt hn0.out)]at this)).upd _ hf9.out);have HQ9:=ak (upd_self (upd (upd s5 h9 0) h0 1) h9 (1*2^g));have HB8:=ak (belowJoin HB7.out hb8);have HS8:=ak hS8;clear hS8 hb8 HQ HS7 HB7 hf0;generalize upd (upd (upd s5 h9 0) h0 1) h9 (1*2^g)=s8 at*
 go_wp2_with fail
 have HS6:=ak HS8.out.new';have hlt9:=ak (HS8.out.lt HQ9.out);obtain⟨h10,hh10⟩: ∃h10,w8.heap.size=h10:=⟨_,rfl⟩
 obtain⟨w6,hw6⟩: ∃w6,w8.alloc (.cells #[.bool false,.slice none 0 0] 55)=w6:=⟨_,rfl⟩
 have hf10:=ak (HS8.out.fresh (Nat.le_of_eq hh10));have hn10:=ak (show h9<h10 by rw[←hh10];exact hlt9.out);have HZ10:=ak (HS0.out.fresh (show w.heap.size≤h10 by rw[←hh10];exact HB8.out.size));rw[hh10,hw6]at HS6⊢;clear hh10 hw6;have HQ:=ak (oneInt_is base _ w6 HS6.out.1);refine HQ.out.mono ?_;rintro e w9 ⟨h0',rfl,hh0,hS9,hb9⟩;have hf0:=ak (HS6.out.1.fresh hh0);have hn0':=ak (show h10<h0' from Nat.lt_of_lt_of_le (HS6.out.1.lt (upd_self _ _ _)) hh0);have HB9:=ak (belowJoin (belowJoin HB8.out HS6.out.2) hb9);have HS9:=ak hS9;clear hh0 hS9 hb9 HQ HS6 HB8
 go_wp2_with fail
 have HQ:=ak (intLsh_new base h10 h0' g 0 _ w9 HS9.out (by rw[upd_ne _ _ (Nat.ne_of_lt hn0'.out)];exact upd_self _ _ _) 1 (.inl (upd_self _ _ _)) (Nat.ne_of_gt hn0'.out) (Nat.le_trans (lenb (K:=1) (q:=1) (by decide) (by omega)) (by omega)) (.inl (by have:=HD.out;omega)) (by have:=HD.out;omega));refine HQ.out.mono ?_;rintro e w10 ⟨rfl,hS10,hb10⟩;have HK10:=ak (show Kp s8 (upd (upd (upd s8 h10 0) h0' 1) h10 (1*2^g))from((Kp.upd (fun _ _ h=>h) 0 hf10.out).upd 1 (by have:=hf0.out;rwa[upd_ne _ _ (Nat.ne_of_gt hn0'.out)]at this)).upd _ hf10.out);have HQ10:=ak (upd_self (upd (upd s8 h10 0) h0' 1) h10 (1*2^g));have HB10:=ak (belowJoin HB9.out hb10);have HS10:=ak hS10;clear hS10 hb10 HQ HS9 HB9 hf0;generalize upd (upd (upd s8 h10 0) h0' 1) h10 (1*2^g)=s10 at*
 go_wp2_with fail
 have HS11:=ak HS10.out.new';have hlt10:=ak (HS10.out.lt HQ10.out);obtain⟨h11,hh11⟩: ∃h11,w10.heap.size=h11:=⟨_,rfl⟩
 obtain⟨w11,hw11⟩: ∃w11,w10.alloc (.cells #[.bool false,.slice none 0 0] 55)=w11:=⟨_,rfl⟩
 have hf11:=ak (HS10.out.fresh (Nat.le_of_eq hh11));have hn11:=ak (show h10<h11 by rw[←hh11];exact hlt10.out);have HZ11:=ak (HS0.out.fresh (show w.heap.size≤h11 by rw[←hh11];exact HB10.out.size));rw[hh11,hw11]at HS11⊢;clear hh11 hw11
 have HF:=ak (show Fr base w w11 s (upd s10 h11 0) h1 h9 h10 h11 XR (An.exs XR g 0) (An.ext XR g 0) 0 from
  ⟨HS11.out.1,fun k v hk=>Kp.upd (fun _ _ h=>h) 0 hf11.out k v (HK10.out k v (HK8.out k v (HK5.out k v hk))),belowJoin HB10.out HS11.out.2,⟨HZ1.out,HZ9.out,HZ10.out,HZ11.out⟩,
   by have:=hn9.out;have:=hn10.out;have:=hn11.out;omega,
   Kp.upd (fun _ _ h=>h) 0 hf11.out _ _ (HK10.out _ _ (HK8.out _ _ HP5.out)),
   Kp.upd (fun _ _ h=>h) 0 hf11.out _ _ (HK10.out _ _ (by rw[HQ9.out,Int.one_mul,pow_cast];rfl)),
   Kp.upd (fun _ _ h=>h) 0 hf11.out _ _ (by rw[HQ10.out,Int.one_mul,pow_cast];rfl),upd_self _ _ _⟩)
 have HH9:=ak (show w.heap.size≤h9 by have:=HH1.out;have:=hn9.out;omega);clear HS11 HB10 HZ1 HZ9 HZ10 HZ11 hf11 hf10 hf9 hn11 hn10 hn9 hlt10 hlt9 hlt1 HK10 HK8 HK5 HP5 HQ9 HQ10 HS10 HS8 HS5 hn0 hn0' HH1;generalize upd s10 h11 0=s11 at*;clear s5 s8 s10 w5 w7 w8 w9 w10
 go_loopg [12] n (fun kq v12 w'=>∃(k:Nat) (s':Nat→Option Int) (d:Int),v12= .int .i64 ((k+1:Nat):Int)∧Aside0 (k+kq=n)∧Aside0 (Fr base w w' s s' h1 h9 h10 h11 XR (An.exs XR g k) (An.ext XR g k) d))
 case atStart=>exact⟨0,s11,0,rfl,ak (by omega),HF⟩
 case round=>
  obtain⟨k,s',d,rfl,hk,HF2⟩:=hrel;clear HF;have HE:=ak (ext_le XR g HXb.out.2.2.1 HD.out.2.2.2.2.2.2 k);have HXl:=ak (show(L64.lim XR.natAbs).length≤5 from lenc (K:=g) (by have:=HXb.out.2.2.1;omega) (by have:=HD.out;omega))
  go_wp2_with fail
  have HQ:=ak (intMul_self base h10 h1 (An.ext XR g k) s' wr HF2.out.st HF2.out.r XR (.inl HF2.out.p) HF2.out.ne.2.1 (Nat.lt_of_le_of_lt (lenc (q:=5) HE.out (by have:=HD.out;omega)) (by omega)) (Nat.lt_of_le_of_lt HXl.out (by omega)) (Thr.base HT.out HF2.out.bl HD.out.1));refine HQ.out.mono ?_;rintro e w3 ⟨rfl,hS3,hb3⟩;have HF3:=ak (HF2.out.setR hS3 hb3);clear hS3 hb3 HQ;generalize upd s' h10 (An.ext XR g k*XR)=s3 at*;have HE3:=ak (show(An.ext XR g k*XR).natAbs≤2^(g+g) by
   rw[Int.natAbs_mul,Nat.pow_add];exact Nat.mul_le_mul HE.out (by have:=HXb.out.2.2.1;omega))
  have HL3:=ak (show(L64.lim (An.ext XR g k*XR).natAbs).length≤8 from lenc HE3.out (by have:=HD.out;omega))
  go_wp2_with fail
  have HQ:=ak (intRsh_self base h10 g _ s3 w3 HF3.out.st HF3.out.r (Nat.le_trans HL3.out (by omega)) (by have:=HD.out;omega) (by have:=HD.out;omega));refine HQ.out.mono ?_;rintro e w4 ⟨rfl,hS4,hb4⟩;have HF4:=ak (HF3.out.setR hS4 hb4);clear hS4 hb4 HQ;generalize upd s3 h10 (An.ext XR g k*XR/2^g)=s4 at*
  go_wp2_with fail
  have HQ:=ak (intSetInt64_is base h11 (k+1) _ s4 w4 HF4.out.st HF4.out.t (by have:=HXb.out.2.2.2;have:=hk.out;omega));refine HQ.out.mono ?_;rintro e w5 ⟨rfl,hS5,hb5⟩;have HF5:=ak (HF4.out.setT hS5 hb5);clear hS5 hb5 HQ;generalize upd s4 h11 ((k+1:Nat):Int)=s5 at*
  go_wp2_with fail
  have HQ:=ak (intQuo_self base h10 h11 (k+1) _ s5 w5 HF5.out.st HF5.out.r HF5.out.t (Ne.symm HF5.out.ne.2.2.2.2.2) (Nat.le_trans (lenc (q:=8) (Nat.le_trans (Int.natAbs_ediv_le_natAbs _ _) HE3.out) (by have:=HD.out;omega)) (by omega)) (by omega) (by have:=HXb.out.2.2.2;have:=hk.out;omega));refine HQ.out.mono ?_;rintro e w6 ⟨rfl,hS6,hb6⟩;have hv:(An.ext XR g k*XR/2^g).tdiv ((k+1:Nat):Int)=An.ext XR g (k+1):=by rw[pow_cast];rfl
  rw[hv]at hS6;have HF6:=ak (HF5.out.setR hS6 hb6);clear hS6 hb6 HQ hv HF2 HF3 HF4 HF5 HL3 HE3 HXl HE;generalize upd s5 h10 (An.ext XR g (k+1))=s6 at*
  go_wp2_with fail
  have HQ:=ak (sgn_is base h10 _ s6 w6 HF6.out.st HF6.out.r);refine HQ.out.mono ?_;rintro e w7 ⟨rfl,rfl⟩;clear HQ s3 s4 s5 w3 w4 w5;by_cases hkn:k=n
  ·subst hkn;rw[HEnd.out.1]
   go_wp2_with fail
   have HG:=ak (show Fr base w w6 s s6 h1 h9 h10 h11 XR (An.sqs (An.exs XR g k) g 0) (An.ext XR g (k+1)) ((k+1:Nat):Int)from HF6.out);clear HF6 hk
   go_loopg [6] j (fun kq v6 w'=>∃(i:Nat) (s':Nat→Option Int),v6= .int .u64 (kq:Int)∧Aside0 (i+kq=j)∧Aside0 (Fr base w w' s s' h1 h9 h10 h11 XR (An.sqs (An.exs XR g k) g i) (An.ext XR g (k+1)) ((k+1:Nat):Int)))
   case atStart=>exact⟨0,s6,rfl,ak (Nat.zero_add j),HG⟩
   case round=>
    obtain⟨i,s',rfl,hi,HG2⟩:=hrel;clear HG;cases gk with
    |zero=>
     have HV:=ak (show Fr base w wr s s' h1 h9 h10 h11 XR (An.sqs (An.exs XR g k) g j) (An.ext XR g (k+1)) ((k+1:Nat):Int) by
      have e:i=j:=hi.out;rw[←e];exact HG2.out)
     have HSb:=ak (HEnd.out.2.2 j (Nat.le_refl j));clear hi HG2;have q9:=Q9.out
     go_wp2_with fail
     have HQ:=ak (intRsh_self base h9 gb _ s' wr HV.out.st HV.out.q (Nat.le_trans (lenc (K:=2+g) (q:=8) (by rw[Nat.pow_add];exact HSb.out) (by have:=HD.out;omega)) (by omega)) (by have:=HD.out;have:=HGb.out;omega) (by have:=HD.out;have:=HGb.out;omega));refine HQ.out.mono ?_;rintro e w3 ⟨rfl,hS3,hb3⟩;have HV3:=ak (HV.out.setQ hS3 hb3);clear hS3 hb3 HQ q9
     go_wp2_with fail
     go_ret2
     exact⟨_,_,rfl,HH9.out,HV3.out.st,by rw[HV3.out.q,HGb.out,pow_cast],HV3.out.kp,HV3.out.bl⟩
    |succ k1=>
     have c0:(0:Int)<((k1+1:Nat):Int):=Int.natCast_pos.2 (Nat.succ_pos k1);have c1:0<k1+1:=Nat.succ_pos k1;have HSb:=ak (HEnd.out.2.2 i (by have:=hi.out;omega));have HW:=ak (show IntKind.u64.wrap (k1:Int)=(k1:Int)from wrap_eq rfl (by have:=HD.out;have:=hi.out;omega))
     go_wp2_with fail
     have HQ:=ak (intSqr_self base h9 _ s' wr HG2.out.st HG2.out.q (Nat.lt_of_le_of_lt (lenc (K:=2+g) (q:=8) (by rw[Nat.pow_add];exact HSb.out) (by have:=HD.out;omega)) (by omega)) (Thr.base HT.out HG2.out.bl HD.out.1));refine HQ.out.mono ?_;rintro e w3 ⟨rfl,hS3,hb3⟩;have HG3:=ak (HG2.out.setQ hS3 hb3);clear hS3 hb3 HQ;generalize upd s' h9 (An.sqs (An.exs XR g k) g i*An.sqs (An.exs XR g k) g i)=s3 at*
     go_wp2_with fail
     have HQ:=ak (intRsh_self base h9 g _ s3 w3 HG3.out.st HG3.out.q (Nat.le_trans (lenc (K:=(2+g)+(2+g)) (q:=8) (by
      rw[Int.natAbs_mul,Nat.pow_add _ (2+g)];exact Nat.mul_le_mul (by rw[Nat.pow_add];exact HSb.out) (by rw[Nat.pow_add];exact HSb.out)) (by have:=HD.out;omega)) (by omega)) (by have:=HD.out;omega) (by have:=HD.out;omega))
     refine HQ.out.mono ?_;rintro e w4 ⟨rfl,hS4,hb4⟩;have HG4:=ak (HG3.out.setQ hS4 hb4);have hv:An.sqs (An.exs XR g k) g i*An.sqs (An.exs XR g k) g i/2^g=An.sqs (An.exs XR g k) g (i+1):=by rw[pow_cast];rfl
     rw[hv]at HG4;clear hS4 hb4 HQ hv;generalize upd s3 h9 (An.sqs (An.exs XR g k) g (i+1))=s4 at*
     go_wp2_with fail
     go_roundg k1
     case measure=>omega
     case rel=>exact⟨i+1,s4,by rw[HW.out],⟨by have:=hi.out;omega⟩,HG4⟩
  ·have hz:=HEnd.out.2.1 (k+1) (by have:=hk.out;omega);have hs0:(sgnZ (An.ext XR g (k+1))==0)=false:=by
    refine beq_eq_false_iff_ne.2 (fun e=>?_);unfold sgnZ at e;rw[if_neg hz]at e
    split at e<;>omega
   have HB:=ak (exs_le XR g HXb.out.2.2.1 HD.out.2.2.2.2.2.2 k);have HE:=ak (ext_le XR g HXb.out.2.2.1 HD.out.2.2.2.2.2.2 (k+1));have hkn2:=ak (show k<n by have:=hk.out;omega);have HW:=ak (show wrap64 (((k+1:Nat):Int)+1)=((k+1+1:Nat):Int) by
    have:=HXb.out.2.2.2;have:=hk.out;rw[Lm.w64 (by omega) (by omega)];omega)
   clear hkn hz
   go_wp2_with fail
   have HQ:=ak (intAdd_is base h9 h10 _ s6 w6 HF6.out.st HF6.out.q _ (.inl HF6.out.r) (Ne.symm HF6.out.ne.2.2.2.1) (Nat.le_trans (lenc (K:=8+g) (q:=8) (Nat.le_trans HB.out (by
    rw[Nat.pow_add];exact Nat.mul_le_mul_right _ (by have:=HXb.out.2.2.2;have:=hkn2.out;omega))) (by have:=HD.out;omega)) (by omega)) (Nat.le_trans (lenc (q:=8) HE.out (by have:=HD.out;omega)) (by omega)))
   refine HQ.out.mono ?_;rintro e w7 ⟨rfl,hS7,hb7⟩;have HF7:=ak (HF6.out.setQ hS7 hb7);clear hS7 hb7 HQ HF6;generalize upd s6 h9 (An.exs XR g k+An.ext XR g (k+1))=s7 at*;cases gk with
   |zero=>exact absurd hk.out (by have:=hkn2.out;omega)
   |succ k1=>
    go_wp2_with fail
    go_roundg k1
    case measure=>omega
    case rel=>exact⟨k+1,s7,_,(by first|rfl|rw[HW.out]|(rw[show((k:Int)+1+1)=((k+1:Nat):Int)+1 from rfl,HW.out])),⟨by have:=hk.out;omega⟩,HF7⟩
end Go.Proofs.YthlakefgobflnaaGreatDoor.G
