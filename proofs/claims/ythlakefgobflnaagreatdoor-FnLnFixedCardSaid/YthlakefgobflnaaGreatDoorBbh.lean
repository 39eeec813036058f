/- NUMBERS WITH SIGN THAT CHANGE IN PLACE: which ones a world holds, and where. FLOATS of 64 bits as rationals, with a bound of what rounding does. -/
import Derived.Test.YthlakefgobflnaaGreatDoorBbg
import Derived.Test.YthlakefgobflnaaGreatDoorBag
import Derived.Test.YthlakefgobflnaaGreatDoorBak
import Derived.Laws.FloatArith
namespace Go.Proofs.YthlakefgobflnaaGreatDoor.G
open Go.RowKit Go.Proofs.YthlakefgobflnaaGreatDoorW.PrintWords Go.Proofs.YthlakefgobflnaaGreatDoorW.PrintLast Go.Proofs.YthlakefgobflnaaGreatDoorW.PrintMore Go.Proofs.YthlakefgobflnaaGreatDoor.S
set_option linter.unusedVariables false
set_option linter.unusedSimpArgs false
def Num(base:Nat)(own:Nat→Nat)(w:World)(h:Nat)(n:Int):Prop:=own h=2*h∧base≤h∧∃v r,w.heap[h]?=some (.cells #[.bool (decide (n<0)),v] 55 (0,0))∧Row w v r (L64.lim n.natAbs)∧∀g,r=some g→own g=2*h+1∧base≤g
def StO(base:Nat)(own:Nat→Nat)(w:World)(s:Nat→Option Int):Prop:=∀h n,s h=some n→Num base own w h n
def St(base:Nat)(w:World)(s:Nat→Option Int):Prop:=base≤w.heap.size∧∃own,StO base own w s
def upd(s:Nat→Option Int)(h:Nat)(n:Int):Nat→Option Int:=fun k=>if k=h then some n else s k
theorem upd_self(s:Nat→Option Int)(h:Nat)(n:Int):upd s h n h=some n:=if_pos rfl
theorem upd_ne(s:Nat→Option Int){h k:Nat}(n:Int)(hk:k≠h):upd s h n k=s k:=if_neg hk
theorem upd_upd(s:Nat→Option Int)(h:Nat)(n m:Int):upd (upd s h n) h m=upd s h m:=by
 funext k
 unfold upd
 split<;>rfl
theorem Num.lt{base:Nat}{own:Nat→Nat}{w:World}{h:Nat}{n:Int}(hn:Num base own w h n):h<w.heap.size:=by
 obtain⟨_,_,_,_,hB,_⟩:=hn;exact blk_lt hB
theorem St.lt{base:Nat}{w:World}{s:Nat→Option Int}(hS:St base w s){h:Nat}{n:Int}(hn:s h=some n):h<w.heap.size:=by
 obtain⟨_,own,hO⟩:=hS;exact(hO h n hn).lt
theorem Num.move{base:Nat}{own:Nat→Nat}{w w':World}{h:Nat}{n:Int}(hn:Num base own w h n)(own':Nat→Nat)(ho: ∀k,k<w.heap.size→(own k=2*h∨own k=2*h+1)→own' k=own k∧w'.heap[k]?=w.heap[k]?):Num base own' w' h n:=by
 have hl:=hn.lt;obtain⟨h1,hb,v,r,hB,hR,h2⟩:=hn;have e:=ho h hl (.inl h1);refine⟨e.1.trans h1,hb,v,r,e.2.trans hB,hR.move (fun g hg=>?_),fun g hg=>?_⟩
 ·subst hg;exact(ho g hR.opd.lt (.inr (h2 g rfl).1)).2
 ·subst hg;have:=ho g hR.opd.lt (.inr (h2 g rfl).1);exact⟨this.1.trans (h2 g rfl).1,(h2 g rfl).2⟩
theorem St.below{base:Nat}{w w':World}{s:Nat→Option Int}(hS:St base w s)(hb:Below w.heap.size w w'):St base w' s:=by
 obtain⟨h0,own,hO⟩:=hS;exact⟨Nat.le_trans h0 hb.size,own,fun h n hn=>(hO h n hn).move own (fun k hk _=>⟨rfl,hb.block k hk⟩)⟩
theorem St.drew{base:Nat}{w:World}{s:Nat→Option Int}(hS:St base w s):St base w.drew s:=hS.below (below_drew (Below.refl _ _))
theorem St.sub{base:Nat}{w:World}{s s':Nat→Option Int}(hS:St base w s)(h: ∀k n,s' k=some n→s k=some n):St base w s':=by
 obtain⟨h0,own,hO⟩:=hS;exact⟨h0,own,fun k n hn=>hO k n (h k n hn)⟩
theorem St.new{base:Nat}{w:World}{s:Nat→Option Int}(hS:St base w s):St base (w.alloc (.cells #[.bool false,.slice none 0 0] 55)) (upd s w.heap.size 0):=by
 obtain⟨h0,own,hO⟩:=hS;have hb:=below_alloc (Below.refl w.heap.size w) (.cells #[.bool false,.slice none 0 0] 55);refine⟨Nat.le_trans h0 hb.size,fun k=>if k=w.heap.size then 2*w.heap.size else own k,fun h n hn=>?_⟩;by_cases e:h=w.heap.size
 ·subst e;rw[upd_self]at hn;obtain rfl:=Option.some.inj hn;refine⟨if_pos rfl,h0,_,none,blk_new w _,.inl ⟨rfl,rfl,L64.lim_zero⟩,fun g hg=>by cases hg⟩
 ·rw[upd_ne _ _ e]at hn;exact(hO h n hn).move _ (fun k hk _=>⟨if_neg (by omega),hb.block k hk⟩)
theorem StO.put{base:Nat}{own:Nat→Nat}{w w1 w2:World}{s:Nat→Option Int}{z:Nat}{a n:Int}{v0 v':Value}{r0 r':Option Nat}(h0:base≤w.heap.size)(hO:StO base own w s)(hz1:own z=2*z)(hzb:base≤z)
 (hB:w.heap[z]?=some (.cells #[.bool (decide (a<0)),v0] 55 (0,0))) (hr0: ∀g,r0=some g→own g=2*z+1∧base≤g) (hC:Chg r0 w w1) (hR:Row w1 v' r' (L64.lim n.natAbs)) (hN:New w r0 r')
 (hk: ∀k,k≠z→w2.heap[k]?=w1.heap[k]?) (hh:w2.heap[z]?=some (.cells #[.bool (decide (n<0)),v'] 55 (0,0))) (ho:w2.os=w1.os) (ht:w2.tape=w1.tape) (hp:w2.output=w1.output) (hs:w1.heap.size≤w2.heap.size):
 St base w2 (upd s z n)∧Below base w w2:=by
 have hzl:=blk_lt hB;have hr': ∀g,r'=some g→(own g=2*z+1∧r0=some g)∨w.heap.size≤g:=fun g hg=>hN.elim (fun e=>.inl ⟨(hr0 g (e.symm.trans hg)).1,e.symm.trans hg⟩) (fun e=>.inr (e g hg))
 refine⟨⟨Nat.le_trans h0 (Nat.le_trans hC.size hs),fun k=>if some k=r' then 2*z+1 else own k,fun h m hm=>?_⟩,⟨ho.trans hC.os,ht.trans hC.tape,hp.trans hC.output,Nat.le_trans hC.size hs,fun k hkb=>?_⟩⟩
 ·by_cases e:h=z
  ·subst e;rw[upd_self]at hm;obtain rfl:=Option.some.inj hm;have hzr:some h≠r':=fun e=>(hr' h e.symm).elim (fun x=>by have:=x.1;omega) (fun x=>by omega)
   refine⟨(if_neg hzr).trans hz1,hzb,v',r',hh,hR.move (fun g hg=>hk g (fun e=>hzr (by rw[←e,hg]))),fun g hg=>⟨if_pos hg.symm,?_⟩⟩;rcases hr' g hg with x|x
   ·exact(hr0 g x.2).2
   ·omega
  ·rw[upd_ne _ _ e]at hm;refine(hO h m hm).move _ (fun k hkl hkk=>?_);have hkz:k≠z:=fun e2=>by subst e2;omega
   have hkr0:some k≠r0:=fun e2=>by have:=(hr0 k e2.symm).1;omega
   have hkr:some k≠r':=fun e2=>(hr' k e2.symm).elim (fun x=>by have:=x.1;omega) (fun x=>by omega)
   exact⟨if_neg hkr,(hk k hkz).trans (hC.block k hkl hkr0)⟩
 ·have hkz:k≠z:=by omega
  have hkr0:some k≠r0:=fun e2=>by have:=(hr0 k e2.symm).2;omega
  exact(hk k hkz).trans (hC.block k (by omega) hkr0)
theorem Chg.undrew{r:Option Nat}{w w':World}(h:Chg r w.drew w'):Chg r w w':=⟨h.os,h.tape,h.output,h.size,h.block⟩
theorem Num.head{base:Nat}{own:Nat→Nat}{w w1:World}{h:Nat}{n:Int}{z:Nat}{r0:Option Nat}{v:Value}(hB:w.heap[h]?=some (.cells #[.bool (decide (n<0)),v] 55 (0,0)))(h1:own h=2*h)(hr0: ∀g,r0=some g→own g=2*z+1∧base≤g)(hC:Chg r0 w w1):w1.heap[h]?=some (.cells #[.bool (decide (n<0)),v] 55 (0,0)):=
 (hC.block h (blk_lt hB) (fun e=>by have:=(hr0 h e.symm).1;omega)).trans hB
theorem StO.put2{base:Nat}{own:Nat→Nat}{w w1:World}{s:Nat→Option Int}{z:Nat}{a n:Int}{v0 v':Value}{r0 r':Option Nat}(h0:base≤w.heap.size)(hO:StO base own w s)(hz1:own z=2*z)(hzb:base≤z)
 (hB:w.heap[z]?=some (.cells #[.bool (decide (a<0)),v0] 55 (0,0))) (hr0: ∀g,r0=some g→own g=2*z+1∧base≤g) (hC:Chg r0 w w1) (hR:Row w1 v' r' (L64.lim n.natAbs)) (hN:New w r0 r') {b:Bool} (hb:b=decide (n<0)):
 St base ((w1.setCell ⟨z,1,none⟩ v').setCell ⟨z,0,none⟩ (.bool b)) (upd s z n)∧Below base w ((w1.setCell ⟨z,1,none⟩ v').setCell ⟨z,0,none⟩ (.bool b)):=by
 have hB1:=Num.head hB hz1 hr0 hC;have hB2:=blk_put (cs':=#[.bool (decide (a<0)),v']) hB1 1 v' rfl;have hB3:=blk_put (cs':=#[.bool b,v']) hB2 0 (.bool b) rfl;rw[hb]at hB3⊢;refine StO.put h0 hO hz1 hzb hB hr0 hC hR hN (fun k hk=>?_) hB3 rfl rfl rfl (by simp[World.setCell]);rw[Below.heap_setCell _ ⟨z,0,none⟩ _ k hk,Below.heap_setCell _ ⟨z,1,none⟩ _ k hk]
def Arg(base:Nat)(w:World)(s:Nat→Option Int)(x:Nat)(n:Int):Prop:=s x=some n∨(x<base∧∃v r,w.heap[x]?=some (.cells #[.bool (decide (n<0)),v] 55 (0,0))∧Opd w v r (L64.lim n.natAbs)∧∀g,r=some g→g<base)
theorem StO.arg{base:Nat}{own:Nat→Nat}{w:World}{s:Nat→Option Int}{x z:Nat}{n:Int}{rz:Option Nat}(hO:StO base own w s)(hrz: ∀g,rz=some g→own g=2*z+1∧base≤g)(hx:Arg base w s x n):
 ∃v r,w.heap[x]?=some (.cells #[.bool (decide (n<0)),v] 55 (0,0))∧Opd w v r (L64.lim n.natAbs)∧∀w2,Chg rz w w2→w2.heap[x]?=some (.cells #[.bool (decide (n<0)),v] 55 (0,0)):=by
 rcases hx with hx|⟨hxb,v,r,hB,hR,hr⟩
 ·obtain⟨h1,h2,v,r,hB,hR,hr⟩:=hO x n hx;exact⟨v,r,hB,hR.opd,fun w2 hC=>Num.head hB h1 hrz hC⟩
 ·exact⟨v,r,hB,hR,fun w2 hC=>(hC.block x (blk_lt hB) (fun e=>by have:=(hrz x e.symm).2;omega)).trans hB⟩
theorem Arg.step{base z x:Nat}{w w':World}{s:Nat→Option Int}{n:Int}(m:Int)(h:Arg base w s x n)(hne:x≠z)(hb:Below base w w'):Arg base w' (upd s z m) x n:=by
 rcases h with h|⟨hxb,v,r,hB,hR,hr⟩
 ·exact .inl ((upd_ne s m hne).trans h)
 ·exact .inr ⟨hxb,v,r,(hb.block x hxb).trans hB,hR.move (fun g hg=>hb.block g (hr g hg)),hr⟩
theorem Arg.below{base x:Nat}{w w':World}{s:Nat→Option Int}{n:Int}(h:Arg base w s x n)(hb:Below base w w'):Arg base w' s x n:=by
 rcases h with h|⟨hxb,v,r,hB,hR,hr⟩
 ·exact .inl h
 ·exact .inr ⟨hxb,v,r,(hb.block x hxb).trans hB,hR.move (fun g hg=>hb.block g (hr g hg)),hr⟩
theorem blk_second{w:World}{z:Nat}{a b c d:Value}{T:TypeId}(h:w.heap[z]?=some (.cells #[a,b] T (0,0)))(k:w.heap[z]?=some (.cells #[c,d] T (0,0))):b=d:=by
 have e:=Option.some.inj (h.symm.trans k);injection e with e1;have e2:=congrArg Array.toList e1;injection e2 with _ e3;injection e3
theorem New.trans{a b:World}{r r' r'':Option Nat}(h:New a r r')(k:New b r' r'')(hs:a.heap.size≤b.heap.size):New a r r'':=by
 rcases k with rfl|k
 ·exact h
 ·exact .inr (fun g hg=>Nat.le_trans hs (k g hg))
theorem natOne_is(w:World):Calls Tryz.prog 78 #[] w fun e w'=>∃v r,e= .returned v∧Opd w' v r (L64.lim 1)∧Below w.heap.size w w':=by
 have HB:=ak (below_alloc (Below.refl w.heap.size w) (.cells #[.int .u64 1] 81));have HR:=ak (show Row (w.alloc (.cells #[.int .u64 1] 81)) (.slice (some ⟨w.heap.size,0,none⟩) 1 1) (some w.heap.size) (L64.lim 1) by
  have hl:L64.lim 1= [1]:=by rw[L64.lim_pos (by omega)];simp[L64.lim_zero]
  rw[hl];exact .inr ⟨w.heap.size,[1],rfl,blk_new w _,rfl,by simp,L64.ok_one (by omega) (by omega),rfl⟩)
 go_enter Tryz.func78,Tryz.ntmps78
 go_wp2_with fail
 go_ret
 exact⟨_,_,rfl,HR.out.opd,HB.out⟩
end Go.Proofs.YthlakefgobflnaaGreatDoor.G
namespace Go.Proofs.YthlakefgobflnaaGreatDoor.An
open Ieee
set_option linter.unusedVariables false
def p2(e:Int):Rat:=(2:Rat)^e
theorem p2_pos(e:Int):0<p2 e:=Rat.zpow_pos (by decide)
theorem p2_add(a b:Int):p2 (a+b)=p2 a*p2 b:=Rat.zpow_add (by decide) a b
theorem p2_nat(n:Nat):p2 (n:Int)=((2^n:Nat):Rat):=by
 unfold p2;rw[Rat.zpow_natCast,Rat.natCast_pow];rfl
theorem p2_zero:p2 0=1:=Rat.zpow_zero 2
theorem p2_mono{a b:Int}(h:a≤b):p2 a≤p2 b:=by
 obtain⟨n,rfl⟩: ∃n:Nat,b=a+n:=⟨(b-a).toNat,by omega⟩
 rw[p2_add,p2_nat];have h1:(1:Rat)≤((2^n:Nat):Rat):=by exact_mod_cast (show 1≤2^n from Nat.pow_pos (by omega))
 have:=Rat.mul_le_mul_of_nonneg_left h1 (Rat.le_of_lt (p2_pos a))
 grind
theorem p2_lt{a b:Int}(h:p2 a<p2 b):a<b:=by
 rcases Int.lt_or_le a b with h1|h1
 ·exact h1
 ·have:=p2_mono h1
  grind
theorem p2_succ(a:Int):p2 (a+1)=2*p2 a:=by
 rw[p2_add];have:p2 1=2:=Rat.zpow_one 2;rw[this]
 grind
def sg(s:Bool)(m:Nat):Int:=if s then-(m:Int)else(m:Int)
def V(w:Nat)(v:Rat):Prop:=∃s m e,double.read w= .number s m e∧v=(sg s m:Rat)*p2 e
theorem cut_near(s:Bool)(n drop:Nat):2*n≤2*(Toward.even.cut s n drop*2^drop)+2^drop∧2*(Toward.even.cut s n drop*2^drop)≤2*n+2^drop:=by
 unfold Toward.cut;simp only[Nat.one_shiftLeft];have hlog:n<2^(n.log2+1):=Nat.lt_log2_self;rcases Nat.le_total drop (n.log2+2)with h|h
 ·rw[Nat.min_eq_left h];have hp:0<2^drop:=Nat.pow_pos (by omega);have h1:=Nat.div_add_mod n (2^drop);have h2:=Nat.mod_lt n hp;generalize n/2^drop=q at*;generalize n%2^drop=r at*;generalize 2^drop=g at*;have e:g*q=q*g:=Nat.mul_comm _ _;by_cases hm:(decide (g<2*r)||(g==2*r&&q%2==1))=true
  ·have:g≤2*r:=by
    simp at hm;omega
   simp only[hm,Bool.toNat_true];rw[Nat.add_mul];omega
  ·have hm':(decide (g<2*r)||(g==2*r&&q%2==1))=false:=by simpa using hm
   have:2*r≤g:=by
    simp at hm';omega
   simp only[hm',Bool.toNat_false];rw[Nat.add_zero];omega
 ·rw[Nat.min_eq_right h];have e2:2^(n.log2+2)=2^(n.log2+1)*2:=Nat.pow_succ 2 (n.log2+1);have hle:2^(n.log2+2)≤2^drop:=Nat.pow_le_pow_right (by omega) h;have hq:n/2^(n.log2+2)=0:=Nat.div_eq_of_lt (by omega);have hr:n%2^(n.log2+2)=n:=Nat.mod_eq_of_lt (by omega);rw[hq,hr];have hm':(decide (2^(n.log2+2)<2*n)||(2^(n.log2+2)==2*n&&0%2==1))=false:=by
   simp;omega
  simp only[hm',Bool.toNat_false];omega
theorem read_word(s:Bool)(last:Int)(kept:Nat)(h1: -1074≤last)(h2:last≤950)(hk:kept≤2^53)(hk2: -1074<last→2^52≤kept):
 ∃m e,double.read (double.word s ((last-double.leastPlace).toNat*double.binade+kept))= .number s m e∧(m:Rat)*p2 e=(kept:Rat)*p2 last:=by
 have hl:double.leastPlace= -1074:=by decide
 have hb:double.binade=4503599627370496:=by decide
 have hs:double.signWeight=9223372036854775808:=by decide
 have hi:double.infRung=9218868437227405312:=by decide
 have hk:kept≤9007199254740992:=hk;have hk2: -1074<last→4503599627370496≤kept:=hk2;obtain⟨o,rfl⟩: ∃o:Nat,last=(o:Int)-1074:=⟨(last+1074).toNat,by omega⟩
 have ho:((o:Int)-1074- -1074).toNat=o:=by omega
 rw[hl,hb,ho];have hrl:o*4503599627370496+kept<9218868437227405312:=by omega
 have rd: ∀r,r<9223372036854775808→double.read (double.word s r)=(if r<4503599627370496 then .number s r (-1074)else if r<9218868437227405312 then .number s (4503599627370496+r%4503599627370496) (-1074+(r/4503599627370496-1:Nat))else if r=9218868437227405312 then .infinity s else .nan s (r-9218868437227405312)):=fun r hr=>by
  unfold Format.read Format.word;rw[hl,hb,hs,hi];cases s
  ·have e1:r/9223372036854775808%2=0:=by omega
   have e2:r%9223372036854775808=r:=by omega
   simp only[Bool.false_eq_true,if_false,e1,e2];rfl
  ·have e1:(9223372036854775808+r)/9223372036854775808%2=1:=by omega
   have e2:(9223372036854775808+r)%9223372036854775808=r:=by omega
   simp only[if_true,e1,e2];rfl
 rw[rd _ (by omega)];by_cases hc:o*4503599627370496+kept<4503599627370496
 ·rw[if_pos hc];have:o=0:=by omega
  refine⟨_,_,rfl,?_⟩;rw[this];have e:0*4503599627370496+kept=kept:=by omega
  rw[e];rfl
 ·rw[if_neg hc,if_pos (by omega)];refine⟨_,_,rfl,?_⟩;rcases Nat.lt_or_ge kept 4503599627370496 with h|h
  ·exfalso
   omega
  ·rcases Nat.lt_or_ge kept 9007199254740992 with h'|h'
   ·have e1:(o*4503599627370496+kept)/4503599627370496=o+1:=by omega
    have e2:4503599627370496+(o*4503599627370496+kept)%4503599627370496=kept:=by omega
    have e3: -1074+(((o+1-1:Nat)):Int)=(o:Int)-1074:=by omega
    rw[e2,e1,e3]
   ·have e1:(o*4503599627370496+kept)/4503599627370496=o+2:=by omega
    have e2:4503599627370496+(o*4503599627370496+kept)%4503599627370496=4503599627370496:=by omega
    have e3: -1074+(((o+2-1:Nat)):Int)=(o:Int)-1074+1:=by omega
    have e4:kept=9007199254740992:=by omega
    rw[e2,e1,e3,p2_succ,e4];have f1:((4503599627370496:Nat):Rat)=4503599627370496:=rfl;have f2:((9007199254740992:Nat):Rat)=9007199254740992:=rfl;rw[f1,f2]
    grind
theorem sg_rat(s:Bool)(m:Nat):(sg s m:Rat)=if s then-(m:Rat)else(m:Rat):=by
 unfold sg;cases s
 ·exact Rat.intCast_natCast m
 ·show((-(m:Int):Int):Rat)= -(m:Rat);rw[Rat.intCast_neg,Rat.intCast_natCast]
theorem V_zero(s:Bool):V (double.word s 0) 0:=by
 cases s
 ·exact⟨false,0,-1074,by decide,by rw[sg_rat];simp⟩
 ·exact⟨true,0,-1074,by decide,by rw[sg_rat];simp⟩
theorem nearest_near(s:Bool)(m:Nat)(e c:Int)(hc: -1000≤c)(hc2:c≤1000)(h:(m:Rat)*p2 e<p2 c):
 ∃v,V (double.nearest s m e) v∧Ab (v-(sg s m:Rat)*p2 e) (p2 (c-54)):=by
 have hl:double.leastPlace= -1074:=by decide
 have hf:double.fractionBits=52:=rfl;have hinf:double.infRung=2047*double.binade:=by decide
 have hbin:double.binade=2^52:=by decide
 by_cases hm:m=0
 ·refine⟨0,?_,?_⟩
  ·unfold Format.nearest;rw[if_pos hm];exact V_zero s
  ·rw[hm,sg_rat];have:=p2_pos (c-54);have e0:((0:Nat):Rat)=0:=rfl;rw[e0];constructor<;>(cases s<;>grind)
 unfold Format.nearest;rw[if_neg hm,hl,hf];dsimp only;have hlog1:2^m.log2≤m:=Nat.log2_self_le hm;have hlog2:m<2^(m.log2+1):=Nat.lt_log2_self;generalize m.log2=l at*;have hr1:((2^l:Nat):Rat)≤(m:Rat):=by exact_mod_cast hlog1
 have hr2:(m:Rat)<((2^(l+1):Nat):Rat):=by exact_mod_cast hlog2
 rw[←p2_nat]at hr1 hr2;have hple:e+(l:Int)<c:=by
  refine p2_lt ?_;rw[p2_add];have:=Rat.mul_le_mul_of_nonneg_right hr1 (Rat.le_of_lt (p2_pos e))
  grind
 have hlast: ∃last:Int,last=max (e+(l:Int)-(52:Nat)) (-1074)∧ -1074≤last∧last≤c-53∧e+l-52≤last∧(-1074<last→last=e+l-52):=⟨_,rfl,by omega,by omega,by omega,by omega⟩
 obtain⟨last,hle,hl1,hl2,hl3,hl4⟩:=hlast;rw[←hle];have hn:=cut_near s (m<<<(e-last).toNat) (last-e).toNat;rw[Nat.shiftLeft_eq]at hn⊢;generalize hk:Toward.even.cut s (m*2^(e-last).toNat) (last-e).toNat=kept at*;have hx:(m*2^(e-last).toNat:Nat)*p2 (last-(last-e).toNat)=(m:Rat)*p2 e:=by
  rw[Rat.natCast_mul,←p2_nat,Rat.mul_assoc,←p2_add]
  congr 2
  omega
 have hd:((2^(last-e).toNat:Nat):Rat)*p2 (last-(last-e).toNat)=p2 last:=by
  rw[←p2_nat,←p2_add]
  congr 1
  omega
 have hpu:=p2_pos (last-(last-e).toNat);have hn1:2*((m*2^(e-last).toNat:Nat):Rat)≤2*((kept:Rat)*((2^(last-e).toNat:Nat):Rat))+((2^(last-e).toNat:Nat):Rat):=by exact_mod_cast hn.1
 have hn2:2*((kept:Rat)*((2^(last-e).toNat:Nat):Rat))≤2*((m*2^(e-last).toNat:Nat):Rat)+((2^(last-e).toNat:Nat):Rat):=by exact_mod_cast hn.2
 have hn1':=Rat.mul_le_mul_of_nonneg_right hn1 (Rat.le_of_lt hpu);have hn2':=Rat.mul_le_mul_of_nonneg_right hn2 (Rat.le_of_lt hpu);generalize ((m*2^(e-last).toNat:Nat):Rat)=x at*;generalize ((2^(last-e).toNat:Nat):Rat)=d at*;generalize p2 (last-(last-e).toNat)=u at*;have near1:(m:Rat)*p2 e≤(kept:Rat)*p2 last+1/2*p2 last:=by rw[←hx,←hd];grind
 have near2:(kept:Rat)*p2 last≤(m:Rat)*p2 e+1/2*p2 last:=by rw[←hx,←hd];grind
 clear hn1 hn2 hn1' hn2' hx hd hpu hn;have hpl:=p2_pos last;have up:(m:Rat)*p2 e<((2^53:Nat):Rat)*p2 last:=by
  have h1:=Rat.mul_lt_mul_of_pos_right hr2 (p2_pos e);rw[←p2_add]at h1;have h2:p2 (((l+1:Nat):Int)+e)≤p2 (((53:Nat):Int)+last):=p2_mono (by omega);rw[p2_add ((53:Nat):Int) last,p2_nat]at h2
  grind
 have hk53:kept≤2^53:=by
  have:(kept:Rat)<((2^53+1:Nat):Rat):=by
   rcases rlt (kept:Rat) ((2^53+1:Nat):Rat)with h1|h1
   ·exact h1
   ·have:=Rat.mul_le_mul_of_nonneg_right h1 (Rat.le_of_lt hpl);have e1:((2^53+1:Nat):Rat)=((2^53:Nat):Rat)+1:=cast_succ _;rw[e1]at this
    grind
  have h3:kept<2^53+1:=by exact_mod_cast this
  omega
 have hk52: -1074<last→2^52≤kept:=fun hlt=>by
  have hle2:=hl4 hlt;have h1:=Rat.mul_le_mul_of_nonneg_right hr1 (Rat.le_of_lt (p2_pos e));rw[←p2_add]at h1;have h2:p2 (((52:Nat):Int)+last)≤p2 ((l:Int)+e):=p2_mono (by omega);rw[p2_add ((52:Nat):Int) last,p2_nat]at h2;have h3:((2^52:Nat):Rat)<(kept:Rat)+1:=by
   rcases rlt ((2^52:Nat):Rat) ((kept:Rat)+1)with h1|h1
   ·exact h1
   ·have:=Rat.mul_le_mul_of_nonneg_right h1 (Rat.le_of_lt hpl)
    grind
  have h4:2^52<kept+1:=by
   have e1:((kept+1:Nat):Rat)=(kept:Rat)+1:=cast_succ _;rw[←e1]at h3
   exact_mod_cast h3
  omega
 have hmin:min ((last- -1074).toNat*double.binade+kept) double.infRung=(last- -1074).toNat*double.binade+kept:=by
  refine Nat.min_eq_left ?_;rw[hinf,hbin];have hk53':kept≤9007199254740992:=hk53;have e52:(2:Nat)^52=4503599627370496:=by decide
  rw[e52];omega
 rw[hmin];obtain⟨m',e',h1,h2⟩:=read_word s last kept hl1 (by omega) hk53 hk52;rw[hl]at h1;refine⟨_,⟨s,m',e',h1,rfl⟩,?_⟩;have hfin:1/2*p2 last≤p2 (c-54):=by
  have h3:p2 last≤p2 (c-54+1):=p2_mono (by omega);rw[p2_succ]at h3
  grind
 rw[sg_rat,sg_rat];cases s
 ·constructor<;>grind
 ·constructor<;>grind
def D(d:Datum)(v:Rat):Prop:=∃s m e,d= .number s m e∧v=(sg s m:Rat)*p2 e
theorem signed_rat(s:Bool)(m up:Nat):((Ieee.signed s m up:Int):Rat)=(sg s m:Rat)*p2 (up:Int):=by
 unfold Ieee.signed;rw[sg_rat,p2_nat,Nat.shiftLeft_eq];cases s
 ·simp only[Bool.false_eq_true,if_false];rw[Rat.intCast_natCast,Rat.natCast_mul]
 ·simp only[if_true];rw[Rat.intCast_neg,Rat.intCast_natCast,Rat.natCast_mul]
  grind
theorem sg_abs(t:Int)(s:Bool):(sg (if t=0 then s else decide (t<0)) t.natAbs:Int)=t:=by
 unfold sg;by_cases h:t=0
 ·rw[if_pos h,h];cases s<;>rfl
 ·rw[if_neg h];by_cases h2:t<0
  ·simp only[h2,decide_true,if_true];omega
  ·simp only[h2,decide_false,Bool.false_eq_true,if_false];omega
theorem sum_D{d d':Datum}{a b:Rat}(h:D d a)(h':D d' b): ∃q,d.sum d'=some q∧D q (a+b):=by
 obtain⟨s,m,e,rfl,rfl⟩:=h;obtain⟨t,n,f,rfl,rfl⟩:=h';refine⟨_,rfl,_,_,_,rfl,?_⟩;rw[sg_abs,Rat.intCast_add,signed_rat,signed_rat,Rat.add_mul,Rat.mul_assoc,Rat.mul_assoc,←p2_add,←p2_add]
 congr 3<;>omega
theorem opp_D{d:Datum}{a:Rat}(h:D d a):D d.opposite (-a):=by
 obtain⟨s,m,e,rfl,rfl⟩:=h;refine⟨_,_,_,rfl,?_⟩;rw[sg_rat,sg_rat];cases s
 ·simp only[Bool.not_false,Bool.false_eq_true,if_false,if_true];grind
 ·simp only[Bool.not_true,Bool.false_eq_true,if_false,if_true];grind
theorem prod_D{d d':Datum}{a b:Rat}(h:D d a)(h':D d' b): ∃q,d.product d'=some q∧D q (a*b):=by
 obtain⟨s,m,e,rfl,rfl⟩:=h;obtain⟨t,n,f,rfl,rfl⟩:=h';refine⟨_,rfl,_,_,_,rfl,?_⟩;rw[p2_add,sg_rat,sg_rat,sg_rat,Rat.natCast_mul];cases s<;>cases t<;>simp only[Bool.xor_false,Bool.xor_true,Bool.not_true,Bool.not_false,Bool.false_eq_true,if_false,if_true]<;>grind
theorem quot_D{d d':Datum}{a b t:Rat}(h:D d a)(h':D d' b)(hb:b≠0)(ht:Ab (a/b) t): ∃q v,d.quotient 54 d'=some q∧D q v∧Ab (v-a/b) (t*p2 (-54)):=by
 obtain⟨s,m,i,rfl,rfl⟩:=h;obtain⟨s',n,j,rfl,rfl⟩:=h';have hn:n≠0:=by
  intro hn;apply hb;rw[hn,sg_rat];have e0:((0:Nat):Rat)=0:=rfl;rw[e0];cases s'<;>grind
 have hnr:(0:Rat)<(n:Rat):=by exact_mod_cast Nat.pos_of_ne_zero hn
 unfold Datum.quotient;simp only[hn,if_false];by_cases hm:m=0
 ·refine⟨_,0,rfl,⟨_,_,_,rfl,?_⟩,?_⟩
  ·rw[hm,Nat.shiftLeft_eq,Nat.zero_mul,Nat.zero_div,Nat.zero_mod,sg_rat];have e0:((2*0+((0:Nat) != 0).toNat:Nat):Rat)=0:=rfl;rw[e0];cases(s^^s')<;>simp only[Bool.false_eq_true,if_false,if_true]<;>grind
  ·have hz:(sg s m:Rat)*p2 i/((sg s' n:Rat)*p2 j)=0:=by
    rw[hm,sg_rat];have e0:((0:Nat):Rat)=0:=rfl;rw[e0];cases s<;>simp only[Bool.false_eq_true,if_false,if_true]<;>grind
   rw[hz]at ht⊢;have:=Rat.mul_nonneg ht.nonneg (Rat.le_of_lt (p2_pos (-54)));constructor<;>grind
 refine⟨_,_,rfl,⟨_,_,_,rfl,rfl⟩,?_⟩;rw[Nat.shiftLeft_eq];generalize hmore:54+n.log2-m.log2=more;have h1:=Nat.div_add_mod (m*2^more) n;have h2:=Nat.mod_lt (m*2^more) (Nat.pos_of_ne_zero hn);have hmag:(2*(m*2^more/n)+((m*2^more%n != 0):Bool).toNat)*n≤2*(m*2^more)+n∧2*(m*2^more)≤(2*(m*2^more/n)+((m*2^more%n != 0):Bool).toNat)*n+n:=by
  generalize m*2^more/n=q at*;generalize hr:m*2^more%n=r at*;have e:n*q=q*n:=Nat.mul_comm _ _;by_cases h0:r=0
  ·have:(r != 0)=false:=by simp[h0]
   rw[this,Bool.toNat_false,Nat.add_zero,Nat.mul_assoc];omega
  ·have:(r != 0)=true:=by simp[h0]
   rw[this,Bool.toNat_true,Nat.add_mul,Nat.mul_assoc];omega
 generalize 2*(m*2^more/n)+((m*2^more%n != 0):Bool).toNat=mag at*;clear h1 h2;have g1:(mag:Rat)*(n:Rat)≤2*((m:Rat)*((2^more:Nat):Rat))+(n:Rat):=by exact_mod_cast hmag.1
 have g2:2*((m:Rat)*((2^more:Nat):Rat))≤(mag:Rat)*(n:Rat)+(n:Rat):=by exact_mod_cast hmag.2
 have hX: ∃X:Rat,X*(n:Rat)=2*((m:Rat)*((2^more:Nat):Rat)):=⟨2*((m:Rat)*((2^more:Nat):Rat))/(n:Rat),by grind⟩
 obtain⟨X,hX⟩:=hX;have k1:(mag:Rat)≤X+1:=by
  rcases rlt (X+1) (mag:Rat)with h|h
  ·have:=Rat.mul_lt_mul_of_pos_right h hnr
   grind
  ·exact h
 have k2:X≤(mag:Rat)+1:=by
  rcases rlt ((mag:Rat)+1) X with h|h
  ·have:=Rat.mul_lt_mul_of_pos_right h hnr
   grind
  ·exact h
 clear g1 g2 hmag;have pj:=p2_pos j;have pu:=p2_pos (i-j-more-1);have epi:p2 i=p2 (i-j-more-1)*((2^more:Nat):Rat)*p2 j*2:=by
  have e1:i=(i-j-more-1)+(more:Int)+j+1:=by omega
  have e2:p2 i=p2 ((i-j-more-1)+(more:Int)+j+1):=congrArg p2 e1;rw[e2,p2_succ,p2_add,p2_add,p2_nat]
  grind
 have hq:(sg s m:Rat)*p2 i/((sg s' n:Rat)*p2 j)=(if(s^^s')then-1 else 1)*X*p2 (i-j-more-1):=by
  rw[epi,sg_rat,sg_rat];generalize p2 (i-j-more-1)=u at*;generalize p2 j=w at*;generalize (n:Rat)=n' at*;generalize (m:Rat)=m' at*;generalize ((2^more:Nat):Rat)=g at*;have base:m'*(u*g*w*2)/(n'*w)=X*u:=by
   rw[show m'*(u*g*w*2)=X*u*(n'*w) by grind];have:0<n'*w:=Rat.mul_pos hnr pj
   grind
  cases s<;>cases s'<;>simp only[Bool.xor_false,Bool.xor_true,Bool.not_true,Bool.not_false,Bool.false_eq_true,if_false,if_true]<;>grind
 rw[hq]at ht⊢;have hX2:((2^54:Nat):Rat)≤X:=by
  have l1:2^m.log2≤m:=Nat.log2_self_le hm;have l2:n<2^(n.log2+1):=Nat.lt_log2_self;have l3:2^54*n≤2*(m*2^more):=by
   calc 2^54*n≤2^54*2^(n.log2+1):=Nat.mul_le_mul_left _ (Nat.le_of_lt l2)
    _=2^(55+n.log2):=by rw[←Nat.pow_add];congr 1;omega
    _≤2^(m.log2+more+1):=Nat.pow_le_pow_right (by omega) (by omega)
    _=2*(2^m.log2*2^more):=by rw[Nat.pow_succ,Nat.pow_add];omega
    _≤2*(m*2^more):=Nat.mul_le_mul_left _ (Nat.mul_le_mul_right _ l1)
  have l4:((2^54:Nat):Rat)*(n:Rat)≤2*((m:Rat)*((2^more:Nat):Rat)):=by exact_mod_cast l3
  rw[←hX]at l4;exact Rat.le_of_mul_le_mul_right l4 hnr
 have hu:p2 (i-j-more-1)≤t*p2 (-54):=by
  generalize p2 (i-j-more-1)=u at*;have e:((2^54:Nat):Rat)*p2 (-54)=1:=by
   rw[←p2_nat,←p2_add];exact p2_zero
  have h3:((2^54:Nat):Rat)*u≤X*u:=Rat.mul_le_mul_of_nonneg_right hX2 (Rat.le_of_lt pu);have h4:X*u≤t:=by
   obtain⟨a,b⟩:=ht;cases s<;>cases s'<;>simp only[Bool.xor_false,Bool.xor_true,Bool.not_true,Bool.not_false,Bool.false_eq_true,if_false,if_true]at a b<;>grind
  have h5:=Rat.mul_le_mul_of_nonneg_right (show((2^54:Nat):Rat)*u≤t by grind) (Rat.le_of_lt (p2_pos (-54)));rw[Rat.mul_comm _ u,Rat.mul_assoc,e,Rat.mul_one]at h5;exact h5
 rw[sg_rat];have hu0:0≤(X+1-(mag:Rat))*p2 (i-j-more-1):=Rat.mul_nonneg (by grind) (Rat.le_of_lt pu);have hu1:0≤((mag:Rat)+1-X)*p2 (i-j-more-1):=Rat.mul_nonneg (by grind) (Rat.le_of_lt pu);generalize p2 (i-j-more-1)=u at*;cases s<;>cases s'<;>simp only[Bool.xor_false,Bool.xor_true,Bool.not_true,Bool.not_false,Bool.false_eq_true,if_false,if_true]<;>constructor<;>grind
end Go.Proofs.YthlakefgobflnaaGreatDoor.An
