/- CONTRACTS of bigall_nat_norm, bigall_natOne, bigall_low64: each as the plain function beside it. (Began as print.sh's text for this seat; the turns are those of wip/tools/split.py.) THE BIG NUMBERS' OWN OBJECT IN MEMORY, and its small functions: SetBits, Neg, Bits, Sign. CONTRACTS: impl_ZzWhole2. (Began as print.sh's text over a scratch copy; turned by wip/tools/transplant.py and by hand.) THE THIN PACKAGE's whole: a text's limbs. THE THIN PACKAGE's whole, on: words of 64 bits, and what the package makes of them (norm). THE THIN PACKAGE's whole: of a number's text, its words and its sign. WHAT THE REFERENCE SAYS of the texts of whole numbers: NatOf, ParseWhole. -/
import Derived.Test.YthlakefgobflnaaGreatDoorBaa
import Derived.Test.YthlakefgobflnaaGreatDoorBag
import Derived.Outline
import Derived.Lib.Builder
import Derived.Test.YthlakefgobflnaaGreatDoorBaq
import Derived.Test.YthlakefgobflnaaGreatDoorBar
namespace Go.Proofs.YthlakefgobflnaaGreatDoor.S
open Go.RowKit Go.Proofs.YthlakefgobflnaaGreatDoorW.PrintWords Go.Proofs.YthlakefgobflnaaGreatDoorW.PrintLast Go.Proofs.YthlakefgobflnaaGreatDoorW.PrintMore
attribute [local go_sem] max2_int min2_int max_two min_two max_three min_three max_four min_four   -- for this text's walks alone
set_option linter.unusedVariables false
set_option linter.unusedSimpArgs false
end Go.Proofs.YthlakefgobflnaaGreatDoor.S
namespace Go.Proofs.YthlakefgobflnaaGreatDoor.G
open Go.RowKit Go.Proofs.YthlakefgobflnaaGreatDoorW.PrintWords Go.Proofs.YthlakefgobflnaaGreatDoorW.PrintLast Go.Proofs.YthlakefgobflnaaGreatDoorW.PrintMore Go.Proofs.YthlakefgobflnaaGreatDoor.S
set_option linter.unusedVariables false
set_option linter.unusedSimpArgs false
def IntAt(w:World)(bs g:Nat)(b:Bool)(l:List Int):Prop:=∃A c,w.heap[g]?=some (.cells #[.bool b,.slice A l.length c] 55 (0,0))∧Kd.V (Kd.int .u64) 81 w 0 (fun k=>k≠g∧bs≤k) (.slice A l.length c) l
theorem IntAt.below{w w1:World}{bs g:Nat}{b:Bool}{l:List Int}(h:IntAt w bs g b l)(hb:Below w.heap.size w w1):IntAt w1 bs g b l:=by
 obtain⟨A,c,hB,hV⟩:=h;exact⟨A,c,blk_below hB hb,Kd.V_below hV hb⟩
theorem IntAt.lower{w:World}{bs bs' g:Nat}{b:Bool}{l:List Int}(h:IntAt w bs g b l)(hb:bs'≤bs):IntAt w bs' g b l:=by
 obtain⟨A,c,hB,hV⟩:=h;exact⟨A,c,hB,Kd.V_mono hV (fun k hk=>⟨hk.1,Nat.le_trans hb hk.2⟩)⟩
def sgnI(b:Bool)(l:List Int):Int:=if l.length=0 then 0 else if b=true then-1 else 1
theorem bits_is(g:Nat)(b:Bool)(l:List Int)(A:Option Addr)(c:Nat)(w:World)(hB:w.heap[g]?=some (.cells #[.bool b,.slice A l.length c] 55 (0,0))):
 Calls Tryz.prog 41 #[.pointer (some ⟨g,0,none⟩)] w fun e w'=>e= .returned (.slice A l.length c)∧w=w':=by
 have HB:=ak hB;clear hB;obtain⟨c0,zc0,c1,zc1⟩:=rf2 HB.out
 go_enter Tryz.func41,Tryz.ntmps41
 go_wp2_with fail
 go_ret
 exact⟨rfl,rfl⟩
theorem sign_is(bs g:Nat)(b:Bool)(l:List Int)(w:World)(h:IntAt w bs g b l):
 Calls Tryz.prog 42 #[.pointer (some ⟨g,0,none⟩)] w fun e w'=>e= .returned (.int .i64 (sgnI b l))∧w=w':=by
 obtain⟨A,c,hB,hV⟩:=h;have HB:=ak hB;clear hB hV;obtain⟨c0,zc0,c1,zc1⟩:=rf2 HB.out;by_cases hl:l.length=0
 ·have hd:((l.length:Int)==0)=true:=by simp[hl]
  have e:sgnI b l=0:=if_pos hl;have HE:=ak e;clear e
  go_enter Tryz.func42,Tryz.ntmps42
  go_wp2_with fail
  exact bodyPost_ret (v:=.int .i64 0) (by simp[results,Tryz.results42,go_sem]) rfl ⟨by rw[HE.out],rfl⟩
 ·have hd:((l.length:Int)==0)=false:=by simp;exact fun h=>hl (by rw[h];rfl)
  cases b with
  |true=>
   have HE:=ak (show sgnI true l= -1 by unfold sgnI;rw[if_neg hl,if_pos rfl])
   go_enter Tryz.func42,Tryz.ntmps42
   go_wp2_with fail
   exact bodyPost_ret (v:=.int .i64 (-1)) (by simp[results,Tryz.results42,go_sem]) rfl ⟨by rw[HE.out],rfl⟩
  |false=>
   have HE:=ak (show sgnI false l=1 by unfold sgnI;rw[if_neg hl,if_neg (by decide)])
   go_enter Tryz.func42,Tryz.ntmps42
   go_wp2_with fail
   exact bodyPost_ret (v:=.int .i64 1) (by simp[results,Tryz.results42,go_sem]) rfl ⟨by rw[HE.out],rfl⟩
end Go.Proofs.YthlakefgobflnaaGreatDoor.G
namespace Go.Proofs.YthlakefgobflnaaGreatDoor.S
open Go.Proofs.YthlakefgobflnaaGreatDoor.G Go.RowKit Go.Proofs.YthlakefgobflnaaGreatDoorW.PrintWords Go.Proofs.YthlakefgobflnaaGreatDoorW.PrintLast Go.Proofs.YthlakefgobflnaaGreatDoorW.PrintMore
attribute [local go_sem] max2_int min2_int max_two min_two max_three min_three max_four min_four
set_option linter.unusedVariables false
set_option linter.unusedSimpArgs false
mutual
def impl_whole.j0:Nat→ByteArray→Bool→Option (List Int×Bool)
 |0,_,_=>none
 |k+1,x0,x4=>if x4=true then(if 1≤(x0.size:Int)then(impl_whole.j1 k (x0.extract 1 x0.size) x4)else(none))else(impl_whole.j1 k x0 x4)
def impl_whole.j1:Nat→ByteArray→Bool→Option (List Int×Bool)
 |0,_,_=>none
 |k+1,x0,x4=>if(x0.size:Int)=0 then(impl_whole.j2 k x0 x4 true)else(if(x0.size:Int)>400 then(impl_whole.j2 k x0 x4 true)else(if 0<(x0.size:Int)then(if(bt x0 0)=48 then(if(x0.size:Int)>1 then(impl_whole.j2 k x0 x4 true)else(impl_whole.j2 k x0 x4 x4))else(impl_whole.j2 k x0 x4 false))else(none)))
def impl_whole.j2:Nat→ByteArray→Bool→Bool→Option (List Int×Bool)
 |0,_,_,_=>none
 |k+1,x0,x4,x44=>if x44=true then(none)else(impl_whole.l0 k x0 x4 ([]:List Int) 0)
def impl_whole.l0:Nat→ByteArray→Bool→List Int→Int→Option (List Int×Bool)
 |0,_,_,_,_=>none
 |k+1,x0,x4,x5,x6=>if x6<(x0.size:Int)then(impl_whole.l1 k x0 x4 x5 x6 0 1)else(impl_whole.l3 k x4 x5 ([]:List Int) (x5.length:Int) 0)
def impl_whole.l1:Nat→ByteArray→Bool→List Int→Int→Int→Int→Option (List Int×Bool)
 |0,_,_,_,_,_,_=>none
 |k+1,x0,x4,x5,x6,x7,x8=>if x6<(x0.size:Int)then(impl_whole.j5 k x0 x4 x5 x6 x7 x8 (decide (x8<1000000000)))else(impl_whole.j5 k x0 x4 x5 x6 x7 x8 false)
def impl_whole.j5:Nat→ByteArray→Bool→List Int→Int→Int→Int→Bool→Option (List Int×Bool)
 |0,_,_,_,_,_,_,_=>none
 |k+1,x0,x4,x5,x6,x7,x8,x56=>if x56=true then(if 0≤x6 then(if x6<(x0.size:Int)then(if(bt x0 x6)<48 then(none)else(if(bt x0 x6)>57 then(none)else(impl_whole.l1 k x0 x4 x5 (wrap64 (x6+1)) (IntKind.u64.wrap ((IntKind.u64.wrap (x7*10))+(((bt x0 x6)-48)%256))) (IntKind.u64.wrap (x8*10)))))else(none))else(none))else(impl_whole.l2 k x0 x4 x5 x6 x7 x8 (x5.length:Int) 0)
def impl_whole.l2:Nat→ByteArray→Bool→List Int→Int→Int→Int→Int→Int→Option (List Int×Bool)
 |0,_,_,_,_,_,_,_,_=>none
 |k+1,x0,x4,x5,x6,x7,x8,x80,x81=>if x81<x80 then(if 0≤x81 then(if x81<(x5.length:Int)then(impl_whole.l2 k x0 x4 (x5.set (x81:Int).toNat (Go.bits .and .u64 (IntKind.u64.wrap (x7+(IntKind.u64.wrap ((rd x5 x81)*x8)))) 4294967295)) x6 ((IntKind.u64.wrap (x7+(IntKind.u64.wrap ((rd x5 x81)*x8))))/4294967296) x8 x80 (wrap64 (x81+1)))else(none))else(none))else(if x7>0 then(if x5.length<17592186044416 then(impl_whole.l0 k x0 x4 (x5++ [x7]) x6)else(none))else(impl_whole.l0 k x0 x4 x5 x6))
def impl_whole.l3:Nat→Bool→List Int→List Int→Int→Int→Option (List Int×Bool)
 |0,_,_,_,_,_=>none
 |k+1,x4,x5,x10,x107,x108=>if x108<x107 then(if(Int.tmod x108 2)=0 then(if 0≤x108 then(if x108<(x5.length:Int)then(if x10.length<17592186044416 then(impl_whole.l3 k x4 x5 (x10++ [rd x5 x108]) x107 (wrap64 (x108+1)))else(none))else(none))else(none))else(if 0≤(wrap64 (Int.tdiv x108 2))then(if(wrap64 (Int.tdiv x108 2))<(x10.length:Int)then(if 0≤x108 then(if x108<(x5.length:Int)then(impl_whole.l3 k x4 x5 (x10.set ((wrap64 (Int.tdiv x108 2)):Int).toNat (Go.bits .or .u64 (rd x10 (wrap64 (Int.tdiv x108 2))) (IntKind.u64.wrap ((rd x5 x108)*4294967296)))) x107 (wrap64 (x108+1)))else(none))else(none))else(none))else(none)))else(if x4=true then(some (x10,true))else(some (x10,false)))
end
def impl_whole.f(k:Nat)(a0:ByteArray):Option (List Int×Bool):=if(a0.size:Int)>0 then(if 0<(a0.size:Int)then(impl_whole.j0 k a0 ((bt a0 0)==45))else(none))else(impl_whole.j0 k a0 false)
end Go.Proofs.YthlakefgobflnaaGreatDoor.S
namespace Go.Proofs.YthlakefgobflnaaGreatDoor.Lm
open Go.RowKit Go.Proofs.YthlakefgobflnaaGreatDoorW.PrintWords Go.Proofs.YthlakefgobflnaaGreatDoorW.PrintMore Go.Proofs.YthlakefgobflnaaGreatDoor.S
set_option linter.unusedVariables false
theorem val_take32{l:List Int}{i:Nat}(h:i<l.length):L32.val (l.take (i+1))=L32.val (l.take i)+4294967296^i*(l.getD i 0).toNat:=by
 rw[List.take_add_one,List.getElem?_eq_getElem h,Option.toList_some,L32.val_snoc,List.length_take,Nat.min_eq_left (by omega),List.getD_eq_getElem?_getD,List.getElem?_eq_getElem h];rfl
theorem wh_step(A P c sc x D t:Nat)(ht:t=c+x*sc):A+P*(t%4294967296)+P*4294967296*(t/4294967296+sc*D)=A+P*(c+sc*(x+4294967296*D)):=by
 have h:=Nat.mod_add_div t 4294967296;generalize t%4294967296=u at h⊢;generalize t/4294967296=v at h⊢;have:u+4294967296*v=c+x*sc:=by omega
 grind
theorem wh_l2(s:ByteArray)(b:Bool)(i6:Int)(sc:Nat)(hsc:sc≤1000000000)(L:Nat)(hL:L≤1000)(v':Nat)(P:List Int×Bool→Prop)
 (next: ∀x5:List Int,L32.Ok x5→L32.val x5=v'→x5.length≤L+1→∃r,P r∧Ev (fun k=>impl_whole.l0 k s b x5 i6) r) (d:Nat):
 ∀(i c:Nat) (x5:List Int),i+d=L→x5.length=L→L32.Ok x5→c<4294967296→L32.val (x5.take i)+4294967296^i*(c+sc*L32.val (x5.drop i))=v'→
  ∃r,P r∧Ev (fun k=>impl_whole.l2 k s b x5 i6 (c:Int) (sc:Int) (L:Int) (i:Int)) r:=by
 induction d with
 |zero=>
  intro i c x5 hi hl hok hc hv;rw[List.take_of_length_le (by omega),List.drop_eq_nil_of_le (by omega)]at hv;by_cases h0:c=0
  ·subst h0;obtain⟨r,hr,he⟩:=next x5 hok (by simpa [L32.val]using hv) (by omega);refine⟨r,hr,Ev.step ?_⟩;simp only[impl_whole.l2];exact Ev.neg (by omega) (Ev.neg (by omega) he)
  ·obtain⟨r,hr,he⟩:=next (x5++ [(c:Int)]) (L32.ok_snoc hok (by omega) (by omega)) (by
    rw[L32.val_snoc,hl,←show i=L by omega]
    simpa [L32.val]using hv) (by simp;omega)
   refine⟨r,hr,Ev.step ?_⟩;simp only[impl_whole.l2];exact Ev.neg (by omega) (Ev.pos (by omega) (Ev.pos (by omega) he))
 |succ d ih=>
  intro i c x5 hi hl hok hc hv;obtain⟨hx0,hx1⟩:=L32.ok_get hok i;obtain⟨x,hx⟩: ∃x:Nat,x5.getD i 0=(x:Int):=⟨(x5.getD i 0).toNat,by omega⟩
  have hxr:rd x5 (i:Int)=(x:Int):=(rd_nat x5 i).trans hx;have hxl:x<4294967296:=by omega
  have hm:x*sc≤4294967295*1000000000:=Nat.mul_le_mul (by omega) hsc;obtain⟨t,ht⟩: ∃t,t=c+x*sc:=⟨_,rfl⟩
  have et:IntKind.u64.wrap ((c:Int)+IntKind.u64.wrap ((x:Int)*(sc:Int)))=(t:Int):=by
   have e1:IntKind.u64.wrap ((x:Int)*(sc:Int))=((x*sc:Nat):Int):=by rw[←Int.natCast_mul];exact wu64 (by omega) (by omega)
   rw[e1,←Int.natCast_add,←ht];exact wu64 (by omega) (by omega)
  obtain⟨r,hr,he⟩:=ih (i+1) (t/4294967296) (x5.set i ((t%4294967296:Nat):Int)) (by omega) (by simpa using hl) (L32.ok_set hok i (by omega) (by omega)) (by omega) (by
   rw[val_take32 (by simp;omega),List.take_set_of_le (Nat.le_refl i),List.drop_set_of_lt (Nat.lt_succ_self i),List.getD_eq_getElem?_getD,List.getElem?_set_self (by omega),Option.getD_some,Int.toNat_natCast,Nat.pow_succ];rw[L32.val_drop (show i<x5.length by omega),hx,Int.toNat_natCast]at hv;rw[←hv];exact wh_step _ _ c sc x _ t ht)
  refine⟨r,hr,Ev.step ?_⟩;simp only[impl_whole.l2];rw[hxr,et,and32 t (by omega),Int.toNat_natCast,show(t:Int)/4294967296=((t/4294967296:Nat):Int) by omega,w64s i (by omega)];exact Ev.pos (by omega) (Ev.pos (by omega) (Ev.pos (by omega) he))
def Digs(s:ByteArray)(n N:Nat):Prop:=s.size=N∧n<10^N∧∀i,i<N→bt s (i:Int)=48+((n/10^(N-1-i)%10:Nat):Int)
theorem wh_l1(s:ByteArray)(b:Bool)(x5:List Int)(n N i0 J:Nat)(hs:Digs s n N)(hN:N≤400)(hJ:J=min 9 (N-i0))(hi0:i0≤N)(r:List Int×Bool)
 (next:Ev (fun k=>impl_whole.l2 k s b x5 ((i0+J:Nat):Int) ((n/10^(N-(i0+J))%10^J:Nat):Int) ((10^J:Nat):Int) (x5.length:Int) 0) r) (d:Nat):
 ∀j,j+d=J→Ev (fun k=>impl_whole.l1 k s b x5 ((i0+j:Nat):Int) ((n/10^(N-(i0+j))%10^j:Nat):Int) ((10^j:Nat):Int)) r:=by
 obtain⟨hsz,hn,hd⟩:=hs;induction d with
 |zero=>
  intro j hj;obtain rfl:j=J:=hj;refine Ev.step ?_;simp only[impl_whole.l1];by_cases h:i0+j<N
  ·have h9:j=9:=by omega
   refine Ev.pos (by omega) (Ev.step ?_);simp only[impl_whole.j5];rw[show decide (((10^j:Nat):Int)<1000000000)=false from by subst h9;decide];exact Ev.neg (by simp) next
  ·refine Ev.neg (by omega) (Ev.step ?_);simp only[impl_whole.j5];exact Ev.neg (by simp) next
 |succ d ih=>
  intro j hj;refine Ev.step ?_;simp only[impl_whole.l1];refine Ev.pos (by omega) (Ev.step ?_);simp only[impl_whole.j5];have hp:10^j≤10^8:=Nat.pow_le_pow_right (by omega) (by omega);have hdi:=hd (i0+j) (by omega);obtain⟨q,hq⟩: ∃q,n/10^(N-1-(i0+j))=q:=⟨_,rfl⟩
  have hq1:n/10^(N-(i0+j))=q/10:=by
   rw[←hq,Nat.div_div_eq_div_mul,←Nat.pow_succ];congr 2;omega
  have hq2:n/10^(N-(i0+(j+1)))=q:=by rw[←hq];congr 2;omega
  rw[hq]at hdi;have hlt:q/10%10^j<10^j:=Nat.mod_lt _ (Nat.pow_pos (by omega));rw[show decide (((10^j:Nat):Int)<1000000000)=true from decide_eq_true (by omega),hdi,hq1];refine Ev.pos rfl (Ev.pos (by omega) (Ev.pos (by omega) (Ev.neg (by omega) (Ev.neg (by omega) ?_))));have h1:=ih (j+1) (by omega);rw[hq2,Nat.pow_succ,Nat.mul_comm (10^j) 10,Nat.mod_mul]at h1;obtain⟨u,hu⟩: ∃u,q/10%10^j=u:=⟨_,rfl⟩
  obtain⟨p,hpp⟩: ∃p,10^j=p:=⟨_,rfl⟩
  rw[hu]at h1 hlt⊢;rw[hpp]at h1 hlt hp⊢;have e1:IntKind.u64.wrap ((u:Int)*10)=((10*u:Nat):Int):=by rw[show(u:Int)*10=((10*u:Nat):Int) by omega];exact wu64 (by omega) (by omega)
  have e2:IntKind.u64.wrap (((10*u:Nat):Int)+(48+((q%10:Nat):Int)-48)%256)=((q%10+10*u:Nat):Int):=by rw[show((10*u:Nat):Int)+(48+((q%10:Nat):Int)-48)%256=((q%10+10*u:Nat):Int) by omega];exact wu64 (by omega) (by omega)
  have e3:IntKind.u64.wrap ((p:Int)*10)=((10*p:Nat):Int):=by rw[show(p:Int)*10=((10*p:Nat):Int) by omega];exact wu64 (by omega) (by omega)
  rw[e1,e2,e3,w64s _ (by omega),show i0+j+1=i0+(j+1) by omega];exact h1
theorem wh_l0(s:ByteArray)(b:Bool)(n N:Nat)(hs:Digs s n N)(hN:N≤400)(P:List Int×Bool→Prop)
 (next: ∀x5:List Int,L32.Ok x5→L32.val x5=n→x5.length≤500→∃r,P r∧Ev (fun k=>impl_whole.l3 k b x5 [] (x5.length:Int) 0) r) (m:Nat):
 ∀(i0:Nat) (x5:List Int),N-i0≤9*m→i0≤N→L32.Ok x5→L32.val x5=n/10^(N-i0)→x5.length+m≤500→∃r,P r∧Ev (fun k=>impl_whole.l0 k s b x5 (i0:Int)) r:=by
 have hsz:=hs.1;have fin: ∀(i0:Nat) (x5:List Int),i0=N→L32.Ok x5→L32.val x5=n/10^(N-i0)→x5.length≤500→∃r,P r∧Ev (fun k=>impl_whole.l0 k s b x5 (i0:Int)) r:=fun i0 x5 h hok hv hl=>by
  subst h;obtain⟨r,hr,he⟩:=next x5 hok (by rw[hv,Nat.sub_self];simp) hl;refine⟨r,hr,Ev.step ?_⟩;simp only[impl_whole.l0];exact Ev.neg (by omega) he
 induction m with
 |zero=>
  intro i0 x5 h hi hok hv hl;exact fin i0 x5 (by omega) hok hv (by omega)
 |succ m ih=>
  intro i0 x5 h hi hok hv hl;by_cases he:i0=N
  ·exact fin i0 x5 he hok hv (by omega)
  ·obtain⟨J,hJ⟩: ∃J,min 9 (N-i0)=J:=⟨_,rfl⟩
   have hp:10^J≤10^9:=Nat.pow_le_pow_right (by omega) (by omega);have hlt:n/10^(N-(i0+J))%10^J<10^J:=Nat.mod_lt _ (Nat.pow_pos (by omega));obtain⟨r,hr,hw⟩:=wh_l2 s b ((i0+J:Nat):Int) (10^J) hp x5.length (by omega) (n/10^(N-(i0+J))) P (fun x hx1 hx2 hx3=>ih (i0+J) x (by omega) (by omega) hx1 hx2 (by omega)) x5.length 0 (n/10^(N-(i0+J))%10^J) x5 (by omega) rfl hok (by omega) (by
    rw[List.take_zero,List.drop_zero,hv,show n/10^(N-i0)=n/10^(N-(i0+J))/10^J by rw[Nat.div_div_eq_div_mul,←Nat.pow_add];congr 2;omega];simp only[L32.val,Nat.pow_zero,Nat.one_mul,Nat.zero_add];exact Nat.mod_add_div _ _)
   refine⟨r,hr,Ev.step ?_⟩;simp only[impl_whole.l0];refine Ev.pos (by omega) ?_;have h1:=wh_l1 s b x5 n N i0 J hs hN hJ.symm hi r hw J 0 (Nat.zero_add _)
   simpa using h1
end Go.Proofs.YthlakefgobflnaaGreatDoor.Lm
namespace Go.Proofs.YthlakefgobflnaaGreatDoor.Lm
open Go.RowKit Go.Proofs.YthlakefgobflnaaGreatDoorW.PrintWords Go.Proofs.YthlakefgobflnaaGreatDoorW.PrintMore Go.Proofs.YthlakefgobflnaaGreatDoor.S
set_option linter.unusedVariables false
theorem pow64(m:Nat):(18446744073709551616:Nat)^m=4294967296^(2*m):=by rw[Nat.pow_mul]
theorem wi_val(x10:List Int)(m u x A:Nat)(hm:m<x10.length)(ho:L64.Ok x10)(hu:x10.getD m 0=(u:Int))(hp:18446744073709551616^m*(4294967296*x)=A):L64.val (x10.set m ((u+4294967296*x:Nat):Int))=L64.val x10+A:=by
 have h:=L64.val_set hm ho (((u+4294967296*x:Nat):Int));rw[hu,Int.toNat_natCast,Int.toNat_natCast,Nat.mul_add,hp,Nat.add_comm _ A,←Nat.add_assoc]at h;exact Nat.add_right_cancel h
theorem wi_pow(m x i:Nat)(h:i=2*m+1):(18446744073709551616:Nat)^m*(4294967296*x)=4294967296^i*x:=by
 rw[pow64,h,Nat.pow_succ,Nat.mul_assoc]
theorem wh_l3(b:Bool)(x5:List Int)(hok:L32.Ok x5)(L:Nat)(hL:x5.length=L)(hl:L≤1000)(d:Nat): ∀(i:Nat) (x10:List Int),i+d=L→L64.Ok x10→x10.length=(i+1)/2→L64.val x10=L32.val (x5.take i)→
 (i%2=1→x10.getD (i/2) 0<4294967296)→∃x:List Int,L64.Ok x∧L64.val x=L32.val x5∧x.length≤1000∧Ev (fun k=>impl_whole.l3 k b x5 x10 (L:Int) (i:Int)) (x,b):=by
 induction d with
 |zero=>
  intro i x10 hi ho hlen hv hodd;refine⟨x10,ho,by rw[hv,List.take_of_length_le (by omega)],by omega,Ev.step ?_⟩;simp only[impl_whole.l3];refine Ev.neg (by omega) ?_;cases b with
  |true=>exact Ev.pos rfl (Ev.pure _)
  |false=>exact Ev.neg (by simp) (Ev.pure _)
 |succ d ih=>
  intro i x10 hi ho hlen hv hodd;obtain⟨hx0,hx1⟩:=L32.ok_get hok i;obtain⟨x,hx⟩: ∃x:Nat,x5.getD i 0=(x:Int):=⟨(x5.getD i 0).toNat,by omega⟩
  have hxr:rd x5 (i:Int)=(x:Int):=(rd_nat x5 i).trans hx;have ht:=val_take32 (l:=x5) (i:=i) (by omega);rw[hx,Int.toNat_natCast]at ht;obtain⟨A,hA⟩: ∃A,4294967296^i*x=A:=⟨_,rfl⟩
  rw[hA]at ht;have HA:=ak hA;clear hA;by_cases h2:i%2=0
  ·have hval:L64.val (x10++ [(x:Int)])=L32.val (x5.take (i+1)):=by
    rw[L64.val_snoc,ht,hv,hlen,pow64,show 2*((i+1)/2)=i by omega,Int.toNat_natCast,HA.out]
   have hlast:(x10++ [(x:Int)]).getD ((i+1)/2) 0<4294967296:=by
    rw[show(i+1)/2=x10.length by omega,List.getD_eq_getElem?_getD,List.getElem?_append_right (Nat.le_refl _),Nat.sub_self];show(x:Int)<_;omega
   obtain⟨y,hy1,hy2,hy3,hy⟩:=ih (i+1) (x10++ [(x:Int)]) (by omega) (L64.ok_snoc ho (by omega) (by omega)) (by rw[List.length_append,List.length_singleton];omega) hval (fun _=>hlast);refine⟨y,hy1,hy2,hy3,Ev.step ?_⟩;simp only[impl_whole.l3];rw[hxr,w64s i (by omega)];exact Ev.pos (by omega) (Ev.pos (by rw[Int.tmod_eq_emod_of_nonneg (by omega)];omega) (Ev.pos (by omega) (Ev.pos (by omega) (Ev.pos (by omega) hy))))
  ·have hm:i=2*(i/2)+1:=by omega
   obtain⟨m,hm2⟩: ∃m,i/2=m:=⟨_,rfl⟩
   have hold:=hodd (by omega);obtain⟨ho0,ho1⟩:=L64.ok_get ho m;rw[hm2]at hold hm;obtain⟨u,hu⟩: ∃u:Nat,x10.getD m 0=(u:Int):=⟨(x10.getD m 0).toNat,by omega⟩
   have hur:rd x10 (m:Int)=(u:Int):=(rd_nat x10 m).trans hu;have hval:L64.val (x10.set m ((u+4294967296*x:Nat):Int))=L32.val (x5.take (i+1)):=(wi_val x10 m u x A (by omega) ho hu ((wi_pow m x i hm).trans HA.out)).trans (by rw[ht,hv]);have hA:L64.Ok (x10.set m ((u+4294967296*x:Nat):Int)):=L64.ok_set ho m (Int.natCast_nonneg _) (by omega);have hlen':(x10.set m ((u+4294967296*x:Nat):Int)).length=(i+1+1)/2:=by rw[List.length_set];omega
   have hodd':(i+1)%2=1→False:=fun h=>by omega
   obtain⟨v,hv2⟩: ∃v:Int,((u+4294967296*x:Nat):Int)=v:=⟨_,rfl⟩
   rw[hv2]at hval hA hlen';obtain⟨y,hy1,hy2,hy3,hy⟩:=ih (i+1) (x10.set m v) (by omega) hA hlen' hval (fun h=>(hodd' h).elim);have hxl:x<4294967296:=by omega
   have hul:u<4294967296:=by omega
   have hc1:(i:Int)<(L:Int):=by omega
   have hc2: ¬Int.tmod (i:Int) 2=0:=by rw[Int.tmod_eq_emod_of_nonneg (by omega)];omega
   have hc3:(0:Int)≤(m:Int):=by omega
   have hc4:(m:Int)<(x10.length:Int):=by omega
   have hc5:(0:Int)≤(i:Int):=by omega
   have hc6:(i:Int)<(x5.length:Int):=by omega
   have hw1:=w64s i (by omega);have e1:wrap64 (Int.tdiv (i:Int) 2)=(m:Int):=by
    clear hw1 hxr hur;rw[Int.tdiv_eq_ediv_of_nonneg (by omega),w64 (by omega) (by omega)];omega
   have e2:=u64_32 x hxl;have e3:=or_w u x hul hxl;refine⟨y,hy1,hy2,hy3,Ev.step ?_⟩;simp only[impl_whole.l3];rw[hxr,hw1,e1,hur,e2,e3,hv2,Int.toNat_natCast];exact Ev.pos hc1 (Ev.neg hc2 (Ev.pos hc3 (Ev.pos hc4 (Ev.pos hc5 (Ev.pos hc6 hy)))))
theorem wh_j1(s:ByteArray)(b:Bool)(n N:Nat)(hs:Digs s n N)(hN0:0<N)(hN:N≤400)(hz:bt s 0=48→N=1∧b=false): ∃x:List Int,L64.Ok x∧L64.val x=n∧x.length≤1000∧Ev (fun k=>impl_whole.j1 k s b) (x,b):=by
 have hsz:=hs.1;have l3: ∀x5:List Int,L32.Ok x5→L32.val x5=n→x5.length≤500→∃x:List Int,L64.Ok x∧L64.val x=n∧x.length≤1000∧Ev (fun k=>impl_whole.l3 k b x5 [] (x5.length:Int) 0) (x,b):=fun x5 h1 h2 h3=>by
  obtain⟨x,hx1,hx2,hx3,hx⟩:=wh_l3 b x5 h1 _ rfl (by omega) x5.length 0 [] (by omega) L64.ok_nil rfl rfl (fun h=>by omega);exact⟨x,hx1,hx2.trans h2,hx3,hx⟩
 obtain⟨r,⟨x,rfl,h1,h2,h3⟩,he⟩:=wh_l0 s b n N hs hN (fun r=>∃x,r=(x,b)∧L64.Ok x∧L64.val x=n∧x.length≤1000) (fun x5 g1 g2 g3=>by
  obtain⟨x,k1,k2,k3,k⟩:=l3 x5 g1 g2 g3;exact⟨_,⟨x,rfl,k1,k2,k3⟩,k⟩) 45 0 [] (by omega) (by omega) L32.ok_nil (by rw[Nat.sub_zero,Nat.div_eq_of_lt hs.2.1];rfl) (by simp)
 have j2:Ev (fun k=>impl_whole.j2 k s b false) (x,b):=by
  refine Ev.step ?_;simp only[impl_whole.j2];exact Ev.neg (by simp) he
 refine⟨x,h1,h2,h3,Ev.step ?_⟩;simp only[impl_whole.j1];refine Ev.neg (by omega) (Ev.neg (by omega) (Ev.pos (by omega) ?_));by_cases h0:bt s 0=48
 ·obtain⟨hN1,rfl⟩:=hz h0;exact Ev.pos h0 (Ev.neg (by omega) j2)
 ·exact Ev.neg h0 j2
end Go.Proofs.YthlakefgobflnaaGreatDoor.Lm
namespace Go.Proofs.YthlakefgobflnaaGreatDoor.Lm
open Go.RowKit Go.Proofs.YthlakefgobflnaaGreatDoorW.PrintWords Go.Proofs.YthlakefgobflnaaGreatDoorW.PrintMore Go.Proofs.YthlakefgobflnaaGreatDoor.S
set_option linter.unusedVariables false
theorem bt_str(l:List Int)(i:Nat)(x:Nat)(h:l[i]?=some (x:Int))(hx:x<256):bt (strOfNums l) (i:Int)=(x:Int):=by
 have hl:i<l.length:=(List.getElem?_eq_some_iff.1 h).1;have hs:((i:Int)).toNat<(strOfNums l).size:=by rw[strOfNums_size,Int.toNat_natCast];exact hl
 rw[←bt_at _ _ hs];have he:l[i]=(x:Int):=(List.getElem?_eq_some_iff.1 h).2;show(((strOfNums l).data[((i:Int)).toNat]'hs).toNat:Int)=x;unfold strOfNums;simp[he];omega
theorem digs_decimal(n:Nat): ∃N,0<N∧N≤max 1 (ndig n)∧Digs (decimal n) n N∧(bt (decimal n) 0=48→N=1∧n=0):=by
 by_cases h0:n=0
 ·subst h0;refine⟨1,Nat.one_pos,Nat.le_max_left _ _,⟨rfl,by decide,fun i hi=>?_⟩,fun _=>⟨rfl,rfl⟩⟩;obtain rfl:i=0:=Nat.lt_one_iff.1 hi;rfl
 ·have hd:decimal n=strOfNums (revDig n).reverse:=by unfold decimal;rw[if_neg h0]
  have hN:0<ndig n:=by
   have:=(revDig_len n 0).2 (by simpa using h0);exact this
  have hbt: ∀i,i<ndig n→bt (decimal n) (i:Int)=48+((n/10^(ndig n-1-i)%10:Nat):Int):=fun i hi=>by
   have hr:(revDig n).reverse[i]?=some (((48+n/10^(ndig n-1-i)%10:Nat):Int)):=by
    have hlt:ndig n-1-i<(revDig n).length:=by show _<ndig n;omega
    rw[List.getElem?_reverse (by exact hi)];have:=revDig_get n (ndig n-1-i) hlt;rw[List.getD_eq_getElem?_getD,List.getElem?_eq_getElem hlt,Option.getD_some]at this;show(revDig n)[ndig n-1-i]?=_;rw[List.getElem?_eq_getElem hlt,this]
   have:=bt_str _ i _ hr (by omega);rw[hd,this];omega
  refine⟨ndig n,hN,by omega,⟨by rw[hd,strOfNums_size,List.length_reverse];rfl,ndig_le.1 (Nat.le_refl _),hbt⟩,fun h=>?_⟩;have h1:=hbt 0 hN;have h2:n/10^(ndig n-1-0)%10=0:=by
   have:(((0:Nat):Int))=0:=rfl;rw[this]at h1;omega
  have h3:n/10^(ndig n-1)≠0:=(revDig_len n (ndig n-1)).1 (by show _<ndig n;omega);have h4:n/10^(ndig n-1)<10:=by
   have:=ndig_le.1 (Nat.le_refl (ndig n));rw[show ndig n=ndig n-1+1 by omega,Nat.pow_succ]at this;exact Nat.div_lt_of_lt_mul this
  rw[Nat.sub_zero]at h2;clear h1 h hbt;generalize n/10^(ndig n-1)=q at h2 h3 h4;omega
theorem text_extract(y:ByteArray):((⟨#[45]⟩:ByteArray)++y).extract 1 ((⟨#[45]⟩:ByteArray)++y).size=y:=by
 apply bytes_eq;rw[ByteArray.toList_eq,ByteArray.toList_eq,ByteArray.data_extract,ByteArray.data_append,ByteArray.size_append,Array.toList_extract,Array.toList_append];show List.extract (45::y.data.toList) 1 (1+y.size)=_;rw[List.extract_eq_take_drop,List.drop_succ_cons,List.drop_zero];exact List.take_of_length_le (by rw[data_length];omega)
theorem text_bt(y:ByteArray):bt ((⟨#[45]⟩:ByteArray)++y) 0=45:=by
 have h:(0:Int).toNat<((⟨#[45]⟩:ByteArray)++y).size:=by rw[ByteArray.size_append];show 0<1+_;omega
 rw[←bt_at _ _ h];show((((⟨#[45]⟩:ByteArray)++y)[0]'h).toNat:Int)=45;rw[ByteArray.getElem_append_left (by decide)];rfl
theorem whole_some(b:Bool)(n:Nat)(hb:b=true→n≠0)(hn:ndig n≤400): ∃x:List Int,L64.Ok x∧L64.val x=n∧x.length≤1000∧Ev (fun k=>impl_whole.f k (text b n)) (x,b):=by
 obtain⟨N,hN0,hN1,hd,hz⟩:=digs_decimal n;have hsz:=hd.1;obtain⟨x,h1,h2,h3,h4⟩:=wh_j1 (decimal n) b n N hd hN0 (by omega) (fun h=>by
  obtain⟨e1,e2⟩:=hz h;refine⟨e1,?_⟩;cases b with
  |true=>exact absurd e2 (hb rfl)
  |false=>rfl)
 refine⟨x,h1,h2,h3,?_⟩;cases b with
 |true=>
  have ht:text true n=(⟨#[45]⟩:ByteArray)++decimal n:=if_pos rfl;have hs:(text true n).size=1+N:=by rw[ht,ByteArray.size_append,hsz];rfl
  have hj:Ev (fun k=>impl_whole.j0 k (text true n) true) (x,true):=by
   refine Ev.step ?_;simp only[impl_whole.j0];refine Ev.pos (by simp) (Ev.pos (by omega) ?_);rw[ht,text_extract];exact h4
  have hq:(bt (text true n) 0==45)=true:=by rw[ht,text_bt];rfl
  exact Ev.congr (Ev.pos (c:=((text true n).size:Int)>0) (h:=fun k=>impl_whole.j0 k (text true n) false) (by omega) (Ev.pos (c:=0<((text true n).size:Int)) (h:=fun _=>none) (by omega) hj)) (fun k=>by unfold impl_whole.f;rw[hq])
 |false=>
  have ht:text false n=decimal n:=if_neg (by simp);have hj:Ev (fun k=>impl_whole.j0 k (decimal n) false) (x,false):=by
   refine Ev.step ?_;simp only[impl_whole.j0];exact Ev.neg (by simp) h4
  have hq:(bt (decimal n) 0==45)=false:=by
   have:=hd.2.2 0 hN0;have e0:(((0:Nat):Int))=0:=rfl;rw[e0]at this;rw[this];simp only[beq_eq_false_iff_ne];omega
  rw[ht];exact Ev.congr (Ev.pos (c:=((decimal n).size:Int)>0) (h:=fun k=>impl_whole.j0 k (decimal n) false) (by omega) (Ev.pos (c:=0<((decimal n).size:Int)) (h:=fun _=>none) (by omega) hj)) (fun k=>by unfold impl_whole.f;rw[hq])
end Go.Proofs.YthlakefgobflnaaGreatDoor.Lm
namespace Go.Proofs.YthlakefgobflnaaGreatDoor.Lm
open Go.RowKit Go.Proofs.YthlakefgobflnaaGreatDoorW.PrintWords Go.Proofs.YthlakefgobflnaaGreatDoorW.PrintMore Go.Proofs.YthlakefgobflnaaGreatDoor.S
set_option linter.unusedVariables false
theorem dig_step(m t:Nat):m/10%10^t*10+m%10=m%10^(t+1):=by
 rw[Nat.pow_succ,Nat.mul_comm (10^t) 10,Nat.mod_mul];omega
theorem natD_in(s:ByteArray)(n N:Nat)(hd:Digs s n N)(hN:N≤400)(x4:List Int)(hx:x4.length<35184372088832)(en i0:Nat)(hen:en≤N)(h9:en-i0≤9)(r:List Int×Bool)
 (next:Ev (fun k=>spec_NatOf.l0 k s (x4++ [((n/10^(N-en)%10^(en-i0):Nat):Int)]) (wrap64 ((en:Int)-9))) r) (d:Nat):
 ∀i,i+d=en→i0≤i→Ev (fun k=>spec_NatOf.l1 k s x4 (en:Int) ((n/10^(N-i)%10^(i-i0):Nat):Int) (i:Int)) r:=by
 obtain⟨hsz,hlt,hbt⟩:=hd;induction d with
 |zero=>
  intro i hi h0;obtain rfl:i=en:=hi;refine Ev.step ?_;simp only[spec_NatOf.l1];exact Ev.neg (by omega) (Ev.pos hx next)
 |succ d ih=>
  intro i hi h0;have h:=ih (i+1) (by omega) (by omega);have hb:=hbt i (by omega);have e0:n/10^(N-i)=n/10^(N-(i+1))/10:=by
   rw[Nat.div_div_eq_div_mul,show 10^(N-(i+1))*10=10^(N-i)from by rw[←Nat.pow_succ];congr 1;omega]
  rw[show N-1-i=N-(i+1) by omega]at hb;have hx8:n/10^(N-i)%10^(i-i0)<10^8:=Nat.lt_of_lt_of_le (Nat.mod_lt _ (Nat.pow_pos (by omega))) (Nat.pow_le_pow_right (by omega) (by omega));rw[show i+1-i0=i-i0+1 by omega,←dig_step,←e0]at h;have hc9:n/10^(N-(i+1))%10<10:=Nat.mod_lt _ (by omega);generalize n/10^(N-i)%10^(i-i0)=x at hx8 h⊢;generalize n/10^(N-(i+1))%10=c at hb h hc9;refine Ev.step ?_;simp only[spec_NatOf.l1];have e1:((((x:Int)*10)%4294967296)+((bt s (i:Int)-48)%256))%4294967296=((x*10+c:Nat):Int):=by rw[hb];omega
  refine Ev.pos (by omega) (Ev.pos (by omega) (Ev.pos (by omega) (Ev.neg (by omega) (Ev.neg (by omega) ?_))));rw[e1,w64s i (by omega)];exact h
theorem natD_out(s:ByteArray)(n N:Nat)(hd:Digs s n N)(hN0:0<N)(hN:N≤400)(d:Nat): ∀(j:Nat) (x4:List Int),9*j+d=N+9→x4.length=j→Ok x4→val x4=n%10^(9*j)→
 Ev (fun k=>spec_NatOf.l0 k s x4 ((N:Int)-9*(j:Int))) (lim n,true):=by
 have hsz:=hd.1;have hne:(s.toList != ([]:List UInt8))=true:=by
  rw[bne_iff_ne];intro h;rw[ByteArray.toList_eq]at h;have:=data_length s;rw[h,hsz]at this;simp at this;omega
 induction d using Nat.strongRecOn with
 |_ d ih=>
  intro j x4 hj hl hok hv;refine Ev.step ?_;simp only[spec_NatOf.l0];by_cases hp:9*j<N
  ·have hpw:(1000000000:Nat)^j=10^(9*j):=by rw[show(1000000000:Nat)=10^9 from rfl,←Nat.pow_mul]
   obtain⟨en,hen⟩: ∃en,en=N-9*j:=⟨_,rfl⟩
   have e1:(N:Int)-9*(j:Int)=(en:Int):=by omega
   have e2:mx 0 (wrap64 ((en:Int)-9))=((en-9:Nat):Int):=by rw[w64 (by omega) (by omega)];unfold mx;split<;>omega
   have e3:wrap64 ((en:Int)-9)=(N:Int)-9*((j+1:Nat):Int):=by rw[w64 (by omega) (by omega)];omega
   have hNe:N-en=9*j:=by omega
   have hy:n/10^(9*j)%10^(en-(en-9))=n/10^(9*j)%10^9:=by
    by_cases h9:9≤en
    ·rw[show en-(en-9)=9 by omega]
    ·have hlt:n/10^(9*j)<10^en:=Nat.div_lt_of_lt_mul (by rw[←Nat.pow_add,show 9*j+en=N by omega];exact hd.2.1);rw[show en-(en-9)=en by omega,Nat.mod_eq_of_lt hlt,Nat.mod_eq_of_lt (Nat.lt_of_lt_of_le hlt (Nat.pow_le_pow_right (by omega) (by omega)))]
   have hylt:n/10^(9*j)%10^9<1000000000:=Nat.mod_lt _ (by decide)
   have hK:=ih (d-9) (by omega) (j+1) (x4++ [((n/10^(9*j)%10^9:Nat):Int)]) (by omega) (by rw[List.length_append,hl];rfl) (ok_snoc hok (Int.natCast_nonneg _) (by omega))
    (by rw[val_snoc,hv,hl,Int.toNat_natCast,hpw,show 9*(j+1)=9*j+9 by omega,Nat.pow_add,Nat.mod_mul])
   rw[←e3,←hy]at hK;have h:=natD_in s n N hd hN x4 (by omega) en (en-9) (by omega) (by omega) (lim n,true) (by rw[hNe];exact hK) (en-(en-9)) (en-9) (by omega) (Nat.le_refl _);rw[Nat.sub_self,Nat.pow_zero,Nat.mod_one]at h;rw[e1,e2];exact Ev.pos (by omega) h
  ·have hlt:n<10^(9*j):=Nat.lt_of_lt_of_le hd.2.1 (Nat.pow_le_pow_right (by omega) (by omega));rw[Nat.mod_eq_of_lt hlt]at hv;have ht:=natTrim x4 hok (by omega);rw[hv]at ht;rw[hne];exact Ev.neg (by omega) (ht.bind (Ev.pure _))
theorem natOf_digs(s:ByteArray)(n N:Nat)(hd:Digs s n N)(hN0:0<N)(hN:N≤400):Ev (fun k=>spec_NatOf.f k s) (lim n,true):=by
 have h:=natD_out s n N hd hN0 hN (N+9) 0 [] (by omega) rfl ok_nil (by rw[Nat.mul_zero,Nat.pow_zero,Nat.mod_one];rfl);refine Ev.congr h (fun k=>?_);unfold spec_NatOf.f;rw[hd.1]
 congr 1
theorem toList_ne{s:ByteArray}(h:0<s.size): ¬s.toList=([]:List UInt8):=fun e=>by
 rw[ByteArray.toList_eq]at e;have:=data_length s;rw[e]at this;simp at this;omega
theorem parse_text(b:Bool)(n:Nat)(hb:b=true→n≠0)(hn:ndig n≤390):Ev (fun k=>spec_ParseWhole.f k (text b n)) (b,lim n,true):=by
 obtain⟨N,hN0,hN1,hd,hz⟩:=digs_decimal n;have hsz:=hd.1;have hq:=natOf_digs (decimal n) n N hd hN0 (by omega);cases b with
 |true=>
  have ht:text true n=(⟨#[45]⟩:ByteArray)++decimal n:=if_pos rfl;have hs:(text true n).size=1+N:=by rw[ht,ByteArray.size_append,hsz];rfl
  have h45:bt (text true n) 0=45:=by rw[ht,text_bt]
  have hne:=toList_ne (s:=text true n) (by omega);have hj1:Ev (fun k=>spec_ParseWhole.j1 k (text true n) true true) (true,lim n,true):=by
   refine Ev.step ?_;simp only[spec_ParseWhole.j1];refine Ev.pos (by simp) (Ev.pos (by omega) ?_);have he:(text true n).extract 1 (text true n).size=decimal n:=by rw[ht,text_extract]
   rw[he];have hw:=wholeOf true n;rw[sg_pos (hb rfl)]at hw;exact hq.bind ((Ev.of hw).bind (Ev.pure _))
  have hj0:Ev (fun k=>spec_ParseWhole.j0 k (text true n) true) (true,lim n,true):=by
   refine Ev.step ?_;simp only[spec_ParseWhole.j0];exact Ev.neg hne (Ev.pos (by omega) (Ev.pos h45 hj1))
  refine Ev.congr (Ev.neg (g:=fun k=>spec_ParseWhole.j0 k (text true n) false) hne (Ev.pos (c:=0<((text true n).size:Int)) (h:=fun _=>none) (by omega) hj0)) (fun k=>?_);unfold spec_ParseWhole.f;rw[h45];rfl
 |false=>
  have ht:text false n=decimal n:=if_neg (by simp);have hb0:=hd.2.2 0 hN0;have e0:(((0:Nat):Int))=0:=rfl;rw[e0]at hb0;have hne:=toList_ne (s:=decimal n) (by omega);have h45: ¬bt (decimal n) 0=45:=by omega
  have h45b:(bt (decimal n) 0==45)=false:=beq_eq_false_iff_ne.2 h45;have h43:(bt (decimal n) 0==43)=false:=beq_eq_false_iff_ne.2 (by omega);rw[ht];have hj1:Ev (fun k=>spec_ParseWhole.j1 k (decimal n) false false) (false,lim n,true):=by
   refine Ev.step ?_;simp only[spec_ParseWhole.j1];exact Ev.neg (by decide) (hq.bind ((Ev.of (wholeOf false n)).bind (Ev.pure _)))
  have hj0:Ev (fun k=>spec_ParseWhole.j0 k (decimal n) false) (false,lim n,true):=by
   refine Ev.step ?_;simp only[spec_ParseWhole.j0];rw[h43];exact Ev.neg hne (Ev.pos (by omega) (Ev.neg h45 hj1))
  refine Ev.congr (Ev.neg (g:=fun k=>spec_ParseWhole.j0 k (decimal n) false) hne (Ev.pos (c:=0<((decimal n).size:Int)) (h:=fun _=>none) (by omega) hj0)) (fun k=>?_);unfold spec_ParseWhole.f;rw[h45b]
end Go.Proofs.YthlakefgobflnaaGreatDoor.Lm
