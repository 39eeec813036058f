/- CONTRACTS: rows shifted by less than a word. ROWS SHIFTED BY LESS THAN A WORD, as numbers. -/
import Derived.Test.YthlakefgobflnaaGreatDoorBax
import Derived.StillTailTactics
import Derived.Test.YthlakefgobflnaaGreatDoorBar
namespace Go.Proofs.YthlakefgobflnaaGreatDoor.G
open Go.RowKit Go.Proofs.YthlakefgobflnaaGreatDoorW.PrintWords Go.Proofs.YthlakefgobflnaaGreatDoorW.PrintLast Go.Proofs.YthlakefgobflnaaGreatDoorW.PrintMore Go.Proofs.YthlakefgobflnaaGreatDoor.S
set_option linter.unusedVariables false
set_option linter.unusedSimpArgs false
structure Only (g:Nat) (w w':World):Prop where
 os:w'.os=w.os
 tape:w'.tape=w.tape
 output:w'.output=w.output
 size:w.heap.size≤w'.heap.size
 block: ∀k,k<w.heap.size→k≠g→w'.heap[k]?=w.heap[k]?
theorem Only.refl(g:Nat)(w:World):Only g w w:=⟨rfl,rfl,rfl,Nat.le_refl _,fun _ _ _=>rfl⟩
theorem Only.trans{g:Nat}{a b c:World}(h:Only g a b)(k:Only g b c):Only g a c:=⟨k.os.trans h.os,k.tape.trans h.tape,k.output.trans h.output,Nat.le_trans h.size k.size,fun i hi hg=>(k.block i (Nat.lt_of_lt_of_le hi h.size) hg).trans (h.block i hi hg)⟩
theorem Only.set{g:Nat}{a w:World}(h:Only g a w)(j:Nat)(u:Value):Only g a (w.setCell ⟨g,j,none⟩ u):=
 h.trans ⟨rfl,rfl,rfl,by simp[World.setCell],fun k _ hk=>Below.heap_setCell w ⟨g,j,none⟩ u k hk⟩
theorem Only.of(g:Nat){w w':World}(h:Below w.heap.size w w'):Only g w w':=⟨h.os,h.tape,h.output,h.size,fun k hk _=>h.block k hk⟩
theorem and63(s:Nat)(hs:s<64):Go.bits .and .u64 (s:Int) 63=(s:Int):=by
 have:=bits_and_u64_nat s 63 (by omega) (by omega);rw[show((63:Nat):Int)=63 from rfl]at this;rw[this,show(63:Nat)=2^6-1 from rfl,Nat.and_two_pow_sub_one_eq_mod,Nat.mod_eq_of_lt (by omega)]
theorem shl_part(X s t:Nat)(hst:s+t=64):X*2^s%18446744073709551616=X%2^t*2^s:=by
 have e:18446744073709551616=2^t*2^s:=by
  rw[←Nat.pow_add,show t+s=64 by omega]
 rw[e,Nat.mul_mod_mul_right]
theorem word_shl(X Y s t:Nat)(hX:X<18446744073709551616)(hY:Y<18446744073709551616)(hst:s+t=64):Go.bits .or .u64 (IntKind.u64.wrap ((X:Int)*2^s)) ((Y:Int)/2^t)=((X*2^s%18446744073709551616+Y/2^t:Nat):Int):=by
 have e1:IntKind.u64.wrap ((X:Int)*2^s)=((X*2^s%18446744073709551616:Nat):Int):=by
  rw[IntKind.wrap_u64,show((X:Int)*2^s)=((X*2^s:Nat):Int) by rw[Int.natCast_mul,Int.natCast_pow];rfl];omega
 have e2:(Y:Int)/2^t=((Y/2^t:Nat):Int):=by
  rw[Int.natCast_ediv,Int.natCast_pow];rfl
 have hts:2^t*2^s=18446744073709551616:=by
  rw[←Nat.pow_add,show t+s=64 by omega]
 have hp:0<2^t:=Nat.pow_pos (by omega);have hd:Y/2^t<2^s:=Nat.div_lt_of_lt_mul (by rw[hts];exact hY);rw[e1,e2,shl_part X s t hst];have hm:=Nat.mod_lt X hp;have hb:(X%2^t+1)*2^s≤2^t*2^s:=Nat.mul_le_mul_right _ hm;have hb2:Y/2^t+X%2^t*2^s<18446744073709551616:=by
  rw[Nat.add_mul]at hb;omega
 have:=Lm.or64' (Y/2^t) (X%2^t) s hd hb2;rw[this,Nat.add_comm]
def Rd(w:World)(p:Addr)(x:List Int):Prop:=p.spot=none∧∀j,j<x.length→w.cell? ⟨p.block,p.off+j,none⟩=some (.int .u64 (x.getD j 0))
def shlW(x:List Int)(s i:Nat):Nat:=((x.getD i 0).toNat*2^s)%18446744073709551616+(if i=0 then 0 else(x.getD (i-1) 0).toNat/2^(64-s))
def shlR(x:List Int)(s d:Nat)(L:List Int):Nat→List Int
 |0=>L
 |r+1=>(shlR x s d L r).set (d+(x.length-1-r)) ((shlW x s (x.length-1-r):Nat):Int)
theorem shlR_len(x:List Int)(s d:Nat)(L:List Int)(r:Nat):(shlR x s d L r).length=L.length:=by
 induction r with
 |zero=>rfl
 |succ r ih=>unfold shlR;rw[List.length_set,ih]
theorem shl_read{w w':World}{g d s r:Nat}{p:Addr}{L x:List Int}(hR:RowAt w g L)(hd:d+x.length≤L.length)(hx:Rd w p x)(hp:p.block≠g∨p.off≤d)(hR':RowAt w' g (shlR x s d L r))(ho:Only g w w')(hpb:p.block<w.heap.size)(j:Nat)(hj:j+r<x.length):w'.cell? ⟨p.block,p.off+j,none⟩=some (.int .u64 (x.getD j 0)):=by
 have hj':j<x.length:=by omega
 by_cases hb:p.block=g
 ·have ho:p.off≤d:=hp.elim (fun h=>absurd hb h) id;have h0:=hx.2 j hj';rw[hb]at h0⊢;have hlt:p.off+j<L.length:=by omega
  rw[hR.cell _ hlt]at h0;rw[hR'.cell _ (by rw[shlR_len];exact hlt),←h0]
  congr 2
  have: ∀r,j+r<x.length→(shlR x s d L r).getD (p.off+j) 0=L.getD (p.off+j) 0:=by
   intro r;induction r with
   |zero=>intro _;rfl
   |succ r ih=>
    intro hr;unfold shlR;rw[List.getD_eq_getElem?_getD,List.getElem?_set_ne (by omega),←List.getD_eq_getElem?_getD];exact ih (by omega)
  exact this r hj
 ·rw[World.cell?_of_block (a:=⟨p.block,p.off+j,none⟩) (ho.block p.block hpb hb)];exact hx.2 j hj'
set_option maxRecDepth 100000 in
theorem lshVU_g_is(g d cz cx s t:Nat)(p:Addr)(L x:List Int)(w:World)(hR:RowAt w g L)(hd:d+x.length≤L.length)(hL:L.length≤100000)(hx:Rd w p x)(hp:p.block≠g∨p.off≤d)(hpb:p.block<w.heap.size)(hok:L64.Ok x)(h0:0<x.length)(hs0:0<s)(hst:s+t=64)(ht0:0<t):
 Calls Tryz.prog 75 #[.slice (some ⟨g,d,none⟩) x.length cz,.slice (some p) x.length cx,.int .u64 (s:Int)] w fun e w'=>e= .returned (.int .u64 (((x.getD (x.length-1) 0).toNat/2^t:Nat):Int))∧RowAt w' g (shlR x s d L x.length)∧Only g w w':=by
 have HRd:=ak (fun w' r h1 h2 j hj=>shl_read (w':=w') (r:=r) (s:=s) (j:=j) hR hd hx hp h1 h2 hpb hj);obtain⟨bp,op,fp⟩:=p;obtain⟨rfl,hxc⟩:=hx;have HR:=ak hR;have HK:=ak hok;have HD:=ak (And.intro hd (And.intro hL (And.intro h0 (And.intro hs0 (And.intro hst ht0)))));have c0:decide ((s:Int)=0)=false:=decide_eq_false (by omega);have c0':((s:Int)==0)=false:=beq_eq_false_iff_ne.2 (by omega);have c1:((x.length:Int)==0)=false:=beq_eq_false_iff_ne.2 (by omega);have c2:wrap64 ((x.length:Int)-1)=((x.length-1:Nat):Int):=by unfold wrap64;omega
 have b1:Go.bits .and .u64 (s:Int) 63=(s:Int):=and63 s (by omega);have b2:IntKind.u64.wrap (64-(s:Int))=(t:Int):=by rw[IntKind.wrap_u64];omega
 have b3:Go.bits .and .u64 (t:Int) 63=(t:Int):=and63 t (by omega);have e1:=hxc (x.length-1) (by omega);have h3:((x.length-1:Nat):Int)<(x.length:Int):=by omega
 have h4:(0:Int)≤((x.length-1:Nat):Int):=by omega
 have s1:(0:Int)≤(s:Int):=by omega
 have s2:(s:Int)≤64:=by omega
 have t1:(0:Int)≤(t:Int):=by omega
 have t2:(t:Int)≤64:=by omega
 have HV:=ak (show x.getD (x.length-1) 0/2^t=(((x.getD (x.length-1) 0).toNat/2^t:Nat):Int) by
  have:=L64.ok_get hok (x.length-1);rw[Int.natCast_ediv,Int.natCast_pow,Int.toNat_of_nonneg (by omega)];rfl)
 clear hR hd hL hxc hp hpb hok h0 hs0 hst ht0
 go_enter Tryz.func75,Tryz.ntmps75
 go_wp2_with fail
 go_loopg [8] (x.length) (fun kq v8 w'=>∃(r i:Nat),v8= .int .i64 (i:Int)∧Aside0 (r+i+1=x.length∧i≤kq)∧Aside0 (RowAt w' g (shlR x s d L r))∧Aside0 (Only g w w'))
 case atStart=>exact⟨0,x.length-1,rfl,⟨by have:=HD.out;omega⟩,HR,⟨Only.refl g w⟩⟩
 case round=>
  obtain⟨r,i,rfl,HI,HRi,HOi⟩:=hrel;clear HR;by_cases c:0<i
  ·cases gk with
   |zero=>exact absurd HI.out (by omega)
   |succ k1=>
    have hx1:=HRd.out _ r HRi.out HOi.out i (by have:=HI.out;omega);have hx2:=HRd.out _ r HRi.out HOi.out (i-1) (by have:=HI.out;omega);obtain⟨X,hX⟩: ∃X:Nat,x.getD i 0=(X:Int):=⟨(x.getD i 0).toNat,by have:=L64.ok_get HK.out i;omega⟩
    obtain⟨Y,hY⟩: ∃Y:Nat,x.getD (i-1) 0=(Y:Int):=⟨(x.getD (i-1) 0).toNat,by have:=L64.ok_get HK.out (i-1);omega⟩
    have hW:=word_shl X Y s t (by have:=L64.ok_get HK.out i;omega) (by have:=L64.ok_get HK.out (i-1);omega) HD.out.2.2.2.2.1;have hst:shlR x s d L (r+1)=(shlR x s d L r).set (d+i) ((X*2^s%18446744073709551616+Y/2^t:Nat):Int):=by
     have e1:x.length-1-r=i:=by have:=HI.out;omega
     have e2:64-s=t:=by have:=HD.out;omega
     rw[shlR,e1,shlW,hX,hY,if_neg (by omega),e2,Int.toNat_natCast,Int.toNat_natCast]
    have HST:=ak hst;have HW:=ak hW;rw[hX]at hx1;rw[hY]at hx2;have hz:=blk_frozen HRi.out.drew (d+i);have hr:=HRi.out.drew.cell (d+i) (by rw[shlR_len];have:=HI.out;have:=HD.out;omega);clear hst hW hX hY;have d0:decide ((i:Int)>0)=true:=decide_eq_true (by omega);have d1:decide (0<(i:Int))=true:=decide_eq_true (by omega);have d2:decide (0<i)=true:=decide_eq_true c;have d3:wrap64 ((i:Int)-1)=((i-1:Nat):Int):=by have:=HI.out;have:=HD.out;unfold wrap64;omega
    have i1:(0:Int)≤(i:Int):=by omega
    have i2:(i:Int)<(x.length:Int):=by have:=HI.out;omega
    have i3:(0:Int)≤((i-1:Nat):Int):=by omega
    have i4:((i-1:Nat):Int)<(x.length:Int):=by have:=HI.out;omega
    go_wp2_with fail
    have hx1d:World.cell? { heap:=wr.heap,tape:=wr.tape,drawn:=wr.drawn+1,os:=wr.os,output:=wr.output} _=_:=hx1;have hx2d:World.cell? { heap:=wr.heap,tape:=wr.tape,drawn:=wr.drawn+1,os:=wr.os,output:=wr.output} _=_:=hx2;have d4:IntKind.i64.wrap ((i:Int)-1)=((i-1:Nat):Int):=by
     have:=HI.out;have:=HD.out;have e:IntKind.i64.wrap ((i:Int)-1)=(i:Int)-1:=by
      exact Go.IntWalk.i64_in _ ⟨by omega,by omega⟩
     rw[e];omega
    go_still_tail 17,(by kernel_rfl)
    change wpList _ _ _ _ _ wr.drew;generalize hw2:wr.drew=w2 at*
    go_wp2_with fail
    rw[HW.out]
    go_roundg k1
    case measure=>omega
    case rel=>
     subst hw2;exact⟨r+1,i-1,rfl,⟨by have:=HI.out;omega⟩,⟨by rw[HST.out];exact HRi.out.drew.set (d+i) _⟩,⟨(HOi.out.trans ⟨rfl,rfl,rfl,Nat.le_refl _,fun _ _ _=>rfl⟩:Only g w wr.drew).set (d+i) _⟩⟩
  ·have hi:i=0:=by omega
   subst hi;have hx1:=HRd.out _ r HRi.out HOi.out 0 (by have:=HI.out;have:=HD.out;omega);obtain⟨X,hX⟩: ∃X:Nat,x.getD 0 0=(X:Int):=⟨(x.getD 0 0).toNat,by have:=L64.ok_get HK.out 0;omega⟩
   have hst:shlR x s d L x.length=(shlR x s d L r).set d ((X*2^s%18446744073709551616:Nat):Int):=by
    have e0:x.length=r+1:=by have:=HI.out;omega
    have e1:x.length-1-r=0:=by omega
    have e3:shlR x s d L (r+1)=(shlR x s d L r).set d ((X*2^s%18446744073709551616:Nat):Int):=by
     rw[shlR,e1,shlW,hX,if_pos rfl,Int.toNat_natCast,Nat.add_zero,Nat.add_zero]
    rw[←e3];exact congrArg _ e0
   have HST:=ak hst;rw[hX,Nat.add_zero]at hx1;have hW:IntKind.u64.wrap ((X:Int)*2^s)=((X*2^s%18446744073709551616:Nat):Int):=by
    rw[IntKind.wrap_u64,show((X:Int)*2^s)=((X*2^s:Nat):Int) by rw[Int.natCast_mul,Int.natCast_pow];rfl];omega
   have HW:=ak hW;have hz:=blk_frozen HRi.out d;have hr:=HRi.out.cell d (by rw[shlR_len];have:=HI.out;have:=HD.out;omega);have j0:(0:Int)<(x.length:Int):=by have:=HD.out;omega
   clear hst hX hW
   go_wp2_with fail
   rw[HW.out]
   go_ret
   exact⟨by rw[←HV.out,List.getD_eq_getElem?_getD];rfl,by rw[HST.out];exact HRi.out.set d _,HOi.out.set d _⟩
def shrW(x:List Int)(s i:Nat):Nat:=(x.getD i 0).toNat/2^s+(if i+1<x.length then((x.getD (i+1) 0).toNat*2^(64-s))%18446744073709551616 else 0)
def shrR(x:List Int)(s:Nat)(L:List Int):Nat→List Int
 |0=>L
 |r+1=>(shrR x s L r).set r ((shrW x s r:Nat):Int)
theorem shrR_len(x:List Int)(s:Nat)(L:List Int)(r:Nat):(shrR x s L r).length=L.length:=by
 induction r with
 |zero=>rfl
 |succ r ih=>unfold shrR;rw[List.length_set,ih]
theorem shr_read{w w':World}{g s r:Nat}{p:Addr}{L x:List Int}(hR:RowAt w g L)(hd:p.block=g→p.off+x.length≤L.length)(hx:Rd w p x)(hR':RowAt w' g (shrR x s L r))(ho:Only g w w')(hpb:p.block<w.heap.size)(j:Nat)(hj:j<x.length)(hr:r≤j):w'.cell? ⟨p.block,p.off+j,none⟩=some (.int .u64 (x.getD j 0)):=by
 by_cases hb:p.block=g
 ·have hd:=hd hb;have h0:=hx.2 j hj;rw[hb]at h0⊢;have hlt:p.off+j<L.length:=by omega
  rw[hR.cell _ hlt]at h0;rw[hR'.cell _ (by rw[shrR_len];exact hlt),←h0]
  congr 2
  have: ∀r,r≤j→(shrR x s L r).getD (p.off+j) 0=L.getD (p.off+j) 0:=by
   intro r;induction r with
   |zero=>intro _;rfl
   |succ r ih=>
    intro hr;unfold shrR;rw[List.getD_eq_getElem?_getD,List.getElem?_set_ne (by omega),←List.getD_eq_getElem?_getD];exact ih (by omega)
  exact this r hr
 ·rw[World.cell?_of_block (a:=⟨p.block,p.off+j,none⟩) (ho.block p.block hpb hb)];exact hx.2 j hj
theorem word_shr(X Y s t:Nat)(hX:X<18446744073709551616)(hY:Y<18446744073709551616)(hst:s+t=64):Go.bits .or .u64 ((Y:Int)/2^s) (IntKind.u64.wrap ((X:Int)*2^t))=((Y/2^s+X*2^t%18446744073709551616:Nat):Int):=by
 have e1:IntKind.u64.wrap ((X:Int)*2^t)=((X*2^t%18446744073709551616:Nat):Int):=by
  rw[IntKind.wrap_u64,show((X:Int)*2^t)=((X*2^t:Nat):Int) by rw[Int.natCast_mul,Int.natCast_pow];rfl];omega
 have e2:(Y:Int)/2^s=((Y/2^s:Nat):Int):=by
  rw[Int.natCast_ediv,Int.natCast_pow];rfl
 have hts:2^s*2^t=18446744073709551616:=by
  rw[←Nat.pow_add,hst]
 have hp:0<2^s:=Nat.pow_pos (by omega);have hd:Y/2^s<2^t:=Nat.div_lt_of_lt_mul (by rw[hts];exact hY);rw[e1,e2,shl_part X t s (by omega)];have hm:=Nat.mod_lt X hp;have hb:(X%2^s+1)*2^t≤2^s*2^t:=Nat.mul_le_mul_right _ hm;have hb2:Y/2^s+X%2^s*2^t<18446744073709551616:=by
  rw[Nat.add_mul]at hb;omega
 exact Lm.or64 (Y/2^s) (X%2^s) t hd hb2
set_option maxRecDepth 100000 in
theorem rshVU_g_is(g cz cx s t:Nat)(p:Addr)(L x:List Int)(w:World)(hR:RowAt w g L)(hd:p.block=g→p.off+x.length≤L.length)(hxL:x.length≤L.length)(hL:L.length≤100000)(hx:Rd w p x)(hpb:p.block<w.heap.size)(hok:L64.Ok x)(h0:0<x.length)(hs0:0<s)(hst:s+t=64)(ht0:0<t):
 Calls Tryz.prog 117 #[.slice (some ⟨g,0,none⟩) x.length cz,.slice (some p) x.length cx,.int .u64 (s:Int)] w fun e w'=>(∃v,e= .returned v)∧RowAt w' g (shrR x s L x.length)∧Only g w w':=by
 have HRd:=ak (fun w' r h1 h2 j hj hr=>shr_read (w':=w') (r:=r) (s:=s) (j:=j) hR hd hx h1 h2 hpb hj hr);obtain⟨bp,op,fp⟩:=p;obtain⟨rfl,hxc⟩:=hx;have HR:=ak hR;have HK:=ak hok;have HD:=ak (And.intro hxL (And.intro hL (And.intro h0 (And.intro hs0 (And.intro hst ht0)))));have c0:decide ((s:Int)=0)=false:=decide_eq_false (by omega);have c0':((s:Int)==0)=false:=beq_eq_false_iff_ne.2 (by omega);have c1:((x.length:Int)==0)=false:=beq_eq_false_iff_ne.2 (by omega);have c2:wrap64 ((x.length:Int)-1)=((x.length-1:Nat):Int):=by unfold wrap64;omega
 have b1:Go.bits .and .u64 (s:Int) 63=(s:Int):=and63 s (by omega);have b2:IntKind.u64.wrap (64-(s:Int))=(t:Int):=by rw[IntKind.wrap_u64];omega
 have b3:Go.bits .and .u64 (t:Int) 63=(t:Int):=and63 t (by omega);have e1:=hxc 0 h0;rw[Nat.add_zero]at e1;have h3:(0:Int)<(x.length:Int):=by omega
 have s1:(0:Int)≤(s:Int):=by omega
 have s2:(s:Int)≤64:=by omega
 have t1:(0:Int)≤(t:Int):=by omega
 have t2:(t:Int)≤64:=by omega
 clear hR hd hL hxL hxc hpb hok h0 hs0 hst ht0
 go_enter Tryz.func117,Tryz.ntmps117
 go_wp2_with fail
 go_loopg [8] (x.length) (fun kq v8 w'=>∃(r:Nat),v8= .int .i64 ((r+1:Nat):Int)∧Aside0 (r+1≤x.length∧x.length≤r+1+kq)∧Aside0 (RowAt w' g (shrR x s L r))∧Aside0 (Only g w w'))
 case atStart=>exact⟨0,rfl,⟨by have:=HD.out;omega⟩,HR,⟨Only.refl g w⟩⟩
 case round=>
  obtain⟨r,rfl,HI,HRi,HOi⟩:=hrel;clear HR;by_cases c:r+1<x.length
  ·cases gk with
   |zero=>exact absurd HI.out (by omega)
   |succ k1=>
    have hx1:=HRd.out _ r HRi.out HOi.out r (by omega) (Nat.le_refl _);have hx2:=HRd.out _ r HRi.out HOi.out (r+1) c (by omega);obtain⟨X,hX⟩: ∃X:Nat,x.getD (r+1) 0=(X:Int):=⟨(x.getD (r+1) 0).toNat,by have:=L64.ok_get HK.out (r+1);omega⟩
    obtain⟨Y,hY⟩: ∃Y:Nat,x.getD r 0=(Y:Int):=⟨(x.getD r 0).toNat,by have:=L64.ok_get HK.out r;omega⟩
    have hW:=word_shr X Y s t (by have:=L64.ok_get HK.out (r+1);omega) (by have:=L64.ok_get HK.out r;omega) HD.out.2.2.2.2.1;have hst:shrR x s L (r+1)=(shrR x s L r).set r ((Y/2^s+X*2^t%18446744073709551616:Nat):Int):=by
     have e2:64-s=t:=by have:=HD.out;omega
     rw[shrR,shrW,hX,hY,if_pos c,e2,Int.toNat_natCast,Int.toNat_natCast]
    have HST:=ak hst;have HW:=ak hW;rw[hX]at hx2;rw[hY]at hx1;have hz:=blk_frozen HRi.out.drew r;have hr:=HRi.out.drew.cell r (by rw[shrR_len];have:=HI.out;have:=HD.out;omega);clear hst hW hX hY;obtain⟨i,hi⟩: ∃i,r+1=i:=⟨_,rfl⟩
    rw[hi]at hx2 c⊢;have d1:decide ((i:Int)<(x.length:Int))=true:=decide_eq_true (by omega);have d2:decide (i<x.length)=true:=decide_eq_true c;have d3:wrap64 ((i:Int)-1)=(r:Int):=by have:=HI.out;have:=HD.out;unfold wrap64;omega
    have d4:IntKind.i64.wrap ((i:Int)-1)=(r:Int):=by
     have:=HI.out;have:=HD.out;have e:IntKind.i64.wrap ((i:Int)-1)=(i:Int)-1:=by
      exact Go.IntWalk.i64_in _ ⟨by omega,by omega⟩
     rw[e];omega
    have i1:(0:Int)≤(i:Int):=by omega
    have i2:(i:Int)<(x.length:Int):=by omega
    have i3:(0:Int)≤(r:Int):=by omega
    have i4:(r:Int)<(x.length:Int):=by omega
    have HN:=ak hi;have HE:=ak (show wrap64 ((i:Int)+1)=((i+1:Nat):Int) by have:=HI.out;have:=HD.out;unfold wrap64;omega);clear hi;have hx1d:World.cell? { heap:=wr.heap,tape:=wr.tape,drawn:=wr.drawn+1,os:=wr.os,output:=wr.output} _=_:=hx1;have hx2d:World.cell? { heap:=wr.heap,tape:=wr.tape,drawn:=wr.drawn+1,os:=wr.os,output:=wr.output} _=_:=hx2
    go_wp2_with fail
    go_still_tail 18,(by kernel_rfl)
    change wpList _ _ _ _ _ wr.drew;generalize hw2:wr.drew=w2 at*
    go_wp2_with fail
    rw[HW.out]
    go_roundg k1
    case measure=>omega
    case rel=>
     subst hw2;exact⟨r+1,(by rw[HN.out,←HE.out]),⟨by have:=HI.out;have:=HN.out;omega⟩,⟨by rw[HST.out];exact HRi.out.drew.set r _⟩,⟨(HOi.out.trans ⟨rfl,rfl,rfl,Nat.le_refl _,fun _ _ _=>rfl⟩:Only g w wr.drew).set r _⟩⟩
  ·have hi:x.length-1=r:=by have:=HI.out;omega
   have hl:x.length=r+1:=by have:=HI.out;omega
   have hx1:=HRd.out _ r HRi.out HOi.out (x.length-1) (by omega) (by omega);obtain⟨Y,hY⟩: ∃Y:Nat,x.getD (x.length-1) 0=(Y:Int):=⟨(x.getD (x.length-1) 0).toNat,by have:=L64.ok_get HK.out (x.length-1);omega⟩
   have hst:shrR x s L x.length=(shrR x s L r).set (x.length-1) ((Y/2^s:Nat):Int):=by
    have e3:shrR x s L (r+1)=(shrR x s L r).set r ((Y/2^s:Nat):Int):=by
     rw[hi]at hY;rw[shrR,shrW,hY,if_neg c,Int.toNat_natCast,Nat.add_zero]
    rw[hi,←e3];exact congrArg _ hl
   have HST:=ak hst;rw[hY]at hx1;have HW:=ak (show(Y:Int)/2^s=((Y/2^s:Nat):Int) by
    rw[Int.natCast_ediv,Int.natCast_pow];rfl)
   have hz:=blk_frozen HRi.out (x.length-1);have hr:=HRi.out.cell (x.length-1) (by rw[shrR_len];have:=HD.out;omega);have d1:decide (((r+1:Nat):Int)<(x.length:Int))=false:=decide_eq_false (by omega);have d2:decide (r+1<x.length)=false:=decide_eq_false c;have j1:(0:Int)≤((x.length-1:Nat):Int):=by omega
   have j2:((x.length-1:Nat):Int)<(x.length:Int):=by omega
   clear hst hY hi hl
   go_wp2_with fail
   rw[HW.out]
   go_ret
   exact⟨⟨_,rfl⟩,by rw[HST.out];exact HRi.out.set _ _,HOi.out.set _ _⟩
theorem lshVU_is(g d cz cx s t:Nat)(p:Addr)(L x:List Int)(w:World)(hR:RowAt w g L)(hd:d+x.length≤L.length)(hL:L.length≤100000)(hx:Rd w p x)(hp:p.block≠g∨p.off≤d)(hpb:p.block<w.heap.size)(hok:L64.Ok x)(h0:0<x.length)(hs0:0<s)(hst:s+t=64)(ht0:0<t):
 Calls Tryz.prog 57 #[.slice (some ⟨g,d,none⟩) x.length cz,.slice (some p) x.length cx,.int .u64 (s:Int)] w fun e w'=>e= .returned (.int .u64 (((x.getD (x.length-1) 0).toNat/2^t:Nat):Int))∧RowAt w' g (shlR x s d L x.length)∧Only g w w':=by
 have HQ:=ak (lshVU_g_is g d cz cx s t p L x w hR hd hL hx hp hpb hok h0 hs0 hst ht0);clear hR hd hL hx hp hpb hok h0 hs0 hst ht0;generalize (((x.getD (x.length-1) 0).toNat/2^t:Nat):Int)=v at HQ⊢
 go_enter Tryz.func57,Tryz.ntmps57
 go_wp2_with fail
 refine(HQ.out).mono ?_;rintro e w1 ⟨rfl,h1,h2⟩;have H:=ak (And.intro h1 h2);clear h1 h2
 go_wp2_with fail
 go_ret
 exact⟨rfl,H.out⟩
theorem rshVU_is(g cz cx s t:Nat)(p:Addr)(L x:List Int)(w:World)(hR:RowAt w g L)(hd:p.block=g→p.off+x.length≤L.length)(hxL:x.length≤L.length)(hL:L.length≤100000)(hx:Rd w p x)(hpb:p.block<w.heap.size)(hok:L64.Ok x)(h0:0<x.length)(hs0:0<s)(hst:s+t=64)(ht0:0<t):
 Calls Tryz.prog 93 #[.slice (some ⟨g,0,none⟩) x.length cz,.slice (some p) x.length cx,.int .u64 (s:Int)] w fun e w'=>(∃v,e= .returned v)∧RowAt w' g (shrR x s L x.length)∧Only g w w':=by
 have HQ:=ak (rshVU_g_is g cz cx s t p L x w hR hd hxL hL hx hpb hok h0 hs0 hst ht0);clear hR hd hxL hL hx hpb hok h0 hs0 hst ht0
 go_enter Tryz.func93,Tryz.ntmps93
 go_wp2_with fail
 refine(HQ.out).mono ?_;rintro e w1 ⟨⟨v,rfl⟩,h1,h2⟩;have H:=ak (And.intro h1 h2);clear h1 h2
 go_wp2_with fail
 go_ret
 exact⟨⟨_,rfl⟩,H.out⟩
end Go.Proofs.YthlakefgobflnaaGreatDoor.G
namespace Go.Proofs.YthlakefgobflnaaGreatDoor.L64
set_option linter.unusedVariables false
def shlT(s t:Nat):Nat→List Int→List Int
 |c,[]=> []
 |c,a::l=>(((a.toNat*2^s)%18446744073709551616+c:Nat):Int)::shlT s t (a.toNat/2^t) l
def shlC(t:Nat):Nat→List Int→Nat
 |c,[]=>c
 |c,a::l=>shlC t (a.toNat/2^t) l
theorem shl_split(a s t:Nat)(hst:s+t=64):a*2^s=18446744073709551616*(a/2^t)+a*2^s%18446744073709551616:=by
 have e:18446744073709551616=2^t*2^s:=by rw[←Nat.pow_add,show t+s=64 by omega]
 have h:a*2^s/18446744073709551616=a/2^t:=by
  rw[e,Nat.mul_div_mul_right _ _ (Nat.pow_pos (by omega))]
 rw[←h];exact(Nat.div_add_mod _ _).symm
theorem shlT_val(s t:Nat)(hst:s+t=64): ∀(l:List Int) (c:Nat),val (shlT s t c l)+shlC t c l*18446744073709551616^l.length=val l*2^s+c
 | [],c=>by simp[shlT,shlC,val]
 |a::l,c=>by
  have ih:=shlT_val s t hst l (a.toNat/2^t);have h:=shl_split a.toNat s t hst;simp only[shlT,shlC,val,List.length_cons,Int.toNat_natCast];rw[Nat.pow_succ];generalize val (shlT s t (a.toNat/2^t) l)=v at*;generalize shlC t (a.toNat/2^t) l=k at*;generalize 18446744073709551616^l.length=p at*;generalize a.toNat*2^s%18446744073709551616=m at*;generalize a.toNat/2^t=q at*;generalize a.toNat=A at*;generalize 2^s=S at*
  grind
def shrT(s t:Nat):List Int→List Int
 | []=> []
 |a::l=>((a.toNat/2^s+((l.headD 0).toNat*2^t)%18446744073709551616:Nat):Int)::shrT s t l
theorem head_mod(l:List Int)(s t:Nat)(hst:s+t=64):(l.headD 0).toNat%2^s=val l%2^s:=by
 cases l with
 |nil=>rfl
 |cons a l=>
  have e:18446744073709551616=2^s*2^t:=by rw[←Nat.pow_add,hst]
  show a.toNat%2^s=(a.toNat+18446744073709551616*val l)%2^s;rw[e,Nat.mul_assoc,Nat.add_mul_mod_self_left]
theorem shrT_val(s t:Nat)(hst:s+t=64): ∀(l:List Int),val (shrT s t l)=val l/2^s
 | []=>by simp[shrT,val]
 |a::l=>by
  have ih:=shrT_val s t hst l;have e:18446744073709551616=2^t*2^s:=by rw[←Nat.pow_add,show t+s=64 by omega]
  have hm:=head_mod l s t hst;have hp:0<2^s:=Nat.pow_pos (by omega);simp only[shrT,val,Int.toNat_natCast];rw[ih];have h1:(l.headD 0).toNat*2^t%18446744073709551616=val l%2^s*2^t:=by
   rw[e,Nat.mul_comm (2^t) (2^s),Nat.mul_mod_mul_right,hm]
  have h2:(a.toNat+18446744073709551616*val l)/2^s=a.toNat/2^s+2^t*val l:=by
   rw[e,show 2^t*2^s*val l=2^s*(2^t*val l) by ac_rfl,Nat.add_mul_div_left _ _ hp]
  have h3:2^t*val l=val l%2^s*2^t+2^t*2^s*(val l/2^s):=by
   have:=Nat.div_add_mod (val l) (2^s)
   calc 2^t*val l=2^t*(2^s*(val l/2^s)+val l%2^s):=by rw[this]
    _=_:=by rw[Nat.mul_add,←Nat.mul_assoc,Nat.mul_comm (2^t) (val l%2^s),Nat.add_comm]
  rw[h1,h2,h3,e];omega
end Go.Proofs.YthlakefgobflnaaGreatDoor.L64
