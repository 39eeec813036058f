/- THE REFERENCE's LOGARITHM BY WORTH: LnSpan's law; LnBeside. THE REFERENCE's LOGARITHM BY WORTH: LnBeside. BITS as sums. CONTRACTS of spec_NatOf: each as the plain function beside it. (Began as print.sh's text for this seat; the turns are those of wip/tools/split.py.) -/
import Derived.Test.YthlakefgobflnaaGreatDoorBap
import Derived.Test.YthlakefgobflnaaGreatDoorBaa
import Derived.Laws.Bits64b
import Derived.Test.YthlakefgobflnaaGreatDoorBab
namespace Go.Proofs.YthlakefgobflnaaGreatDoor.R
open Go.Proofs.YthlakefgobflnaaGreatDoor.G Go.RowKit Go.Proofs.YthlakefgobflnaaGreatDoorW.PrintWords Go.Proofs.YthlakefgobflnaaGreatDoorW.PrintLast Go.Proofs.YthlakefgobflnaaGreatDoorW.PrintMore Go.Proofs.YthlakefgobflnaaGreatDoor.S
set_option linter.unusedVariables false
set_option linter.unusedSimpArgs false
theorem len_dsum(pl p q K:Nat)(hq:0<q)(h3:3*p≤q)(hpl:pl≤300)(hK:K≤1000):len (2*An.dsum (10^pl) p q K+(5*K+10))≤400:=by
 have h1:=dsum_le (10^pl) p q hq h3 K;have h2:K*10^pl≤1000*10^pl:=Nat.mul_le_mul_right _ hK;have h3:0<10^pl:=Nat.pow_pos (by omega);refine Nat.le_trans (len_le_of (b:=100000*10^pl) ?_ (Nat.le_refl _)) ?_
 ·generalize 10^pl=P at*;omega
 ·have h4:=Lm.len_mul 100000 (10^pl);have h5:=len_pow10 pl;have h6:len 100000≤1:=Lm.len_le (by omega);unfold len at*;omega
theorem lnSpan_is(n D pl:Nat)(hD:0<D)(h1:D≤n)(h2:n<2*D)(hl:len (8*n)≤90)(hpl:pl≤300): ∃lo hi:Int,An.UB ((hi:Rat)/((10^pl:Nat):Rat)) ((n:Rat)/(D:Rat))∧An.UB (-(lo:Rat)/((10^pl:Nat):Rat)) ((D:Rat)/(n:Rat))∧len lo.natAbs≤900∧len hi.natAbs≤900∧
 ∀(u v:Value) (w:World),Nv w u n→Nv w v D→Calls Tryz.prog 25 #[.agg #[.bool false,u,v],.int .i64 (pl:Int)] w fun e w'=>∃r s,e= .returned (.agg #[.bool (decide (lo<0)),r,.bool (decide (hi<0)),s])∧Nv w' r lo.natAbs∧Nv w' s hi.natAbs∧Below w.heap.size w w':=by
 obtain⟨K2,b1,b2,b3⟩:=dpow_end pl 1 3 (by omega) (by omega) hpl;have hP:0<10^pl:=Nat.pow_pos (by omega);have l2:=len_dsum pl 1 3 K2 (by omega) (by omega) hpl b1;have len2: ∀x y:Int,len x.natAbs≤400→len y.natAbs≤400→len (x+y).natAbs≤900:=fun x y hx hy=>Nat.le_trans (Lm.len_mono (show(x+y).natAbs≤x.natAbs+y.natAbs by omega)) (Nat.le_trans (len_add _ _ 400 hx hy) (by omega))
 by_cases hc:3*n≤4*D
 ·obtain⟨K1,a1,a2,a3⟩:=dpow_end pl (n-D) (n+D) (by omega) (by omega) hpl;obtain⟨c1,c2⟩:=span_a n D (10^pl) K1 hD hP h1 h2 a2;have l1:=len_dsum pl (n-D) (n+D) K1 (by omega) (by omega) hpl a1;have hw:=lnSpan_walk n D pl 0 K1 K2 _ _ _ hD h1 h2 hl (.inl ⟨rfl,hc⟩) hpl a1 b1 rfl (fun _=>⟨a2,a3,rfl,rfl⟩) (fun h=>by omega) b2 b3 (by rw[Int.natAbs_natCast];exact len_le_of (by omega) l1) (by rw[Int.natAbs_natCast];exact l1) l2;refine⟨_,_,?_,?_,len2 _ _ ?_ ?_,len2 _ _ ?_ ?_,hw⟩
  ·rw[Nat.mul_zero,Int.natCast_zero,Int.add_zero,Rat.intCast_natCast];exact c1
  ·rw[Nat.mul_zero,Int.natCast_zero,Int.add_zero,Rat.intCast_natCast];exact c2
  ·rw[Int.natAbs_natCast];exact len_le_of (by omega) l1
  ·rw[Int.natAbs_natCast];exact len_le_of (by omega) l2
  ·rw[Int.natAbs_natCast];exact l1
  ·rw[Int.natAbs_natCast];exact len_le_of (by omega) l2
 ·obtain⟨K1,a1,a2,a3⟩:=dpow_end pl (2*D-n) (2*D+n) (by omega) (by omega) hpl;obtain⟨c1,c2⟩:=span_b n D (10^pl) K1 K2 hD hP h1 h2 a2 b2;have l1:=len_dsum pl (2*D-n) (2*D+n) K1 (by omega) (by omega) hpl a1;have hw:=lnSpan_walk n D pl 1 K1 K2 _ _ _ hD h1 h2 hl (.inr ⟨rfl,by omega⟩) hpl a1 b1 rfl (fun h=>by omega) (fun _=>⟨a2,a3,rfl,rfl⟩) b2 b3 (by rw[Int.natAbs_neg,Int.natAbs_natCast];exact l1) (by rw[Int.natAbs_neg,Int.natAbs_natCast];exact len_le_of (by omega) l1) l2;refine⟨_,_,?_,?_,len2 _ _ ?_ ?_,len2 _ _ ?_ ?_,hw⟩
  ·rw[Nat.mul_one];exact c1
  ·rw[Nat.mul_one];exact c2
  ·rw[Int.natAbs_neg,Int.natAbs_natCast];exact l1
  ·rw[Int.natAbs_natCast];exact len_le_of (by omega) l2
  ·rw[Int.natAbs_neg,Int.natAbs_natCast];exact len_le_of (by omega) l1
  ·rw[Int.natAbs_natCast];exact len_le_of (by omega) l2
theorem rnd_len(N D P:Nat)(up:Bool)(h1:len N≤100)(h2:len P≤310):len (rndM (N*P) D up)≤1000:=by
 have h3:=Lm.len_mul N P;have h4:rndM (N*P) D up≤N*P+1:=by
  unfold rndM;have:=Nat.div_le_self (N*P) D
  split<;>omega
 have h5:len 1≤420:=Nat.le_trans (Lm.len_le (m:=1) (by omega)) (by omega);have h6:=len_add (N*P) 1 420 (by unfold len at*;omega) h5;exact Nat.le_trans (Lm.len_mono h4) (by unfold len at*;omega)
end Go.Proofs.YthlakefgobflnaaGreatDoor.R
namespace Go.Proofs.YthlakefgobflnaaGreatDoor.R
open Go.Proofs.YthlakefgobflnaaGreatDoor.G Go.RowKit Go.Proofs.YthlakefgobflnaaGreatDoorW.PrintWords Go.Proofs.YthlakefgobflnaaGreatDoorW.PrintLast Go.Proofs.YthlakefgobflnaaGreatDoorW.PrintMore Go.Proofs.YthlakefgobflnaaGreatDoor.S
set_option linter.unusedVariables false
set_option linter.unusedSimpArgs false
structure Bs (w w':World) (n D E:Nat) (z:Int) (bz:Bool) (x y x' y':Value):Prop where
 b0:w'.heap[w.heap.size]?=some (.cells #[.bool false,x,y] 34 (0,0))
 b1:w'.heap[w.heap.size+1]?=some (.cells #[.bool bz,x',y'] 34 (0,0))
 b2:w'.heap[w.heap.size+1+1]?=some (.cells #[.int .i64 10,.int .i64 30,.int .i64 60] 3 (0,0))
 bl:Below w.heap.size w w'
 x:Nv w' x n
 y:Nv w' y D
 x':Nv w' x' z.natAbs
 y':Nv w' y' E
theorem Bs.to{w w1 w2:World}{n D E:Nat}{z:Int}{bz:Bool}{x y x' y':Value}(h:Bs w w1 n D E z bz x y x' y')(hb:Below w1.heap.size w1 w2):Bs w w2 n D E z bz x y x' y':=
 ⟨blk_below h.b0 hb,blk_below h.b1 hb,blk_below h.b2 hb,below_step h.bl hb,h.x.below hb,h.y.below hb,h.x'.below hb,h.y'.below hb⟩
set_option maxRecDepth 100000 in
set_option maxHeartbeats 4000000 in
theorem lnBeside_is(n D E pc:Nat)(z bad:Int)(hbad:bad≠0)(hD:0<D)(h1:D≤n)(h2:n<2*D)(hl:len (8*n)≤90)(hE:0<E)(hz:len z.natAbs≤100)(hE2:len E≤1000)(hpc:pc≤200)
 (hok: ∀(pl:Nat) (lo hi:Int),An.UB ((hi:Rat)/((10^pl:Nat):Rat)) ((n:Rat)/(D:Rat))→An.UB (-(lo:Rat)/((10^pl:Nat):Rat)) ((D:Rat)/(n:Rat))→besideZ lo hi (floZ z (10^pl) E) (ceiZ z (10^pl) E)≠bad)
 (u v u' v':Value) (w:World) (hu:Nv w u n) (hv:Nv w v D) (hu':Nv w u' z.natAbs) (hv':Nv w v' E):
 Calls Tryz.prog 9 #[.agg #[.bool false,u,v],.agg #[.bool (decide (z<0)),u',v'],.int .i64 (pc:Int)] w fun e w'=>∃c,e= .returned (.int .i64 c)∧c≠bad∧Below w.heap.size w w':=by
 have HM:=ak (fun(m:Nat) (hm:m≤60)=>lnSpan_is n D (pc+m) hD h1 h2 hl (by omega));have HOk:=ak hok;have HSc:=ak (fun(m:Nat) (hm:m≤60) u v w0 a b=>scaled_is z E (pc+m) u v w0 a b hE (by omega) (Nat.le_trans hz (by omega)) hE2);have HFl:=ak (fun(m:Nat) (hm:m≤60)=>show len (floZ z (10^(pc+m)) E).natAbs≤1000 by rw[(flo_is z (10^(pc+m)) E hE).1];exact rnd_len _ _ _ _ hz (Nat.le_trans (len_pow10 _) (by omega)));have HCe:=ak (fun(m:Nat) (hm:m≤60)=>show len (ceiZ z (10^(pc+m)) E).natAbs≤1000 by rw[(cei_is z (10^(pc+m)) E hE).1];exact rnd_len _ _ _ _ hz (Nat.le_trans (len_pow10 _) (by omega)));have HW:=ak (fun(m:Nat) (hm:m≤60)=>show wrap64 ((pc:Int)+(m:Int))=((pc+m:Nat):Int) by rw[Lm.w64 (by omega) (by omega)];rfl);have HBad:=ak hbad;obtain⟨A1,c1,rfl,-⟩:=id hu;obtain⟨A2,c2,rfl,-⟩:=id hv;obtain⟨A3,c3,rfl,-⟩:=id hu';obtain⟨A4,c4,rfl,-⟩:=id hv';have N1:=ak hu;have N2:=ak hv;have N3:=ak hu';have N4:=ak hv';generalize decide (z<0)=bz at*;clear hbad hD h1 h2 hl hE hz hE2 hpc hok hu hv hu' hv'
 go_enter Tryz.func9,Tryz.ntmps9
 go_wp2_with fail
 generalize hW:((w.alloc _).alloc _).alloc _=W;obtain⟨k0,k1,k2,k3,-⟩:=alloc3 hW;have B0:=ak k0;have B1:=ak k1;have B2:=ak k2;have HB:=ak k3;have q:=N1.out.below HB.out;clear N1;have N1:=ak q;clear q;have q:=N2.out.below HB.out;clear N2;have N2:=ak q;clear q;have q:=N3.out.below HB.out;clear N3;have N3:=ak q;clear q;have q:=N4.out.below HB.out;clear N4;have N4:=ak q;clear q;clear hW k0 k1 k2 k3;have HS:=ak (show Bs w W n D E z bz (.slice A1 (len n) c1) (.slice A2 (len D) c2) (.slice A3 (len z.natAbs) c3) (.slice A4 (len E) c4)from⟨B0.out,B1.out,B2.out,HB.out,N1.out,N2.out,N3.out,N4.out⟩);clear B0 B1 B2 HB N1 N2 N3 N4
 go_loopg [12] 3 (fun kq v12 w'=>∃(i:Nat),v12= .int .i64 (i:Int)∧Aside0 (i+kq=3)∧Aside0 (Bs w w' n D E z bz (.slice A1 (len n) c1) (.slice A2 (len D) c2) (.slice A3 (len z.natAbs) c3) (.slice A4 (len E) c4)))
 case atStart=>exact⟨0,rfl,⟨rfl⟩,HS⟩
 case round=>
  obtain⟨i,rfl,hi,HS2⟩:=hrel;clear HS;cases gk with
  |zero=>
   have e:i=3:=hi.out;subst e
   go_wp2_with fail
   go_ret
   exact⟨0,rfl,HBad.out.symm,HS2.out.bl⟩
  |succ k1=>
   have h3:i=0∨i=1∨i=2:=by have:=hi.out;omega
   rcases h3 with hi0|hi0|hi0
   ·subst hi0;have c0:=(blk_cell HS2.out.b2 0).trans rfl;have c1':=(blk_cell HS2.out.b2 1).trans rfl;have c2':=(blk_cell HS2.out.b2 2).trans rfl
    go_wp2_with fail
    clear c0 c1' c2';have hw:wrap64 ((pc:Int)+10)=((pc+10:Nat):Int):=HW.out 10 (by omega);obtain⟨lo,hi',f1,f2,f3,f4,hq⟩:=HM.out 10 (by omega);have hs:=HSc.out 10 (by omega);have hx:=HOk.out (pc+10) lo hi' f1 f2;have l1:=HFl.out 10 (by omega);have l2:=HCe.out 10 (by omega);rw[←hw]at hq hs;clear hw f1 f2;generalize floZ z (10^(pc+10)) E=Fl at*;generalize ceiZ z (10^(pc+10)) E=Ce at*;have HQ1:=ak hq;have HQ2:=ak hs;have HQ3:=ak (fun u v u' v' w0 a b c d=>beside_is lo hi' Fl Ce u v u' v' w0 a b c d (Nat.le_trans f3 (by omega)) (Nat.le_trans f4 (by omega)) l1 l2);obtain⟨X,hX⟩: ∃X,besideZ lo hi' Fl Ce=X:=⟨_,rfl⟩
    rw[hX]at HQ3 hx;have HX:=ak hx;clear hq hs f3 f4 l1 l2 hx hX;generalize decide (lo<0)=bl at*;generalize decide (hi'<0)=bh at*;generalize decide (Fl<0)=bf at*;generalize decide (Ce<0)=bc at*;refine sta (fun w'=>C3 w' w.heap.size (.bool false) (.slice A1 (len n) c1) (.slice A2 (len D) c2)∧C3 w' (w.heap.size+1) (.bool bz) (.slice A3 (len z.natAbs) c3) (.slice A4 (len E) c4)) [] ⟨C3.of HS2.out.b0,C3.of HS2.out.b1⟩ (fun hHeld=>?_);repeat(first|refine pu 0 ?_|refine tk 0 hHeld ?_|refine pu 1 ?_|refine tk 1 hHeld ?_|refine pu 2 ?_|refine tk 2 hHeld ?_|refine pu 3 ?_|refine tk 3 hHeld ?_)
    refine cl Tryz.func25 #[.agg #[.bool false,.slice A1 (len n) c1,.slice A2 (len D) c2],.int .i64 (wrap64 ((pc:Int)+10))] ?_
    clear hHeld;have k9:=HS2.out.to (below_drew (Below.refl _ _));clear HS2;have HS2:=ak k9;clear k9;refine(HQ1.out _ _ _ HS2.out.x HS2.out.y).mono ?_;rintro e w9 ⟨r,q,rfl,hr,hq,hb⟩;have k9:=HS2.out.to hb;clear HS2;have HS2:=ak k9;clear k9;have M1:=ak hr;have M2:=ak hq;clear hr hq hb;obtain⟨A5,c5,rfl,-⟩:=id M1.out;obtain⟨A6,c6,rfl,-⟩:=id M2.out;refine⟨_,rfl,⟨C3.of HS2.out.b0,C3.of HS2.out.b1⟩,fun hHeld=>?_⟩;repeat(first|refine pu 0 ?_|refine tk 0 hHeld ?_|refine pu 1 ?_|refine tk 1 hHeld ?_|refine pu 2 ?_|refine tk 2 hHeld ?_|refine pu 3 ?_|refine tk 3 hHeld ?_)
    refine cl Tryz.func27 #[.agg #[.bool bz,.slice A3 (len z.natAbs) c3,.slice A4 (len E) c4],.int .i64 (wrap64 ((pc:Int)+10))] ?_
    clear hHeld;refine(HQ2.out _ _ _ HS2.out.x' HS2.out.y').mono ?_;rintro e w9 ⟨r,q,rfl,hr,hq,hb⟩;have k9:=HS2.out.to hb;clear HS2;have HS2:=ak k9;clear k9;have k0:=M1.out.below hb;have k1:=M2.out.below hb;clear M1 M2;have M1:=ak k0;have M2:=ak k1;clear k0 k1;have M3:=ak hr;have M4:=ak hq;clear hr hq hb;obtain⟨A7,c7,rfl,-⟩:=id M3.out;obtain⟨A8,c8,rfl,-⟩:=id M4.out;refine⟨_,rfl,⟨C3.of HS2.out.b0,C3.of HS2.out.b1⟩,fun hHeld=>?_⟩;repeat(first|refine pu 0 ?_|refine tk 0 hHeld ?_|refine pu 1 ?_|refine tk 1 hHeld ?_|refine pu 2 ?_|refine tk 2 hHeld ?_|refine pu 3 ?_|refine tk 3 hHeld ?_)
    refine cl Tryz.func26 #[.agg #[.bool bl,.slice A5 (len lo.natAbs) c5,.bool bh,.slice A6 (len hi'.natAbs) c6],.agg #[.bool bf,.slice A7 (len Fl.natAbs) c7,.bool bc,.slice A8 (len Ce.natAbs) c8]] ?_
    clear hHeld;refine(HQ3.out _ _ _ _ _ M1.out M2.out M3.out M4.out).mono ?_;rintro e w9 ⟨rfl,hb⟩;clear M1 M2 M3 M4;have k9:=HS2.out.to hb;clear HS2;have HS2:=ak k9;clear k9;clear hb;refine⟨_,rfl,⟨C3.of HS2.out.b0,C3.of HS2.out.b1⟩,fun hHeld=>?_⟩;repeat(first|refine pu 0 ?_|refine tk 0 hHeld ?_|refine pu 1 ?_|refine tk 1 hHeld ?_|refine pu 2 ?_|refine tk 2 hHeld ?_|refine pu 3 ?_|refine tk 3 hHeld ?_)
    clear hHeld;refine done_ (by decide+kernel) ?_;clear HQ1 HQ2 HQ3;by_cases hX0:X=0
    ·have hd:(X != 0)=false:=by rw[hX0];rfl
     subst hX0
     go_wp2_with fail
     go_roundg k1
     case measure=>omega
     case rel=>exact⟨1,rfl,⟨by have:=hi.out;omega⟩,HS2⟩
    ·have hd:(X != 0)=true:=bne_iff_ne.2 hX0
     go_wp2_with fail
     go_ret
     exact⟨X,rfl,HX.out,HS2.out.bl⟩
   ·subst hi0;have c0:=(blk_cell HS2.out.b2 0).trans rfl;have c1':=(blk_cell HS2.out.b2 1).trans rfl;have c2':=(blk_cell HS2.out.b2 2).trans rfl
    go_wp2_with fail
    clear c0 c1' c2';have hw:wrap64 ((pc:Int)+30)=((pc+30:Nat):Int):=HW.out 30 (by omega);obtain⟨lo,hi',f1,f2,f3,f4,hq⟩:=HM.out 30 (by omega);have hs:=HSc.out 30 (by omega);have hx:=HOk.out (pc+30) lo hi' f1 f2;have l1:=HFl.out 30 (by omega);have l2:=HCe.out 30 (by omega);rw[←hw]at hq hs;clear hw f1 f2;generalize floZ z (10^(pc+30)) E=Fl at*;generalize ceiZ z (10^(pc+30)) E=Ce at*;have HQ1:=ak hq;have HQ2:=ak hs;have HQ3:=ak (fun u v u' v' w0 a b c d=>beside_is lo hi' Fl Ce u v u' v' w0 a b c d (Nat.le_trans f3 (by omega)) (Nat.le_trans f4 (by omega)) l1 l2);obtain⟨X,hX⟩: ∃X,besideZ lo hi' Fl Ce=X:=⟨_,rfl⟩
    rw[hX]at HQ3 hx;have HX:=ak hx;clear hq hs f3 f4 l1 l2 hx hX;generalize decide (lo<0)=bl at*;generalize decide (hi'<0)=bh at*;generalize decide (Fl<0)=bf at*;generalize decide (Ce<0)=bc at*;refine sta (fun w'=>C3 w' w.heap.size (.bool false) (.slice A1 (len n) c1) (.slice A2 (len D) c2)∧C3 w' (w.heap.size+1) (.bool bz) (.slice A3 (len z.natAbs) c3) (.slice A4 (len E) c4)) [] ⟨C3.of HS2.out.b0,C3.of HS2.out.b1⟩ (fun hHeld=>?_);repeat(first|refine pu 0 ?_|refine tk 0 hHeld ?_|refine pu 1 ?_|refine tk 1 hHeld ?_|refine pu 2 ?_|refine tk 2 hHeld ?_|refine pu 3 ?_|refine tk 3 hHeld ?_)
    refine cl Tryz.func25 #[.agg #[.bool false,.slice A1 (len n) c1,.slice A2 (len D) c2],.int .i64 (wrap64 ((pc:Int)+30))] ?_
    clear hHeld;have k9:=HS2.out.to (below_drew (Below.refl _ _));clear HS2;have HS2:=ak k9;clear k9;refine(HQ1.out _ _ _ HS2.out.x HS2.out.y).mono ?_;rintro e w9 ⟨r,q,rfl,hr,hq,hb⟩;have k9:=HS2.out.to hb;clear HS2;have HS2:=ak k9;clear k9;have M1:=ak hr;have M2:=ak hq;clear hr hq hb;obtain⟨A5,c5,rfl,-⟩:=id M1.out;obtain⟨A6,c6,rfl,-⟩:=id M2.out;refine⟨_,rfl,⟨C3.of HS2.out.b0,C3.of HS2.out.b1⟩,fun hHeld=>?_⟩;repeat(first|refine pu 0 ?_|refine tk 0 hHeld ?_|refine pu 1 ?_|refine tk 1 hHeld ?_|refine pu 2 ?_|refine tk 2 hHeld ?_|refine pu 3 ?_|refine tk 3 hHeld ?_)
    refine cl Tryz.func27 #[.agg #[.bool bz,.slice A3 (len z.natAbs) c3,.slice A4 (len E) c4],.int .i64 (wrap64 ((pc:Int)+30))] ?_
    clear hHeld;refine(HQ2.out _ _ _ HS2.out.x' HS2.out.y').mono ?_;rintro e w9 ⟨r,q,rfl,hr,hq,hb⟩;have k9:=HS2.out.to hb;clear HS2;have HS2:=ak k9;clear k9;have k0:=M1.out.below hb;have k1:=M2.out.below hb;clear M1 M2;have M1:=ak k0;have M2:=ak k1;clear k0 k1;have M3:=ak hr;have M4:=ak hq;clear hr hq hb;obtain⟨A7,c7,rfl,-⟩:=id M3.out;obtain⟨A8,c8,rfl,-⟩:=id M4.out;refine⟨_,rfl,⟨C3.of HS2.out.b0,C3.of HS2.out.b1⟩,fun hHeld=>?_⟩;repeat(first|refine pu 0 ?_|refine tk 0 hHeld ?_|refine pu 1 ?_|refine tk 1 hHeld ?_|refine pu 2 ?_|refine tk 2 hHeld ?_|refine pu 3 ?_|refine tk 3 hHeld ?_)
    refine cl Tryz.func26 #[.agg #[.bool bl,.slice A5 (len lo.natAbs) c5,.bool bh,.slice A6 (len hi'.natAbs) c6],.agg #[.bool bf,.slice A7 (len Fl.natAbs) c7,.bool bc,.slice A8 (len Ce.natAbs) c8]] ?_
    clear hHeld;refine(HQ3.out _ _ _ _ _ M1.out M2.out M3.out M4.out).mono ?_;rintro e w9 ⟨rfl,hb⟩;clear M1 M2 M3 M4;have k9:=HS2.out.to hb;clear HS2;have HS2:=ak k9;clear k9;clear hb;refine⟨_,rfl,⟨C3.of HS2.out.b0,C3.of HS2.out.b1⟩,fun hHeld=>?_⟩;repeat(first|refine pu 0 ?_|refine tk 0 hHeld ?_|refine pu 1 ?_|refine tk 1 hHeld ?_|refine pu 2 ?_|refine tk 2 hHeld ?_|refine pu 3 ?_|refine tk 3 hHeld ?_)
    clear hHeld;refine done_ (by decide+kernel) ?_;clear HQ1 HQ2 HQ3;by_cases hX0:X=0
    ·have hd:(X != 0)=false:=by rw[hX0];rfl
     subst hX0
     go_wp2_with fail
     go_roundg k1
     case measure=>omega
     case rel=>exact⟨2,rfl,⟨by have:=hi.out;omega⟩,HS2⟩
    ·have hd:(X != 0)=true:=bne_iff_ne.2 hX0
     go_wp2_with fail
     go_ret
     exact⟨X,rfl,HX.out,HS2.out.bl⟩
   ·subst hi0;have c0:=(blk_cell HS2.out.b2 0).trans rfl;have c1':=(blk_cell HS2.out.b2 1).trans rfl;have c2':=(blk_cell HS2.out.b2 2).trans rfl
    go_wp2_with fail
    clear c0 c1' c2';have hw:wrap64 ((pc:Int)+60)=((pc+60:Nat):Int):=HW.out 60 (by omega);obtain⟨lo,hi',f1,f2,f3,f4,hq⟩:=HM.out 60 (by omega);have hs:=HSc.out 60 (by omega);have hx:=HOk.out (pc+60) lo hi' f1 f2;have l1:=HFl.out 60 (by omega);have l2:=HCe.out 60 (by omega);rw[←hw]at hq hs;clear hw f1 f2;generalize floZ z (10^(pc+60)) E=Fl at*;generalize ceiZ z (10^(pc+60)) E=Ce at*;have HQ1:=ak hq;have HQ2:=ak hs;have HQ3:=ak (fun u v u' v' w0 a b c d=>beside_is lo hi' Fl Ce u v u' v' w0 a b c d (Nat.le_trans f3 (by omega)) (Nat.le_trans f4 (by omega)) l1 l2);obtain⟨X,hX⟩: ∃X,besideZ lo hi' Fl Ce=X:=⟨_,rfl⟩
    rw[hX]at HQ3 hx;have HX:=ak hx;clear hq hs f3 f4 l1 l2 hx hX;generalize decide (lo<0)=bl at*;generalize decide (hi'<0)=bh at*;generalize decide (Fl<0)=bf at*;generalize decide (Ce<0)=bc at*;refine sta (fun w'=>C3 w' w.heap.size (.bool false) (.slice A1 (len n) c1) (.slice A2 (len D) c2)∧C3 w' (w.heap.size+1) (.bool bz) (.slice A3 (len z.natAbs) c3) (.slice A4 (len E) c4)) [] ⟨C3.of HS2.out.b0,C3.of HS2.out.b1⟩ (fun hHeld=>?_);repeat(first|refine pu 0 ?_|refine tk 0 hHeld ?_|refine pu 1 ?_|refine tk 1 hHeld ?_|refine pu 2 ?_|refine tk 2 hHeld ?_|refine pu 3 ?_|refine tk 3 hHeld ?_)
    refine cl Tryz.func25 #[.agg #[.bool false,.slice A1 (len n) c1,.slice A2 (len D) c2],.int .i64 (wrap64 ((pc:Int)+60))] ?_
    clear hHeld;have k9:=HS2.out.to (below_drew (Below.refl _ _));clear HS2;have HS2:=ak k9;clear k9;refine(HQ1.out _ _ _ HS2.out.x HS2.out.y).mono ?_;rintro e w9 ⟨r,q,rfl,hr,hq,hb⟩;have k9:=HS2.out.to hb;clear HS2;have HS2:=ak k9;clear k9;have M1:=ak hr;have M2:=ak hq;clear hr hq hb;obtain⟨A5,c5,rfl,-⟩:=id M1.out;obtain⟨A6,c6,rfl,-⟩:=id M2.out;refine⟨_,rfl,⟨C3.of HS2.out.b0,C3.of HS2.out.b1⟩,fun hHeld=>?_⟩;repeat(first|refine pu 0 ?_|refine tk 0 hHeld ?_|refine pu 1 ?_|refine tk 1 hHeld ?_|refine pu 2 ?_|refine tk 2 hHeld ?_|refine pu 3 ?_|refine tk 3 hHeld ?_)
    refine cl Tryz.func27 #[.agg #[.bool bz,.slice A3 (len z.natAbs) c3,.slice A4 (len E) c4],.int .i64 (wrap64 ((pc:Int)+60))] ?_
    clear hHeld;refine(HQ2.out _ _ _ HS2.out.x' HS2.out.y').mono ?_;rintro e w9 ⟨r,q,rfl,hr,hq,hb⟩;have k9:=HS2.out.to hb;clear HS2;have HS2:=ak k9;clear k9;have k0:=M1.out.below hb;have k1:=M2.out.below hb;clear M1 M2;have M1:=ak k0;have M2:=ak k1;clear k0 k1;have M3:=ak hr;have M4:=ak hq;clear hr hq hb;obtain⟨A7,c7,rfl,-⟩:=id M3.out;obtain⟨A8,c8,rfl,-⟩:=id M4.out;refine⟨_,rfl,⟨C3.of HS2.out.b0,C3.of HS2.out.b1⟩,fun hHeld=>?_⟩;repeat(first|refine pu 0 ?_|refine tk 0 hHeld ?_|refine pu 1 ?_|refine tk 1 hHeld ?_|refine pu 2 ?_|refine tk 2 hHeld ?_|refine pu 3 ?_|refine tk 3 hHeld ?_)
    refine cl Tryz.func26 #[.agg #[.bool bl,.slice A5 (len lo.natAbs) c5,.bool bh,.slice A6 (len hi'.natAbs) c6],.agg #[.bool bf,.slice A7 (len Fl.natAbs) c7,.bool bc,.slice A8 (len Ce.natAbs) c8]] ?_
    clear hHeld;refine(HQ3.out _ _ _ _ _ M1.out M2.out M3.out M4.out).mono ?_;rintro e w9 ⟨rfl,hb⟩;clear M1 M2 M3 M4;have k9:=HS2.out.to hb;clear HS2;have HS2:=ak k9;clear k9;clear hb;refine⟨_,rfl,⟨C3.of HS2.out.b0,C3.of HS2.out.b1⟩,fun hHeld=>?_⟩;repeat(first|refine pu 0 ?_|refine tk 0 hHeld ?_|refine pu 1 ?_|refine tk 1 hHeld ?_|refine pu 2 ?_|refine tk 2 hHeld ?_|refine pu 3 ?_|refine tk 3 hHeld ?_)
    clear hHeld;refine done_ (by decide+kernel) ?_;clear HQ1 HQ2 HQ3;by_cases hX0:X=0
    ·have hd:(X != 0)=false:=by rw[hX0];rfl
     subst hX0
     go_wp2_with fail
     go_roundg k1
     case measure=>omega
     case rel=>exact⟨3,rfl,⟨by have:=hi.out;omega⟩,HS2⟩
    ·have hd:(X != 0)=true:=bne_iff_ne.2 hX0
     go_wp2_with fail
     go_ret
     exact⟨X,rfl,HX.out,HS2.out.bl⟩
end Go.Proofs.YthlakefgobflnaaGreatDoor.R
namespace Go.Proofs.YthlakefgobflnaaGreatDoor.Lm
open Go.RowKit Go.Proofs.YthlakefgobflnaaGreatDoorW.PrintWords
set_option linter.unusedVariables false
theorem and32(t:Nat)(h:t<18446744073709551616):Go.bits .and .u64 (t:Int) 4294967295=((t%4294967296:Nat):Int):=by
 have:=bits_and_u64_nat t 4294967295 h (by omega);rw[show((4294967295:Nat):Int)=4294967295 from rfl]at this;rw[this,show(4294967295:Nat)=2^32-1 from rfl,Nat.and_two_pow_sub_one_eq_mod]
theorem or_nat(a b m:Nat)(ha:a<2^m):a|||b*2^m=a+b*2^m:=by
 have h:=Nat.two_pow_add_eq_or_of_lt ha b;rw[Nat.or_comm,Nat.mul_comm b,←h,Nat.add_comm]
theorem or64(a b m:Nat)(ha:a<2^m)(h:a+b*2^m<18446744073709551616):Go.bits .or .u64 (a:Int) ((b*2^m:Nat):Int)=((a+b*2^m:Nat):Int):=by
 rw[bits_or_u64_nat a (b*2^m) (by omega) (by omega),or_nat a b m ha]
theorem or64'(a b m:Nat)(ha:a<2^m)(h:a+b*2^m<18446744073709551616):Go.bits .or .u64 ((b*2^m:Nat):Int) (a:Int)=((a+b*2^m:Nat):Int):=by
 rw[bits_or_u64_nat (b*2^m) a (by omega) (by omega),Nat.or_comm,or_nat a b m ha]
theorem or_w(u x:Nat)(hu:u<4294967296)(hx:x<4294967296):Go.bits .or .u64 (u:Int) ((4294967296*x:Nat):Int)=((u+4294967296*x:Nat):Int):=by
 have h:=or64 u x 32 hu (by omega);rw[Nat.mul_comm x]at h;exact h
theorem or_w'(u x:Nat)(hu:u<4294967296)(hx:x<4294967296):Go.bits .or .u64 ((4294967296*x:Nat):Int) (u:Int)=((u+4294967296*x:Nat):Int):=by
 have h:=or64' u x 32 hu (by omega);rw[Nat.mul_comm x]at h;exact h
theorem u64_32(x:Nat)(hx:x<4294967296):IntKind.u64.wrap ((x:Int)*4294967296)=((4294967296*x:Nat):Int):=by
 rw[show(x:Int)*4294967296=((4294967296*x:Nat):Int) by omega];exact wu64 (by omega) (by omega)
end Go.Proofs.YthlakefgobflnaaGreatDoor.Lm
namespace Go.Proofs.YthlakefgobflnaaGreatDoor.S
open Go.RowKit Go.Proofs.YthlakefgobflnaaGreatDoorW.PrintWords Go.Proofs.YthlakefgobflnaaGreatDoorW.PrintLast Go.Proofs.YthlakefgobflnaaGreatDoorW.PrintMore
attribute [local go_sem] max2_int min2_int max_two min_two max_three min_three max_four min_four   -- for this text's walks alone
set_option linter.unusedVariables false
set_option linter.unusedSimpArgs false
mutual
def spec_NatOf.l0:Nat→ByteArray→List Int→Int→Option (List Int×Bool)
 |0,_,_,_=>none
 |k+1,x0,x4,x5=>if x5>0 then(spec_NatOf.l1 k x0 x4 x5 0 (mx 0 (wrap64 (x5-9))))else((spec_natTrim.f k x4).bind fun t221=>(some (t221,(x0.toList != ([]:List UInt8)))))
def spec_NatOf.l1:Nat→ByteArray→List Int→Int→Int→Int→Option (List Int×Bool)
 |0,_,_,_,_,_=>none
 |k+1,x0,x4,x5,x6,x7=>if x7<x5 then(if 0≤x7 then(if x7<(x0.size:Int)then(if(bt x0 x7)<48 then(some (([]:List Int),false))else(if(bt x0 x7)>57 then(some (([]:List Int),false))else(spec_NatOf.l1 k x0 x4 x5 ((((x6*10)%4294967296)+(((bt x0 x7)-48)%256))%4294967296) (wrap64 (x7+1)))))else(none))else(none))else(if x4.length<35184372088832 then(spec_NatOf.l0 k x0 (x4++ [x6]) (wrap64 (x5-9)))else(none))
end
def spec_NatOf.f(k:Nat)(a0:ByteArray):Option (List Int×Bool):=spec_NatOf.l0 k a0 ([]:List Int) (a0.size:Int)
set_option maxHeartbeats 8000000 in
set_option maxRecDepth 100000 in
theorem spec_NatOf.calls(k:Nat)(a0:ByteArray)(r1:List Int)(r2:Bool)(w:World)(h:spec_NatOf.f k a0=some (r1,r2)):
 Calls Tryz.prog 43 #[.string a0] w fun e w'=>∃v0_:Value,e= .returned (.tuple #[v0_,.bool r2])∧Kd.V (Kd.int .u32) 40 w' w.heap.size (fun k_=>(w.heap.size≤k_)) v0_ r1∧Below w.heap.size w w':=by
 have HB:=ak (Below.refl w.heap.size w);have H:(spec_NatOf.l0 k a0 ([]:List Int) (a0.size:Int))=some (r1,r2):=h;clear h;have H':=ak H;clear H
 go_enter Tryz.func43,Tryz.ntmps43
 go_wp2
 go_loopg [4,5] k (fun kq v4 v5 w'=>∃(x4_1:List Int) (x5_1:Int),v5= .int .i64 x5_1∧Aside0 (spec_NatOf.l0 kq a0 x4_1 x5_1=some (r1,r2))∧Aside0 (kq≤k)∧Aside0 (Kd.R (Kd.int .u32) 40 w' w.heap.size (fun k_=>(w.heap.size≤k_)) v4 x4_1)∧Aside0 (Below w.heap.size w w'))
 case atStart=>exact⟨(([]:List Int)),((a0.size:Int)),zr,H',⟨Nat.le_refl _⟩,⟨zn⟩,⟨bw HB.out⟩⟩
 case round=>
  clear H';obtain⟨x4_1,x5_1,rfl,HA,HK1,HO_4,HB⟩:=hrel;cases gk with
  |zero=>exact absurd HA.out (by simp[spec_NatOf.l0])
  |succ k1=>
   have H:=HA.out;clear HA;simp only[spec_NatOf.l0]at H;by_cases c2:x5_1>0
   ·rw[if_pos c2]at H;have c2b0:decide (0<x5_1)=true:=decide_eq_true c2;clear c2;obtain⟨ji3,hji3⟩: ∃j_:Int,(mx 0 (wrap64 (x5_1-9)))=j_:=⟨_,rfl⟩
    replace H:(spec_NatOf.l1 k1 a0 x4_1 x5_1 0 ji3)=some (r1,r2):=by first|(rw[hji3]at H;exact H)|(simp only[hji3]at H⊢;exact H)
    have hji3_:(if 0<(wrap64 (x5_1-9))then(wrap64 (x5_1-9))else 0)=ji3:=hji3;have H':=ak H;clear H
    go_wp2
    go_loopg [6,7] k1 (fun kq v6 v7 w'=>∃(x6_2:Int) (x7_2:Int),v6= .int .u32 x6_2∧v7= .int .i64 x7_2∧Aside0 (spec_NatOf.l1 kq a0 x4_1 x5_1 x6_2 x7_2=some (r1,r2))∧Aside0 (kq≤k1)∧Aside0 (Kd.R (Kd.int .u32) 40 w' w.heap.size (fun k_=>(w.heap.size≤k_)) u4 x4_1)∧Aside0 (Below w.heap.size w w'))
    case atStart=>exact⟨(0),(ji3),zr,(by first|rfl|(simp;done)|(simp only[←hji3]<;>(first|rfl|simp))|(simp[*];done)),H',⟨Nat.le_refl _⟩,⟨kr HO_4.out⟩,⟨bw HB.out⟩⟩
    case round=>
     clear H';try clear c2b0
     obtain⟨x6_2,x7_2,rfl,rfl,HA,HK2,HO_4,HB⟩:=hrel;cases gk with
     |zero=>exact absurd HA.out (by simp[spec_NatOf.l1])
     |succ k2=>
      have H:=HA.out;clear HA;simp only[spec_NatOf.l1]at H;by_cases c4:x7_2<x5_1
      ·rw[if_pos c4]at H;have c4b0:decide (x7_2<x5_1)=true:=decide_eq_true c4;clear c4;replace H:=gdt H;obtain⟨c5b0,H⟩:=H;replace H:=gdt H;obtain⟨c6b0,H⟩:=H;by_cases c8:(bt a0 x7_2)<48
       ·rw[if_pos c8]at H;have c8b0:decide ((bt a0 x7_2)<48)=true:=decide_eq_true c8;clear c8;simp only[Option.some.injEq,Prod.mk.injEq]at H;obtain⟨rfl,rfl⟩:=H;have p7:0≤(x7_2:Int):=of_decide_eq_true za;have q7:x7_2<(a0.size:Int):=of_decide_eq_true za;have hx7:=bt_at a0 x7_2;replace p7:=eq_true p7;replace q7:=eq_true q7
        go_wp2
        go_ret2
        exact⟨_,by first|rfl|(simp[errW_none,errW_some]<;>rfl)|(simp only[←hji3];first|rfl|(simp[errW_none,errW_some]<;>rfl))|(simp[*,errW_none,errW_some]<;>rfl),(Kd.V_nil _ _ _ _ _),bw HB.out⟩
       ·rw[if_neg c8]at H;have c8b0:decide ((bt a0 x7_2)<48)=false:=decide_eq_false c8;clear c8;by_cases c10:(bt a0 x7_2)>57
        ·rw[if_pos c10]at H;have c10b0:decide (57<(bt a0 x7_2))=true:=decide_eq_true c10;clear c10;simp only[Option.some.injEq,Prod.mk.injEq]at H;obtain⟨rfl,rfl⟩:=H;have p7:0≤(x7_2:Int):=of_decide_eq_true za;have q7:x7_2<(a0.size:Int):=of_decide_eq_true za;have hx7:=bt_at a0 x7_2;replace p7:=eq_true p7;replace q7:=eq_true q7;have p9:0≤(x7_2:Int):=of_decide_eq_true za;have q9:x7_2<(a0.size:Int):=of_decide_eq_true za;have hx9:=bt_at a0 x7_2;replace p9:=eq_true p9;replace q9:=eq_true q9
         go_wp2
         go_ret2
         exact⟨_,by first|rfl|(simp[errW_none,errW_some]<;>rfl)|(simp only[←hji3];first|rfl|(simp[errW_none,errW_some]<;>rfl))|(simp[*,errW_none,errW_some]<;>rfl),(Kd.V_nil _ _ _ _ _),bw HB.out⟩
        ·rw[if_neg c10]at H;have c10b0:decide (57<(bt a0 x7_2))=false:=decide_eq_false c10;clear c10;have H':=ak H;clear H;have p7:0≤(x7_2:Int):=of_decide_eq_true za;have q7:x7_2<(a0.size:Int):=of_decide_eq_true za;have hx7:=bt_at a0 x7_2;replace p7:=eq_true p7;replace q7:=eq_true q7;have p9:0≤(x7_2:Int):=of_decide_eq_true za;have q9:x7_2<(a0.size:Int):=of_decide_eq_true za;have hx9:=bt_at a0 x7_2;replace p9:=eq_true p9;replace q9:=eq_true q9;have p11:0≤(x7_2:Int):=of_decide_eq_true za;have q11:x7_2<(a0.size:Int):=of_decide_eq_true za;have hx11:=bt_at a0 x7_2;replace p11:=eq_true p11;replace q11:=eq_true q11
         go_wp2
         go_roundg k2
         case measure=>have:=HK1.out;have:=HK2.out;omega
         case rel=>exact⟨((((x6_2*10)%4294967296)+(((bt a0 x7_2)-48)%256))%4294967296),(wrap64 (x7_2+1)),zr,zr,H',⟨by have:=HK1.out;have:=HK2.out;omega⟩,⟨kr HO_4.out⟩,⟨bw HB.out⟩⟩
      ·rw[if_neg c4]at H;have c4b0:decide (x7_2<x5_1)=false:=decide_eq_false c4;clear c4;replace H:=gd H;obtain⟨c12,H⟩:=H;have LMc12:=ak c12;clear c12;obtain⟨y224,hy224⟩: ∃y_:List Int,y_=(x4_1++ [x6_2]):=⟨_,rfl⟩
       replace H:(spec_NatOf.l0 k2 a0 y224 (wrap64 (x5_1-9)))=some (r1,r2):=zh hy224 H;have Ny224:=ak hy224;clear hy224;have H':=ak H;clear H
       go_wp2_with (first|((with_reducible refine gate_builtin (b:=.append) (xs:=#[.tmp 40,.tmp 42]) rfl ?_);at_builtin;refine Kd.R_append (Kd.int .u32) (w0:=w) w.heap.size rfl (.tmp 40) (.tmp 42) 24 40 (.int .u32 0) 4 rfl Tryz.underlying24 info40 rfl (by decide) (by omega) u4 x4_1 x6_2 [.int .u32 x6_2] (fun k_=>(w.heap.size≤k_)) (fun _=>False) rfl rfl ?aP (fun _ hk=>hk.elim) ?aF ?aO ?aB ?aS ?aL ?_;(case aP=>exact rfl);(case aB=>exact(bw HB.out));(case aF=>exact(fun k_ hk=>(Nat.le_trans (below_size (bw HB.out)) hk)));(case aO=>exact(kr HO_4.out));(case aS=>exact(below_size (bw HB.out)));(case aL=>have:=LMc12.out;omega);intro v225 w13 ho hb hg hat;rw[←Ny224.out]at ho;replace HB:=ak (hb);have HO226:=ak (ho);clear HO_4;clear ho hb hg hat))
       go_roundg k2
       case measure=>have:=HK1.out;have:=HK2.out;omega
       case rel=>exact⟨(y224),(wrap64 (x5_1-9)),zr,H',⟨by have:=HK1.out;have:=HK2.out;omega⟩,⟨kr HO226.out⟩,⟨bw HB.out⟩⟩
   ·rw[if_neg c2]at H;have c2b0:decide (0<x5_1)=false:=decide_eq_false c2;clear c2;replace H:=Option.bind_eq_some_iff.mp H;obtain⟨t221,A140,H⟩:=H;replace H:(some (t221,(a0.toList != ([]:List UInt8))))=some (r1,r2):=H;have A14:=ak A140;clear A140;simp only[Option.some.injEq,Prod.mk.injEq]at H;obtain⟨rfl,rfl⟩:=H;obtain⟨Ao15,co15,eo15⟩:=Kd.R_slice HO_4.out;subst eo15
    go_wp2_with (first|((with_reducible refine gate_callee (f:=32) rfl ?_);refine goesL_ (some 45) rfl rfl Tryz.func32 (by kernel_rfl) rfl #[.slice Ao15 x4_1.length co15] rfl zm ?_;(with_reducible refine(spec_natTrim.calls k1 (fun k_=>some k_=(.slice Ao15 x4_1.length co15:Value).ownBlock) _ _ x4_1 t221 _ ?side1 A14.out).mono ?_);(case side1=>exact Kd.R_V (Kd.R_tight rfl (HO_4.out)));rintro e w16 ⟨v222,rfl,ho0,hb⟩;refine⟨_,rfl,?_⟩;have HO223:=ak (Kd.V_lower (Kd.V_mono (ok':=fun k_=>(w.heap.size≤k_)) ho0 (fun k_ hk_=>Or.elim hk_ (fun hs_=>((HO_4.out).1 k_ hs_.symm)) (fun hn_=>(Nat.le_trans (below_size (bw HB.out)) hn_)))) (below_size (bw HB.out)));replace HO_4:=ak (Kd.R_below (kr HO_4.out) hb);replace HB:=ak (below_step (bw HB.out) hb);(try clear hb);(try clear hb2);(try clear hk);(try clear hi);(try clear ho0)))
    go_ret2
    exact⟨v222,by first|rfl|(rw[show(a0.toList != ([]:List UInt8))=!a0.toList.isEmpty from by cases a0.toList<;>rfl];rfl)|(simp[errW_none,errW_some]<;>rfl)|(simp[*,errW_none,errW_some]<;>rfl),kv HO223.out,bw HB.out⟩
end Go.Proofs.YthlakefgobflnaaGreatDoor.S
