/- THE LAW's OWN FUNCTIONS BY WORTH: NatPow, DecFit, DecIn, arBits, ParseWhole. CONTRACTS of bits_Mul32, bits_Mul64, bits_Mul: each as the plain function beside it. (Began as print.sh's text for this seat; the turns are those of wip/tools/split.py.) CONTRACTS: the package's arithmetic on words. -/
import Derived.Test.YthlakefgobflnaaGreatDoorBaq
import Derived.Test.YthlakefgobflnaaGreatDoorBau
import Derived.Test.YthlakefgobflnaaGreatDoorBaa
import Derived.Laws.Externs
import Derived.Lib.Mul64
import Derived.Outline
namespace Go.Proofs.YthlakefgobflnaaGreatDoor.R
open Go.Proofs.YthlakefgobflnaaGreatDoor.G Go.RowKit Go.Proofs.YthlakefgobflnaaGreatDoorW.PrintWords Go.Proofs.YthlakefgobflnaaGreatDoorW.PrintLast Go.Proofs.YthlakefgobflnaaGreatDoorW.PrintMore Go.Proofs.YthlakefgobflnaaGreatDoor.S
set_option linter.unusedVariables false
set_option linter.unusedSimpArgs false
set_option maxRecDepth 100000 in
theorem natPow2_is(b:Nat)(u:Value)(w:World)(hu:Nv w u 2)(hb:b≤300):
 Calls Tryz.prog 10 #[u,.int .i64 (b:Int)] w fun e w'=>∃x,e= .returned x∧Nv w' x (2^b)∧Below w.heap.size w w':=by
 have HU:=ak hu;have HLen:=ak (fun(j:Nat) (h:j≤b)=>show len (2^j)≤301 from Nat.le_trans (Lm.len_mono (Nat.pow_le_pow_left (show 2≤10 by omega) j)) (Nat.le_trans (len_pow10 j) (by omega)));have HB0:=ak hb;clear hu hb
 go_enter Tryz.func10,Tryz.ntmps10
 go_wp2_with fail
 refine(natFrom_is 1 _ (by omega)).mono ?_;rintro e w1 ⟨x,rfl,hx,hb⟩;have HS:=ak (show Nv w1 x (2^0)∧Nv w1 u 2∧Below w.heap.size w w1 from⟨hx,HU.out.below hb,hb⟩);clear hx hb HU
 go_wp2_with fail
 go_loopg [1,5] b (fun kq v1 v5 w'=>v1= .int .i64 (kq:Int)∧∃j,Aside0 (j+kq=b)∧Aside0 (Nv w' v5 (2^j)∧Nv w' u 2∧Below w.heap.size w w'))
 case atStart=>exact⟨rfl,0,⟨Nat.zero_add _⟩,HS⟩
 case round=>
  obtain⟨rfl,j,hj,HS2⟩:=hrel;clear HS;cases gk with
  |zero=>
   have e:j=b:=hj.out;subst e
   go_wp2_with fail
   go_ret
   exact⟨_,rfl,HS2.out.1,HS2.out.2.2⟩
  |succ k1=>
   have hd:decide (((k1+1:Nat):Int)>0)=true:=decide_eq_true (by omega);have c0:(0:Int)<((k1+1:Nat):Int):=by omega
   go_wp2_with fail
   refine(natMul_is (2^j) 2 _ _ _ HS2.out.1 HS2.out.2.1 (by have:=HLen.out j (by have:=hj.out;omega);have:len 2≤1:=Lm.len_le (by omega);omega)).mono ?_;rintro e w2 ⟨y,rfl,hy,hb⟩;have HS3:=ak (show Nv w2 y (2^(j+1))∧Nv w2 u 2∧Below w.heap.size w w2 from⟨by rw[Nat.pow_succ];exact hy,HS2.out.2.1.below hb,below_step HS2.out.2.2 hb⟩);have hw:wrap64 (k1:Int)=(k1:Int):=Lm.w64 (by omega) (by have:=hj.out;have:=HB0.out;omega);have HW:=ak hw;clear hy hb HS2 hw
   go_wp2_with fail
   go_roundg k1
   case measure=>omega
   case rel=>exact⟨(by first|rfl|exact congrArg (Value.int IntKind.i64) HW.out),j+1,⟨by have:=hj.out;omega⟩,HS3⟩
theorem parseWhole_is(z:Int)(w:World)(hn:Lm.ndig z.natAbs≤390):
 Calls Tryz.prog 21 #[.string (Lm.text (decide (z<0)) z.natAbs)] w fun e w'=>∃v,e= .returned (.tuple #[.agg #[.bool (decide (z<0)),v],.bool true])∧Nv w' v z.natAbs∧Below w.heap.size w w':=by
 obtain⟨k,hk⟩:=(Lm.parse_text (decide (z<0)) z.natAbs (fun h=>by have:=of_decide_eq_true h;omega) hn).ex;refine(spec_ParseWhole.calls k _ _ _ _ w hk).mono ?_;rintro e w' ⟨v,rfl,hV,hb⟩;exact⟨v,rfl,Nv.of hV,hb⟩
theorem fld_whole(b:Bool)(v:Value)(w:World):(Instr.field 32 (.agg #[.bool b,v]) 1).run Tryz.prog w= .ok v w:=by kernel_rfl
set_option maxRecDepth 100000 in
theorem arBits_is(s:ByteArray)(hs:s.size≤2147483647)(b:Nat)(hb:b≤300): ∃n,n<2^b∧∀w:World,
 Calls Tryz.prog 4 #[.string s,.int .i64 (b:Int)] w fun e w'=>∃x y,e= .returned (.tuple #[x,y])∧Nv w' x n∧Nv w' y (2^b)∧Below w.heap.size w w':=by
 obtain⟨bb,N,hbn,hN,hf⟩:=Lm.fit_some s hs 0;obtain⟨kf,hf⟩:=hf.ex;obtain⟨ki,hi⟩:=(Lm.decIn_is bb N (Int.tmod 0 1) hbn (by omega)).ex;have hp:0<2^b:=Nat.pow_pos (by omega);have hlN:len N≤121:=Nat.le_trans (Lm.len_mono (show N≤10^120 from Nat.le_of_lt (Lm.ndig_le.1 hN))) (len_pow10 120);have hl2:len (2^b)≤301:=Nat.le_trans (Lm.len_mono (Nat.pow_le_pow_left (show 2≤10 by omega) b)) (Nat.le_trans (len_pow10 b) (by omega));refine⟨N%2^b,Nat.mod_lt _ hp,fun w=>?_⟩;have HF:=ak (fun w0=>spec_DecFit.calls kf s 0 120 0 _ _ w0 hf);have HI:=ak (fun w0=>spec_DecIn.calls ki (Lm.text bb N) (Int.tmod 0 1) _ _ _ w0 hi);have HD:=ak (fun u v w0 h k=>natDiv_is N (2^b) u v w0 h k hp (by omega));have HPw:=ak (fun u w0 h=>natPow2_is b u w0 h hb);have HB:=ak (Below.refl w.heap.size w);have f1:=fld_dec;have f2:=fld_whole;clear hs hb hbn hN hf hi hp hlN hl2;generalize Int.tmod 0 1=x0 at*;generalize Lm.text bb N=tx at*
 go_enter Tryz.func4,Tryz.ntmps4
 go_wp2_with fail
 generalize hW:World.alloc _ _=W;obtain⟨m0,m1,-⟩:=alloc1 hW;have H2:=ak (Nv.lit (x:=2) m0 (by omega) (by omega));have HB1:=ak m1;clear m0 m1 hW HB;refine(HPw.out _ _ H2.out).mono ?_;rintro e w1 ⟨y,rfl,hy,hb⟩;have NY:=ak hy;have HB:=ak (below_step HB1.out hb);clear hy hb HB1 H2
 go_wp2_with fail
 refine(HF.out _).mono ?_;rintro e w2 ⟨rfl,hb⟩;have ky:=NY.out.below hb;have kb:=below_step HB.out hb;clear NY HB hb;have NY:=ak ky;have HB:=ak kb;clear ky kb
 go_wp2_with fail
 refine(HI.out _).mono ?_;rintro e w3 ⟨v,rfl,hV,hb⟩;have NV:=ak (Nv.of hV);have ky:=NY.out.below hb;have kb:=below_step HB.out hb;clear NY HB hb hV;have NY:=ak ky;have HB:=ak kb;clear ky kb
 go_wp2_with fail
 refine(HD.out _ _ _ NV.out NY.out).mono ?_;rintro e w4 ⟨q,r,rfl,hq,hr,hb⟩;have HFin:=ak (And.intro hr (And.intro (NY.out.below hb) (below_step HB.out hb)));clear hq hr hb
 go_wp2_with fail
 go_ret2
 exact⟨r,y,rfl,HFin.out.1,HFin.out.2.1,HFin.out.2.2⟩
theorem put3o{w2 W:World}{g k:Nat}{b:Bool}{v x:Value}(hne:k≠g)(hW:((w2.setCell ⟨g,0,none⟩ (.bool b)).setCell ⟨g,1,none⟩ v).setCell ⟨g,2,none⟩ x=W):W.heap[k]?=w2.heap[k]?:=by
 subst hW;exact((Below.heap_setCell _ _ _ k hne).trans (Below.heap_setCell _ _ _ k hne)).trans (Below.heap_setCell _ _ _ k hne)
set_option maxRecDepth 100000 in
set_option maxHeartbeats 2000000 in
theorem arWithin_is(z:Int)(off B:Nat)(t:Value)(w:World)(hn:Lm.ndig z.natAbs≤390)(hl:len z.natAbs≤900)(ho:off<1048576)(ht:Nv w t B):
 Calls Tryz.prog 8 #[.string (Lm.text (decide (z<0)) z.natAbs),.int .i64 (off:Int),t] w fun e w'=>∃r s,e= .returned (.tuple #[.agg #[.bool (decide (z+ -(off:Int)<0)),r,t],.agg #[.bool (decide (z+(off:Int)<0)),s,t],.bool true])∧Nv w' r (z+ -(off:Int)).natAbs∧Nv w' s (z+(off:Int)).natAbs∧Nv w' t B∧Below w.heap.size w w':=by
 have HP:=ak (fun w0=>parseWhole_is z w0 hn);have HWo:=ak (fun w0=>wholeOfInt_is off w0 (by omega));have hlo:len off≤1000:=Nat.le_trans (Lm.len_le (m:=1) (by omega)) (by omega);have HMi:=ak (fun v w0 (h:Nv w0 v off)=>wholeMinus_is (off:Int) v w0 h);have HA1:=ak (fun u v w0 (h:Nv w0 u z.natAbs) (k:Nv w0 v off)=>wholeAdd_is z (-(off:Int)) u v w0 h (by rw[Int.natAbs_neg];exact k) (Nat.le_trans hl (by omega)) (by rw[Int.natAbs_neg];exact hlo));have HA2:=ak (fun u v w0 (h:Nv w0 u z.natAbs) (k:Nv w0 v off)=>wholeAdd_is z (off:Int) u v w0 h k (Nat.le_trans hl (by omega)) hlo);rw[decide_eq_false (show¬((off:Int)<0) by omega)]at HMi HA2;have HT:=ak ht;have g1:decide ((off:Int)≥0)=true:=decide_eq_true (by omega);have g2:decide ((off:Int)<1048576)=true:=decide_eq_true (by omega);have HG:=ak (And.intro g1 g2);clear hn hl ho ht hlo g1 g2;generalize Lm.text (decide (z<0)) z.natAbs=tx at*;generalize decide (z<0)=b1 at*;generalize decide (-(off:Int)<0)=b2 at*;generalize decide (z+ -(off:Int)<0)=d1 at*;generalize decide (z+(off:Int)<0)=d2 at*;obtain⟨A0,c0,rfl,-⟩:=id HT.out
 go_enter Tryz.func8,Tryz.ntmps8
 go_wp2_with fail
 generalize hW:(w.alloc _).alloc _=W;obtain⟨k0,k1,k2,-⟩:=alloc2 hW;have B0:=ak k0;have B1:=ak k1;have HB:=ak k2;have kt:=HT.out.below k2;clear HT hW k0 k1 k2;have HT:=ak kt;clear kt;refine(HP.out _).mono ?_;rintro e w1 ⟨v,rfl,hv,hb⟩;have k0:=blk_below B0.out hb;have k1:=blk_below B1.out hb;have k2:=below_step HB.out hb;have k3:=HT.out.below hb;clear B0 B1 HB HT;have B0:=ak k0;have B1:=ak k1;have HB:=ak k2;have HT:=ak k3;clear k0 k1 k2 k3;have NZ:=ak hv;obtain⟨A1,c1,rfl,-⟩:=id hv;clear hv hb
 go_wp2_with fail
 generalize hW:World.alloc _ _=W2;obtain⟨m0,m1,-⟩:=alloc1 hW;obtain⟨g2,hg2⟩: ∃g,w1.heap.size=g:=⟨_,rfl⟩
 rw[hg2]at m0⊢;have B2:=ak m0;have k0:=blk_below B0.out m1;have k1:=blk_below B1.out m1;have k2:=below_step HB.out m1;have k3:=HT.out.below m1;have k4:=NZ.out.below m1;clear B0 B1 HB HT NZ;have B0:=ak k0;have B1:=ak k1;have HB:=ak k2;have HT:=ak k3;have NZ:=ak k4;clear k0 k1 k2 k3 k4;clear m0 m1 hW hg2;refine(HWo.out _).mono ?_;rintro e w3 ⟨v,rfl,hv,hb⟩;have k0:=blk_below B0.out hb;have k1:=blk_below B1.out hb;have k2:=below_step HB.out hb;have k3:=HT.out.below hb;have k4:=NZ.out.below hb;have k5:=blk_below B2.out hb;clear B0 B1 HB HT NZ B2;have B0:=ak k0;have B1:=ak k1;have HB:=ak k2;have HT:=ak k3;have NZ:=ak k4;have B2:=ak k5;clear k0 k1 k2 k3 k4 k5;have NO:=ak hv;obtain⟨A2,c2,rfl,-⟩:=id hv;clear hv hb
 go_wp2_with fail
 generalize hW:World.alloc _ _=W4;obtain⟨m0,m1,-⟩:=alloc1 hW;obtain⟨g3,hg3⟩: ∃g,w3.heap.size=g:=⟨_,rfl⟩
 have hne:=blk_lt B1.out;rw[hg3]at m0 hne⊢;have HNe:=ak hne;have B3:=ak m0;have k0:=blk_below B0.out m1;have k1:=blk_below B1.out m1;have k2:=below_step HB.out m1;have k3:=HT.out.below m1;have k4:=NZ.out.below m1;have k5:=blk_below B2.out m1;have k6:=NO.out.below m1;clear B0 B1 HB HT NZ B2 NO;have B0:=ak k0;have B1:=ak k1;have HB:=ak k2;have HT:=ak k3;have NZ:=ak k4;have B2:=ak k5;have NO:=ak k6;clear k0 k1 k2 k3 k4 k5 k6;clear m0 m1 hW hg3 hne;have g1':=HG.out.1;have g2':=HG.out.2;refine sta (fun w'=>C2 w' g2 (.bool b1) (.slice A1 (len z.natAbs) c1)∧C2 w' g3 (.bool false) (.slice A2 (len off) c2)) [20,21] ⟨C2.of B2.out,C2.of B3.out⟩ (fun hHeld=>?_);repeat(first|refine un 0 ?_|refine pu 0 ?_|refine tk 0 hHeld ?_|refine un 1 ?_|refine pu 1 ?_|refine tk 1 hHeld ?_|refine un 2 ?_|refine pu 2 ?_|refine tk 2 hHeld ?_|refine un 3 ?_|refine pu 3 ?_|refine tk 3 hHeld ?_|refine un 4 ?_|refine pu 4 ?_|refine tk 4 hHeld ?_|refine un 5 ?_|refine pu 5 ?_|refine tk 5 hHeld ?_|refine un 6 ?_|refine pu 6 ?_|refine tk 6 hHeld ?_|refine un 7 ?_|refine pu 7 ?_|refine tk 7 hHeld ?_|refine un 8 ?_|refine pu 8 ?_|refine tk 8 hHeld ?_)
 refine cl Tryz.func24 #[.agg #[.bool false,.slice A2 (len off) c2]] ?_
 clear hHeld;have k0:=blk_below B0.out (below_drew (Below.refl _ _));have k1:=blk_below B1.out (below_drew (Below.refl _ _));have k2:=below_step HB.out (below_drew (Below.refl _ _));have k3:=HT.out.below (below_drew (Below.refl _ _));have k4:=NZ.out.below (below_drew (Below.refl _ _));have k5:=blk_below B2.out (below_drew (Below.refl _ _));have k6:=NO.out.below (below_drew (Below.refl _ _));have k7:=blk_below B3.out (below_drew (Below.refl _ _));clear B0 B1 HB HT NZ B2 NO B3;have B0:=ak k0;have B1:=ak k1;have HB:=ak k2;have HT:=ak k3;have NZ:=ak k4;have B2:=ak k5;have NO:=ak k6;have B3:=ak k7;clear k0 k1 k2 k3 k4 k5 k6 k7;refine(HMi.out _ _ NO.out).mono ?_;rintro e w5 ⟨v,rfl,hv,hb⟩;have k0:=blk_below B0.out hb;have k1:=blk_below B1.out hb;have k2:=below_step HB.out hb;have k3:=HT.out.below hb;have k4:=NZ.out.below hb;have k5:=blk_below B2.out hb;have k6:=NO.out.below hb;have k7:=blk_below B3.out hb;clear B0 B1 HB HT NZ B2 NO B3;have B0:=ak k0;have B1:=ak k1;have HB:=ak k2;have HT:=ak k3;have NZ:=ak k4;have B2:=ak k5;have NO:=ak k6;have B3:=ak k7;clear k0 k1 k2 k3 k4 k5 k6 k7;have NM:=ak (show Nv w5 v off by rw[Int.natAbs_natCast]at hv;exact hv);obtain⟨A3,c3,rfl,-⟩:=id NM.out;clear hv hb;refine⟨_,rfl,⟨C2.of B2.out,C2.of B3.out⟩,fun hHeld=>?_⟩;repeat(first|refine un 0 ?_|refine pu 0 ?_|refine tk 0 hHeld ?_|refine un 1 ?_|refine pu 1 ?_|refine tk 1 hHeld ?_|refine un 2 ?_|refine pu 2 ?_|refine tk 2 hHeld ?_|refine un 3 ?_|refine pu 3 ?_|refine tk 3 hHeld ?_|refine un 4 ?_|refine pu 4 ?_|refine tk 4 hHeld ?_|refine un 5 ?_|refine pu 5 ?_|refine tk 5 hHeld ?_|refine un 6 ?_|refine pu 6 ?_|refine tk 6 hHeld ?_|refine un 7 ?_|refine pu 7 ?_|refine tk 7 hHeld ?_|refine un 8 ?_|refine pu 8 ?_|refine tk 8 hHeld ?_)
 refine cl Tryz.func23 #[.agg #[.bool b1,.slice A1 (len z.natAbs) c1],.agg #[.bool b2,.slice A3 (len off) c3]] ?_
 clear hHeld;refine(HA1.out _ _ _ NZ.out NM.out).mono ?_;rintro e w6 ⟨v,rfl,hv,hb⟩;clear NM;have k0:=blk_below B0.out hb;have k1:=blk_below B1.out hb;have k2:=below_step HB.out hb;have k3:=HT.out.below hb;have k4:=NZ.out.below hb;have k5:=blk_below B2.out hb;have k6:=NO.out.below hb;have k7:=blk_below B3.out hb;clear B0 B1 HB HT NZ B2 NO B3;have B0:=ak k0;have B1:=ak k1;have HB:=ak k2;have HT:=ak k3;have NZ:=ak k4;have B2:=ak k5;have NO:=ak k6;have B3:=ak k7;clear k0 k1 k2 k3 k4 k5 k6 k7;have N5:=ak hv;obtain⟨A5,c5,rfl,-⟩:=id N5.out;clear hv hb;refine⟨_,rfl,⟨C2.of B2.out,C2.of B3.out⟩,fun hHeld=>?_⟩;repeat(first|refine un 0 ?_|refine pu 0 ?_|refine tk 0 hHeld ?_|refine un 1 ?_|refine pu 1 ?_|refine tk 1 hHeld ?_|refine un 2 ?_|refine pu 2 ?_|refine tk 2 hHeld ?_|refine un 3 ?_|refine pu 3 ?_|refine tk 3 hHeld ?_|refine un 4 ?_|refine pu 4 ?_|refine tk 4 hHeld ?_|refine un 5 ?_|refine pu 5 ?_|refine tk 5 hHeld ?_|refine un 6 ?_|refine pu 6 ?_|refine tk 6 hHeld ?_|refine un 7 ?_|refine pu 7 ?_|refine tk 7 hHeld ?_|refine un 8 ?_|refine pu 8 ?_|refine tk 8 hHeld ?_)
 refine cl Tryz.func23 #[.agg #[.bool b1,.slice A1 (len z.natAbs) c1],.agg #[.bool false,.slice A2 (len off) c2]] ?_
 clear hHeld;refine(HA2.out _ _ _ NZ.out NO.out).mono ?_;rintro e w7 ⟨v,rfl,hv,hb⟩;have k0:=blk_below B0.out hb;have k1:=blk_below B1.out hb;have k2:=below_step HB.out hb;have k3:=HT.out.below hb;have k4:=NZ.out.below hb;have k5:=blk_below B2.out hb;have k6:=NO.out.below hb;have k7:=blk_below B3.out hb;have k8:=N5.out.below hb;clear B0 B1 HB HT NZ B2 NO B3 N5;have B0:=ak k0;have B1:=ak k1;have HB:=ak k2;have HT:=ak k3;have NZ:=ak k4;have B2:=ak k5;have NO:=ak k6;have B3:=ak k7;have N5:=ak k8;clear k0 k1 k2 k3 k4 k5 k6 k7 k8;have N6:=ak hv;obtain⟨A6,c6,rfl,-⟩:=id N6.out;clear hv hb;generalize len (z+ -(off:Int)).natAbs=l5 at*;generalize len (z+(off:Int)).natAbs=l6 at*;refine⟨_,rfl,⟨C2.of B2.out,C2.of B3.out⟩,fun hHeld=>?_⟩;repeat(first|refine un 0 ?_|refine pu 0 ?_|refine tk 0 hHeld ?_|refine un 1 ?_|refine pu 1 ?_|refine tk 1 hHeld ?_|refine un 2 ?_|refine pu 2 ?_|refine tk 2 hHeld ?_|refine un 3 ?_|refine pu 3 ?_|refine tk 3 hHeld ?_|refine un 4 ?_|refine pu 4 ?_|refine tk 4 hHeld ?_|refine un 5 ?_|refine pu 5 ?_|refine tk 5 hHeld ?_|refine un 6 ?_|refine pu 6 ?_|refine tk 6 hHeld ?_|refine un 7 ?_|refine pu 7 ?_|refine tk 7 hHeld ?_|refine un 8 ?_|refine pu 8 ?_|refine tk 8 hHeld ?_)
 clear hHeld g1' g2';clear B2 B3 NZ NO HNe HP HWo HMi HA1 HA2 HG;obtain⟨f0,zf0,f1,zf1,f2,zf2⟩:=rf3 B0.out;refine la (fun K hK=>?_);go_simp;refine hK.out _ _ ?_;clear hK K f0 f1 f2 zf0 zf1 zf2;generalize hW5:World.setCell _ _ _=W5;obtain⟨p1,p2,p3⟩:=put3 B0.out HB.out (Nat.le_refl _) hW5;have po:=put3o (k:=_) (show w.heap.size+1≠w.heap.size by omega) hW5;have p4:=p3 _ _ N5.out;have p5:=p3 _ _ N6.out;have p6:=p3 _ _ HT.out;have p7:=po.trans B1.out;clear B0 B1 HB N5 N6 HT hW5;have B0:=ak p1;have B1:=ak p7;have HB:=ak p2;have N5:=ak p4;have N6:=ak p5;have HT:=ak p6;clear p1 p2 p3 p4 p5 p6 p7 po;obtain⟨f0,zf0,f1,zf1,f2,zf2⟩:=rf3 B1.out;refine la (fun K hK=>?_);go_simp;refine hK.out _ _ ?_;clear hK K f0 f1 f2 zf0 zf1 zf2;generalize hW5:World.setCell _ _ _=W5;obtain⟨p1,p2,p3⟩:=put3 B1.out HB.out (Nat.le_succ _) hW5;have po:=put3o (k:=_) (show w.heap.size≠w.heap.size+1 by omega) hW5;have p4:=p3 _ _ N5.out;have p5:=p3 _ _ N6.out;have p6:=p3 _ _ HT.out;have p7:=po.trans B0.out;clear B0 B1 HB N5 N6 HT hW5;have B1:=ak p1;have B0:=ak p7;have HB:=ak p2;have N5:=ak p4;have N6:=ak p5;have HT:=ak p6;clear p1 p2 p3 p4 p5 p6 p7 po;refine pu 0 ?_;refine done_ (by decide+kernel) ?_;obtain⟨p0,zp0,p1,zp1,p2,zp2⟩:=rf3 B0.out;obtain⟨q0,zq0,q1,zq1,q2,zq2⟩:=rf3 B1.out
 go_wp2_with fail
 exact bodyPost_ret (v:=.tuple #[.agg #[.bool d1,.slice A5 l5 c5,.slice A0 (len B) c0],.agg #[.bool d2,.slice A6 l6 c6,.slice A0 (len B) c0],.bool true]) (by simp[results,Tryz.results8,go_sem,p0,p1,p2,q0,q1,q2]) rfl ⟨_,_,rfl,N5.out,N6.out,HT.out,HB.out⟩
end Go.Proofs.YthlakefgobflnaaGreatDoor.R
namespace Go.Proofs.YthlakefgobflnaaGreatDoor.S
open Go.RowKit Go.Proofs.YthlakefgobflnaaGreatDoorW.PrintWords Go.Proofs.YthlakefgobflnaaGreatDoorW.PrintLast Go.Proofs.YthlakefgobflnaaGreatDoorW.PrintMore
attribute [local go_sem] max2_int min2_int max_two min_two max_three min_three max_four min_four   -- for this text's walks alone
set_option linter.unusedVariables false
set_option linter.unusedSimpArgs false
def bits_Mul64.f(a0:Int)(a1:Int):Option (Int×Int):=some (IntKind.u64.wrap ((IntKind.u64.wrap ((IntKind.u64.wrap ((a0/4294967296)*(a1/4294967296)))+((IntKind.u64.wrap ((IntKind.u64.wrap ((a0/4294967296)*(Go.bits .and .u64 a1 4294967295)))+((IntKind.u64.wrap ((Go.bits .and .u64 a0 4294967295)*(Go.bits .and .u64 a1 4294967295)))/4294967296)))/4294967296)))+((IntKind.u64.wrap ((Go.bits .and .u64 (IntKind.u64.wrap ((IntKind.u64.wrap ((a0/4294967296)*(Go.bits .and .u64 a1 4294967295)))+((IntKind.u64.wrap ((Go.bits .and .u64 a0 4294967295)*(Go.bits .and .u64 a1 4294967295)))/4294967296))) 4294967295)+(IntKind.u64.wrap ((Go.bits .and .u64 a0 4294967295)*(a1/4294967296)))))/4294967296)),IntKind.u64.wrap (a0*a1))
set_option maxHeartbeats 8000000 in
set_option maxRecDepth 100000 in
theorem bits_Mul64.calls(a0:Int)(a1:Int)(r1:Int)(r2:Int)(w:World)(h:bits_Mul64.f a0 a1=some (r1,r2)):
 Calls Tryz.prog 156 #[.int .u64 a0,.int .u64 a1] w fun e w'=>e= .returned (.tuple #[.int .u64 r1,.int .u64 r2])∧Drawn0 w w':=by
 have H:(some (IntKind.u64.wrap ((IntKind.u64.wrap ((IntKind.u64.wrap ((a0/4294967296)*(a1/4294967296)))+((IntKind.u64.wrap ((IntKind.u64.wrap ((a0/4294967296)*(Go.bits .and .u64 a1 4294967295)))+((IntKind.u64.wrap ((Go.bits .and .u64 a0 4294967295)*(Go.bits .and .u64 a1 4294967295)))/4294967296)))/4294967296)))+((IntKind.u64.wrap ((Go.bits .and .u64 (IntKind.u64.wrap ((IntKind.u64.wrap ((a0/4294967296)*(Go.bits .and .u64 a1 4294967295)))+((IntKind.u64.wrap ((Go.bits .and .u64 a0 4294967295)*(Go.bits .and .u64 a1 4294967295)))/4294967296))) 4294967295)+(IntKind.u64.wrap ((Go.bits .and .u64 a0 4294967295)*(a1/4294967296)))))/4294967296)),IntKind.u64.wrap (a0*a1)))=some (r1,r2):=h;clear h;simp only[Option.some.injEq,Prod.mk.injEq]at H;obtain⟨rfl,rfl⟩:=H
 go_enter Tryz.func156,Tryz.ntmps156
 go_wp2
 go_ret2
 exact⟨zr,zd⟩
def bits_Mul.f(a0:Int)(a1:Int):Option (Int×Int):=(bits_Mul64.f a0 a1).bind fun bt338=>(some (bt338.1,bt338.2))
set_option maxHeartbeats 8000000 in
set_option maxRecDepth 100000 in
theorem bits_Mul.calls(a0:Int)(a1:Int)(r1:Int)(r2:Int)(w:World)(h:bits_Mul.f a0 a1=some (r1,r2)):
 Calls Tryz.prog 142 #[.int .u64 a0,.int .u64 a1] w fun e w'=>e= .returned (.tuple #[.int .u64 r1,.int .u64 r2])∧Drawn0 w w':=by
 have H:((bits_Mul64.f a0 a1).bind fun bt338=>(some (bt338.1,bt338.2)))=some (r1,r2):=h;clear h;replace H:=Option.bind_eq_some_iff.mp H;obtain⟨⟨t338,t339⟩,A30,H⟩:=H;replace H:(some (t338,t339))=some (r1,r2):=H;have A3:=ak A30;clear A30;simp only[Option.some.injEq,Prod.mk.injEq]at H;obtain⟨rfl,rfl⟩:=H
 go_enter Tryz.func142,Tryz.ntmps142
 go_wp2_with (first|((with_reducible refine gate_callee (f:=156) rfl ?_);refine goesL_ (some 25) rfl rfl Tryz.func156 (by kernel_rfl) rfl #[.int .u64 a0,.int .u64 a1] rfl zm ?_;(with_reducible refine(bits_Mul64.calls a0 a1 t338 t339 _ A3.out).mono ?_);rintro e w' ⟨rfl,⟨nd,rfl⟩⟩;refine⟨_,rfl,?_⟩))
 go_ret2
 exact⟨zr,zd⟩
end Go.Proofs.YthlakefgobflnaaGreatDoor.S
namespace Go.Proofs.YthlakefgobflnaaGreatDoor.Lm
open Go.RowKit Go.Proofs.YthlakefgobflnaaGreatDoorW.PrintWords Go.Proofs.YthlakefgobflnaaGreatDoor.S
set_option linter.unusedVariables false
theorem wrap_nat{n:Nat}(h:n<18446744073709551616):IntKind.u64.wrap (n:Int)=(n:Int):=wu64 (Int.natCast_nonneg n) (by omega)
theorem wrap_mul(a b:Nat)(h:a*b<18446744073709551616):IntKind.u64.wrap ((a:Int)*(b:Int))=((a*b:Nat):Int):=by
 rw[←Int.natCast_mul];exact wrap_nat h
theorem wrap_add(a b:Nat)(h:a+b<18446744073709551616):IntKind.u64.wrap ((a:Int)+(b:Int))=((a+b:Nat):Int):=by
 rw[←Int.natCast_add];exact wrap_nat h
theorem div32(a:Nat):(a:Int)/4294967296=((a/4294967296:Nat):Int):=by omega
theorem mul64_core(x1 x0 y1 y0:Nat)(h0:x0*y0<18446744073709551616)(h1:x1*y0+x0*y0/4294967296<18446744073709551616)(h2:(x1*y0+x0*y0/4294967296)%4294967296+x0*y1<18446744073709551616)
 (h3:x1*y1+(x1*y0+x0*y0/4294967296)/4294967296+((x1*y0+x0*y0/4294967296)%4294967296+x0*y1)/4294967296<18446744073709551616):
 IntKind.u64.wrap ((IntKind.u64.wrap ((IntKind.u64.wrap ((x1:Int)*(y1:Int)))+((IntKind.u64.wrap ((IntKind.u64.wrap ((x1:Int)*(y0:Int)))+((IntKind.u64.wrap ((x0:Int)*(y0:Int)))/4294967296)))/4294967296)))+((IntKind.u64.wrap ((Go.bits .and .u64 (IntKind.u64.wrap ((IntKind.u64.wrap ((x1:Int)*(y0:Int)))+((IntKind.u64.wrap ((x0:Int)*(y0:Int)))/4294967296))) 4294967295)+(IntKind.u64.wrap ((x0:Int)*(y1:Int)))))/4294967296))=
 ((x1*y1+(x1*y0+x0*y0/4294967296)/4294967296+((x1*y0+x0*y0/4294967296)%4294967296+x0*y1)/4294967296:Nat):Int):=by
 have b1:x1*y1<18446744073709551616:=by generalize (x1*y0+x0*y0/4294967296)=a at*;omega
 have b2:x1*y0<18446744073709551616:=by omega
 have b3:x0*y1<18446744073709551616:=by omega
 rw[wrap_mul x1 y1 b1,wrap_mul x1 y0 b2,wrap_mul x0 y0 h0,wrap_mul x0 y1 b3,div32,wrap_add _ _ h1,div32,and32 _ h1];clear b1 b2 b3 h0;generalize x1*y0+x0*y0/4294967296=a at*;rw[wrap_add _ _ (by omega),wrap_add _ _ h2,div32,wrap_add _ _ h3]
theorem mul64_f(x y:Nat)(hx:x<18446744073709551616)(hy:y<18446744073709551616):bits_Mul.f (x:Int) (y:Int)=some (((x*y/18446744073709551616:Nat):Int),((x*y%18446744073709551616:Nat):Int)):=by
 obtain⟨h0,h1,h2,h3⟩:=Go.Lib.mul64_hi x y hx hy;have hxy:x*y≤18446744073709551615*18446744073709551615:=Nat.mul_le_mul (by omega) (by omega);have h4:x*y/18446744073709551616<18446744073709551616:=by generalize x*y=p at hxy;omega
 have hc:=mul64_core (x/4294967296) (x%4294967296) (y/4294967296) (y%4294967296) h0 h1 h2 (by rw[h3];exact h4);rw[h3]at hc;have hl:IntKind.u64.wrap ((x:Int)*(y:Int))=((x*y%18446744073709551616:Nat):Int):=by
  rw[←Int.natCast_mul,IntKind.wrap_u64];omega
 unfold bits_Mul.f bits_Mul64.f;rw[div32,div32,and32 x hx,and32 y hy,hc,hl];rfl
end Go.Proofs.YthlakefgobflnaaGreatDoor.Lm
namespace Go.Proofs.YthlakefgobflnaaGreatDoor.G
open Go.RowKit Go.Proofs.YthlakefgobflnaaGreatDoorW.PrintWords Go.Proofs.YthlakefgobflnaaGreatDoorW.PrintLast Go.Proofs.YthlakefgobflnaaGreatDoorW.PrintMore Go.Proofs.YthlakefgobflnaaGreatDoor.S
set_option linter.unusedVariables false
set_option linter.unusedSimpArgs false
theorem add64_at(x y:Int)(hx:0≤x)(hy:0≤y)(w:World):(callFunc 141 #[.int .u64 x,.int .u64 y,.int .u64 0]).run Tryz.prog w=
 .ok (.value (.tuple #[.int .u64 ((x+y)%18446744073709551616),.int .u64 ((x+y)/18446744073709551616)])) w:=by
 rw[run_callFunc_extern (P:=Tryz.prog) Tryz.func141 (by kernel_rfl) (by kernel_rfl) (by kernel_rfl) (e:=add64Entry) (by kernel_rfl) #[.int .u64 x,.int .u64 y,.int .u64 0] w,run_add64 x y 0 hx hy (by omega) (by omega),Int.add_zero];rfl
set_option maxRecDepth 100000 in
theorem add_is(x y:Int)(hx:0≤x)(hy:0≤y)(w:World):
 Calls Tryz.prog 119 #[.int .u64 x,.int .u64 y,.int .u64 0] w fun e w'=>e= .returned (.tuple #[.int .u64 ((x+y)%18446744073709551616),.int .u64 ((x+y)/18446744073709551616)])∧Below w.heap.size w w':=by
 have HB:=ak (Below.refl w.heap.size w);have HA:=fun w0=>add64_at x y hx hy w0
 go_enter Tryz.func119,Tryz.ntmps119
 go_wp2_with (simp only[HA])
 go_ret2
 exact⟨rfl,HB.out⟩
set_option maxRecDepth 100000 in
theorem mulAddWWW_is(X Y C:Nat)(hx:X<18446744073709551616)(hy:Y<18446744073709551616)(hc:C<18446744073709551616)(w:World):
 Calls Tryz.prog 161 #[.int .u64 (X:Int),.int .u64 (Y:Int),.int .u64 (C:Int)] w fun e w'=>e= .returned (.tuple #[.int .u64 (((X*Y+C)/18446744073709551616:Nat):Int),.int .u64 (((X*Y+C)%18446744073709551616:Nat):Int)])∧Below w.heap.size w w':=by
 have HB:=ak (Below.refl w.heap.size w);have HM:=ak (fun w0=>bits_Mul.calls (X:Int) (Y:Int) _ _ w0 (Lm.mul64_f X Y hx hy));have hp:X*Y≤18446744073709551615*18446744073709551615:=Nat.mul_le_mul (by omega) (by omega);have e1:IntKind.u64.wrap (((X*Y/18446744073709551616:Nat):Int)+(((X*Y%18446744073709551616:Nat):Int)+(C:Int))/18446744073709551616)=(((X*Y+C)/18446744073709551616:Nat):Int):=by
  clear HM;generalize X*Y=p at*;rw[IntKind.wrap_u64];omega
 have e2:(((X*Y%18446744073709551616:Nat):Int)+(C:Int))%18446744073709551616=(((X*Y+C)%18446744073709551616:Nat):Int):=by
  clear HM e1;generalize X*Y=p at*;omega
 clear hp;obtain⟨h,hh⟩: ∃h:Int,((X*Y/18446744073709551616:Nat):Int)=h:=⟨_,rfl⟩
 obtain⟨l,hl⟩: ∃l:Int,((X*Y%18446744073709551616:Nat):Int)=l:=⟨_,rfl⟩
 obtain⟨r1,hr1⟩: ∃r1:Int,(((X*Y+C)/18446744073709551616:Nat):Int)=r1:=⟨_,rfl⟩
 obtain⟨r2,hr2⟩: ∃r2:Int,(((X*Y+C)%18446744073709551616:Nat):Int)=r2:=⟨_,rfl⟩
 obtain⟨c,hcc⟩: ∃c:Int,(C:Int)=c:=⟨_,rfl⟩
 have HA:=ak (fun w0=>add_is l c (by omega) (by omega) w0);rw[hh,hl]at HM;rw[hh,hl,hr1,hcc]at e1;rw[hl,hr2,hcc]at e2;rw[hr1,hr2,hcc];have E1:=ak e1;have E2:=ak e2;clear hh hl hr1 hr2 hcc e1 e2
 go_enter Tryz.func161,Tryz.ntmps161
 go_wp2_with fail
 refine(HM.out _).mono ?_;rintro e w1 ⟨rfl,hd⟩;have HB1:=ak (below_step HB.out (Drawn0.below hd));clear hd HB
 go_wp2_with fail
 refine(HA.out _).mono ?_;rintro e w2 ⟨rfl,hb⟩;have HB2:=ak (below_step HB1.out hb);clear hb HB1
 go_wp2_with fail
 rw[E1.out,E2.out]
 go_ret2
 exact⟨rfl,HB2.out⟩
end Go.Proofs.YthlakefgobflnaaGreatDoor.G
