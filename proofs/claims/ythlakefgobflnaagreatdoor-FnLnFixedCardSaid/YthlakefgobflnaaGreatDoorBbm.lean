/- CONTRACTS: products, squares and quotients of numbers with sign, in place. CONTRACTS: numbers with sign made anew: Set, Neg, SetInt64, NewInt. -/
import Derived.Test.YthlakefgobflnaaGreatDoorBbl
namespace Go.Proofs.YthlakefgobflnaaGreatDoor.G
open Go.RowKit Go.Proofs.YthlakefgobflnaaGreatDoorW.PrintWords Go.Proofs.YthlakefgobflnaaGreatDoorW.PrintLast Go.Proofs.YthlakefgobflnaaGreatDoorW.PrintMore Go.Proofs.YthlakefgobflnaaGreatDoor.S
set_option linter.unusedVariables false
set_option linter.unusedSimpArgs false
theorem sgn_mul(a b:Int):(a*b).natAbs=a.natAbs*b.natAbs∧(a.natAbs*b.natAbs≠0→(decide (a<0) != decide (b<0))=decide (a*b<0)):=by
 refine⟨Int.natAbs_mul a b,fun h=>?_⟩;have ha:a≠0:=fun e=>h (by rw[e];exact Nat.zero_mul _)
 have hb:b≠0:=fun e=>h (by rw[e];exact Nat.mul_zero _)
 rcases Int.lt_or_gt_of_ne ha with h1|h1<;>rcases Int.lt_or_gt_of_ne hb with h2|h2
 ·have:=Int.mul_pos_of_neg_of_neg h1 h2;simp[h1,h2];omega
 ·have:=Int.mul_neg_of_neg_of_pos h1 h2;simp[h1,h2,this];omega
 ·have:=Int.mul_neg_of_pos_of_neg h1 h2;simp[h1,h2,this];omega
 ·have:=Int.mul_pos h1 h2;rw[decide_eq_false (by omega),decide_eq_false (by omega),decide_eq_false (by omega)];rfl
theorem sgn_quo(a:Int)(y:Nat)(hy:0<y):(a.tdiv (y:Int)).natAbs=a.natAbs/y∧(a.natAbs/y≠0→decide (a<0)=decide (a.tdiv (y:Int)<0)):=by
 rcases Int.lt_or_le a 0 with h|h
 ·obtain⟨m,rfl⟩: ∃m:Nat,a= -(m:Int):=⟨(-a).toNat,by omega⟩
  have e:(-(m:Int)).tdiv (y:Int)= -((m/y:Nat):Int):=by rw[Int.neg_tdiv,Int.tdiv_eq_ediv_of_nonneg (by omega),Int.natCast_ediv]
  rw[e,show(-(m:Int)).natAbs=m by omega];generalize m/y=q at*;refine⟨by omega,fun hq=>?_⟩;rw[decide_eq_true h,decide_eq_true (by omega)]
 ·obtain⟨m,rfl⟩:=Int.eq_ofNat_of_zero_le h;have e:(m:Int).tdiv (y:Int)=((m/y:Nat):Int):=by rw[Int.tdiv_eq_ediv_of_nonneg (by omega),Int.natCast_ediv]
  rw[e,show(m:Int).natAbs=m by omega];generalize m/y=q at*;refine⟨by omega,fun hq=>?_⟩;rw[decide_eq_false (by omega),decide_eq_false (by omega)]
theorem infoI: ∃j,Tryz.prog.info? 55=some j∧j.size≠0:=by
 have h1:(Tryz.prog.info? 55).map (·.size)=some 2:=by kernel_rfl
 obtain⟨j,hj,hj2⟩:=Option.map_eq_some_iff.1 h1;exact⟨j,hj,by omega⟩
set_option maxRecDepth 100000 in
set_option maxHeartbeats 1000000 in
theorem intmul_self(base z y:Nat)(a0:Int)(s:Nat→Option Int)(w:World)(hS:St base w s)(hz:s z=some a0)(b:Int)(hy:Arg base w s y b)(hne:y≠z)(ha:(L64.lim a0.natAbs).length<40)(hb8:(L64.lim b.natAbs).length<40)(ht:Thr w):
 Calls Tryz.prog 88 #[.pointer (some ⟨z,0,none⟩),.pointer none,.pointer (some ⟨z,0,none⟩),.pointer (some ⟨y,0,none⟩)] w fun e w'=>e= .returned (.tuple #[])∧St base w' (upd s z (a0*b))∧Below base w w':=by
 obtain⟨h0,own,hO⟩:=hS;obtain⟨hz1,hzb,vz,rz,hBz,hRz,hrz⟩:=hO z a0 hz;have BZ:=ak hBz;obtain⟨vy,ry,hBy,hRy,hHy⟩:=hO.arg hrz hy;have BY:=ak hBy;have HQ:=ak (natMul_in vz vz vy rz rz ry a0.natAbs b.natAbs w.drew (hRz.move (w':=w.drew) (fun _ _=>rfl)).dst (hRz.move (w':=w.drew) (fun _ _=>rfl)).opd (hRy.move (w':=w.drew) (fun _ _=>rfl)) (.inr (.inl rfl)) ha hb8 (ht.below (below_drew (Below.refl _ _))));have HZ1:=ak (fun w2 (hC:Chg rz w w2)=>Num.head hBz hz1 hrz hC);have HY1:=ak hHy;obtain⟨e,hsg⟩:=sgn_mul a0 b;obtain⟨hp1,hp2⟩:=sgn_fin (b:=decide (a0<0) != decide (b<0)) e hsg;have HF:=ak (fun w2 v' r' (hR:Row w2 v' r' (L64.lim (a0.natAbs*b.natAbs))) (hN:New w.drew rz r') (hC:Chg rz w.drew w2)=>And.intro (fun hl=>StO.put2 (n:=a0*b) h0 hO hz1 hzb hBz hrz hC.undrew (by rw[e];exact hR) hN (hp1 hl)) (fun hl=>StO.put2 (n:=a0*b) h0 hO hz1 hzb hBz hrz hC.undrew (by rw[e];exact hR) hN (hp2 hl)));have hq:(binOp .eql 48 (.pointer (some ⟨z,0,none⟩)) (.pointer (some ⟨y,0,none⟩))).run Tryz.prog w= .ok (.bool false) w:=by
  obtain⟨j,hj,hj2⟩:=infoI;exact run_eql_ptr_other w Tryz.underlying48 hj hj2 (fun h=>hne (congrArg Addr.block h).symm) BZ.out BY.out
 obtain⟨z0,zz0,z1,zz1⟩:=rf2 BZ.out;obtain⟨y0,zy0,y1,zy1⟩:=rf2 BY.out;have d1:w.drew.cell? ⟨z,1,none⟩=some vz:=z1;have d2:w.drew.cell? ⟨y,1,none⟩=some vy:=y1;clear hz hy ha hb8 ht hO hz1 hzb hBz hRz hrz h0 e hsg hp1 hp2 hBy hRy hHy z0 zz0 z1 zz1 y0 zy0 y1 zy1;generalize decide (a0<0)=ba at*;generalize decide (b<0)=bb at*
 go_enter Tryz.func88,Tryz.ntmps88
 go_wp2_with fail
 clear hq;refine sta (fun w'=>w'.cell? ⟨z,1,none⟩=some vz∧w'.cell? ⟨y,1,none⟩=some vy) [17] ⟨d1,d2⟩ (fun hHeld=>?_);repeat(first|refine pu 0 ?_|refine tk 0 hHeld ?_)
 refine cl Tryz.func109 #[vz,.pointer none,vz,vy] ?_
 refine HQ.out.mono ?_;rintro e w2 ⟨v',r',rfl,hR,hN,hC⟩;obtain⟨A',c',rfl⟩:=hR.slice;refine⟨_,rfl,?_⟩;have Z2:=ak (HZ1.out w2 hC.undrew);have Y2:=ak (HY1.out w2 hC.undrew);have H2:=ak (HF.out w2 _ r' hR hN hC);generalize (L64.lim (a0.natAbs*b.natAbs)).length=l at*;clear HF hR hN hC HQ HZ1 HY1 d1 d2;refine⟨⟨(blk_cell Z2.out 1).trans rfl,(blk_cell Y2.out 1).trans rfl⟩,fun hHeld=>?_⟩;repeat(first|refine pu 0 ?_|refine tk 0 hHeld ?_)
 obtain⟨f0,zf0,f1,zf1⟩:=rf2 Z2.out;refine la (fun K hK=>?_);go_simp;refine hK.out _ _ ?_;clear hK K hHeld;refine done_ (by decide+kernel) ?_;clear f0 f1 zf0 zf1;have Z3:=ak (blk_put (cs':=#[.bool ba,.slice A' l c']) Z2.out 1 (.slice A' l c') rfl);have Y3:=ak (blk_far (p:=⟨z,1,none⟩) Y2.out hne (.slice A' l c'));generalize w2.setCell ⟨z,1,none⟩ (.slice A' l c')=w3 at*;have Z4:=ak (blk_drew Z3.out);have d1:w3.drew.cell? ⟨z,1,none⟩=some (.slice A' l c'):=(blk_cell Z4.out 1).trans rfl;have d2:w3.drew.cell? ⟨z,0,none⟩=some (.bool ba):=(blk_cell Z4.out 0).trans rfl;have d3:w3.drew.cell? ⟨y,0,none⟩=some (.bool bb):=(blk_cell (blk_drew Y3.out) 0).trans rfl
 go_wp2_with fail
 rcases Nat.eq_zero_or_pos l with hl|hl
 ·obtain⟨hs1,hs2⟩:=H2.out.2 hl;have H3:=ak (And.intro hs1 hs2);have c1:decide ((l:Int)>0)=false:=decide_eq_false (by omega);have c2:decide (0<l)=false:=decide_eq_false (by omega);clear hs1 hs2 hl H2;refine sta (fun w'=>w'.cell? ⟨z,1,none⟩=some (.slice A' l c')∧w'.cell? ⟨z,0,none⟩=some (.bool ba)∧w'.cell? ⟨y,0,none⟩=some (.bool bb)) [20] ⟨d1,d2,d3⟩ (fun hHeld=>?_);repeat(first|refine pu 0 ?_|refine tk 0 hHeld ?_|refine un 0 ?_)
  obtain⟨f0,zf0,f1,zf1⟩:=rf2 Z4.out;refine la (fun K hK=>?_);go_simp;refine hK.out _ _ ?_;clear hK K hHeld;refine done_ (by decide+kernel) ?_;clear f0 f1 zf0 zf1;exact bodyPost_end (results_none rfl _ _ _) rfl ⟨rfl,H3.out.1.drew,below_drew H3.out.2⟩
 ·obtain⟨hs1,hs2⟩:=H2.out.1 hl;have H3:=ak (And.intro hs1 hs2);have c1:decide ((l:Int)>0)=true:=decide_eq_true (by omega);have c2:decide (0<l)=true:=decide_eq_true (by omega);clear hs1 hs2 hl H2;refine sta (fun w'=>w'.cell? ⟨z,1,none⟩=some (.slice A' l c')∧w'.cell? ⟨z,0,none⟩=some (.bool ba)∧w'.cell? ⟨y,0,none⟩=some (.bool bb)) [20] ⟨d1,d2,d3⟩ (fun hHeld=>?_);repeat(first|refine pu 0 ?_|refine tk 0 hHeld ?_)
  obtain⟨f0,zf0,f1,zf1⟩:=rf2 Z4.out;refine la (fun K hK=>?_);go_simp;refine hK.out _ _ ?_;clear hK K hHeld;refine done_ (by decide+kernel) ?_;clear f0 f1 zf0 zf1;exact bodyPost_end (results_none rfl _ _ _) rfl ⟨rfl,H3.out.1.drew,below_drew H3.out.2⟩
set_option maxRecDepth 100000 in
set_option maxHeartbeats 1000000 in
theorem intsqr_self(base z:Nat)(a0:Int)(s:Nat→Option Int)(w:World)(hS:St base w s)(hz:s z=some a0)(ha:(L64.lim a0.natAbs).length<12)(ht:Thr w):
 Calls Tryz.prog 88 #[.pointer (some ⟨z,0,none⟩),.pointer none,.pointer (some ⟨z,0,none⟩),.pointer (some ⟨z,0,none⟩)] w fun e w'=>e= .returned (.tuple #[])∧St base w' (upd s z (a0*a0))∧Below base w w':=by
 obtain⟨h0,own,hO⟩:=hS;obtain⟨hz1,hzb,vz,rz,hBz,hRz,hrz⟩:=hO z a0 hz;have BZ:=ak hBz;have HQ:=ak (natSqr_is vz rz a0.natAbs w.drew (hRz.move (w':=w.drew) (fun _ _=>rfl)) ha (ht.below (below_drew (Below.refl _ _))));have HZ1:=ak (fun w2 (hC:Chg rz w w2)=>Num.head hBz hz1 hrz hC);have e:(a0*a0).natAbs=a0.natAbs*a0.natAbs:=Int.natAbs_mul a0 a0;have hb:false=decide (a0*a0<0):=by
  rcases Int.lt_or_le a0 0 with h|h
  ·exact(decide_eq_false (by have:=Int.mul_pos_of_neg_of_neg h h;omega)).symm
  ·exact(decide_eq_false (by have:=Int.mul_nonneg h h;omega)).symm
 have HF:=ak (fun w2 v' r' (hR:Row w2 v' r' (L64.lim (a0.natAbs*a0.natAbs))) (hN:New w.drew rz r') (hC:Chg rz w.drew w2)=>StO.put2 (n:=a0*a0) h0 hO hz1 hzb hBz hrz hC.undrew (by rw[e];exact hR) hN hb);have hq:(binOp .eql 48 (.pointer (some ⟨z,0,none⟩)) (.pointer (some ⟨z,0,none⟩))).run Tryz.prog w= .ok (.bool true) w:=by
  obtain⟨j,hj,hj2⟩:=infoI;exact run_eql_ptr_same (w:=w) (⟨z,0,none⟩:Addr) Tryz.underlying48 hj
 obtain⟨z0,zz0,z1,zz1⟩:=rf2 BZ.out;have d1:w.drew.cell? ⟨z,1,none⟩=some vz:=z1;clear hz ha ht hO hz1 hzb hBz hRz hrz h0 e hb z0 zz0 z1 zz1;generalize decide (a0<0)=ba at*
 go_enter Tryz.func88,Tryz.ntmps88
 go_wp2_with fail
 clear hq;refine sta (fun w'=>w'.cell? ⟨z,1,none⟩=some vz) [13] d1 (fun hHeld=>?_);repeat(first|refine pu 0 ?_|refine tk 0 hHeld ?_)
 refine cl Tryz.func108 #[vz,.pointer none,vz] ?_
 refine HQ.out.mono ?_;rintro e w2 ⟨v',r',rfl,hR,hN,hC⟩;obtain⟨A',c',rfl⟩:=hR.slice;refine⟨_,rfl,?_⟩;have Z2:=ak (HZ1.out w2 hC.undrew);have H2:=ak (HF.out w2 _ r' hR hN hC);generalize (L64.lim (a0.natAbs*a0.natAbs)).length=l at*;clear HF hR hN hC HQ HZ1 d1;refine⟨(by exact(blk_cell Z2.out 1).trans rfl),fun hHeld=>?_⟩;repeat(first|refine pu 0 ?_|refine tk 0 hHeld ?_)
 obtain⟨f0,zf0,f1,zf1⟩:=rf2 Z2.out;refine la (fun K hK=>?_);go_simp;refine hK.out _ _ ?_;clear hK K hHeld;refine done_ (by decide+kernel) ?_;clear f0 f1 zf0 zf1;have Z3:=ak (blk_put (cs':=#[.bool ba,.slice A' l c']) Z2.out 1 (.slice A' l c') rfl);generalize w2.setCell ⟨z,1,none⟩ (.slice A' l c')=w3 at*;obtain⟨z0,zz0,z1,zz1⟩:=rf2 Z3.out
 go_wp2_with fail
 exact bodyPost_ret (v:=.tuple #[]) (by simp[results,Tryz.results88,go_sem]) rfl ⟨rfl,H2.out⟩
set_option maxRecDepth 100000 in
set_option maxHeartbeats 1000000 in
theorem intMul_self(base z y:Nat)(a0:Int)(s:Nat→Option Int)(w:World)(hS:St base w s)(hz:s z=some a0)(b:Int)(hy:Arg base w s y b)(hne:y≠z)(ha:(L64.lim a0.natAbs).length<40)(hb8:(L64.lim b.natAbs).length<40)(ht:Thr w):
 Calls Tryz.prog 64 #[.pointer (some ⟨z,0,none⟩),.pointer (some ⟨z,0,none⟩),.pointer (some ⟨y,0,none⟩)] w fun e w'=>e= .returned (.pointer (some ⟨z,0,none⟩))∧St base w' (upd s z (a0*b))∧Below base w w':=by
 have HQ:=ak (intmul_self base z y a0 s w hS hz b hy hne ha hb8 ht);clear hS hz ha ht hy hne hb8
 go_enter Tryz.func64,Tryz.ntmps64
 go_wp2_with fail
 refine HQ.out.mono ?_;rintro e w1 ⟨rfl,h1,h2⟩;have H:=ak (And.intro h1 h2);clear h1 h2
 go_wp2_with fail
 go_ret
 exact⟨rfl,H.out⟩
set_option maxRecDepth 100000 in
set_option maxHeartbeats 1000000 in
theorem intSqr_self(base z:Nat)(a0:Int)(s:Nat→Option Int)(w:World)(hS:St base w s)(hz:s z=some a0)(ha:(L64.lim a0.natAbs).length<12)(ht:Thr w):
 Calls Tryz.prog 64 #[.pointer (some ⟨z,0,none⟩),.pointer (some ⟨z,0,none⟩),.pointer (some ⟨z,0,none⟩)] w fun e w'=>e= .returned (.pointer (some ⟨z,0,none⟩))∧St base w' (upd s z (a0*a0))∧Below base w w':=by
 have HQ:=ak (intsqr_self base z a0 s w hS hz ha ht);clear hS hz ha ht
 go_enter Tryz.func64,Tryz.ntmps64
 go_wp2_with fail
 refine HQ.out.mono ?_;rintro e w1 ⟨rfl,h1,h2⟩;have H:=ak (And.intro h1 h2);clear h1 h2
 go_wp2_with fail
 go_ret
 exact⟨rfl,H.out⟩
set_option maxRecDepth 100000 in
set_option maxHeartbeats 1000000 in
theorem intQuo_new(base z x y n:Nat)(a0:Int)(s:Nat→Option Int)(w:World)(hS:St base w s)(hz:s z=some a0)(a:Int)(hx:Arg base w s x a)(hne:x≠z)(hy:s y=some ((n:Nat):Int))(hny:y≠z)(ha:(L64.lim a.natAbs).length≤800)(hn:0<n)(hn2:n<256):
 Calls Tryz.prog 67 #[.pointer (some ⟨z,0,none⟩),.pointer (some ⟨x,0,none⟩),.pointer (some ⟨y,0,none⟩)] w fun e w'=>e= .returned (.pointer (some ⟨z,0,none⟩))∧St base w' (upd s z (a.tdiv (n:Int)))∧Below base w w':=by
 obtain⟨h0,own,hO⟩:=hS;obtain⟨hz1,hzb,vz,rz,hBz,hRz,hrz⟩:=hO z a0 hz;have BZ:=ak hBz;obtain⟨vx,rx,hBx,hRx,hHx⟩:=hO.arg hrz hx;have BX:=ak hBx;have hy':Arg base w s y ((n:Nat):Int):=.inl hy;obtain⟨vy,ry,hBy,hRy,hHy⟩:=hO.arg hrz hy';have BY:=ak hBy;have hbn:decide (((n:Nat):Int)<0)=false:=decide_eq_false (by omega);rw[hbn]at BY hHy;have hnn:(((n:Nat):Int)).natAbs=n:=by omega
 rw[hnn]at hRy;have HQ:=ak (natDiv_is vz vx vy rz rx ry a.natAbs n w.drew (hRz.move (w':=w.drew) (fun _ _=>rfl)).dst (hRx.move (w':=w.drew) (fun _ _=>rfl)) (hRy.move (w':=w.drew) (fun _ _=>rfl)) ha hn hn2);have HZ1:=ak (fun w2 (hC:Chg rz w w2)=>Num.head hBz hz1 hrz hC);have HX1:=ak hHx;have HY1:=ak hHy;obtain⟨e,hsg⟩:=sgn_quo a n hn;obtain⟨hp1,hp2⟩:=sgn_fin (b:=decide (a<0)) e hsg;have HF:=ak (fun w2 v' r' (hR:Row w2 v' r' (L64.lim (a.natAbs/n))) (hN:New w.drew rz r') (hC:Chg rz w.drew w2)=>And.intro (fun hl=>StO.put2 (n:=a.tdiv (n:Int)) h0 hO hz1 hzb hBz hrz hC.undrew (by rw[e];exact hR) hN (hp1 hl)) (fun hl=>StO.put2 (n:=a.tdiv (n:Int)) h0 hO hz1 hzb hBz hrz hC.undrew (by rw[e];exact hR) hN (hp2 hl)));obtain⟨z0,zz0,z1,zz1⟩:=rf2 BZ.out;obtain⟨x0,zx0,x1,zx1⟩:=rf2 BX.out;obtain⟨y0,zy0,y1,zy1⟩:=rf2 BY.out;have d1:w.drew.cell? ⟨z,1,none⟩=some vz:=z1;have d2:w.drew.cell? ⟨x,1,none⟩=some vx:=x1;have d3:w.drew.cell? ⟨y,1,none⟩=some vy:=y1;clear hz hy hy' ha hn hn2 hbn hnn hO hz1 hzb hBz hRz hrz h0 e hsg hp1 hp2 hBy hRy hHy z0 zz0 z1 zz1 y0 zy0 y1 zy1 hx hBx hRx hHx x0 zx0 x1 zx1;generalize decide (a<0)=ba at*
 go_enter Tryz.func67,Tryz.ntmps67
 go_wp2_with fail
 refine sta (fun w'=>w'.cell? ⟨z,1,none⟩=some vz∧w'.cell? ⟨x,1,none⟩=some vx∧w'.cell? ⟨y,1,none⟩=some vy) [19] ⟨d1,d2,d3⟩ (fun hHeld=>?_);repeat(first|refine pu 0 ?_|refine tk 0 hHeld ?_)
 refine cl Tryz.func89 #[vz,.pointer none,.slice none 0 0,vx,vy] ?_
 refine HQ.out.mono ?_;rintro e w2 ⟨v',r',v2,rfl,hR,hN,hC⟩;obtain⟨A',c',rfl⟩:=hR.slice;refine⟨_,rfl,?_⟩;have Z2:=ak (HZ1.out w2 hC.undrew);have X2:=ak (HX1.out w2 hC.undrew);have Y2:=ak (HY1.out w2 hC.undrew);have H2:=ak (HF.out w2 _ r' hR hN hC);generalize (L64.lim (a.natAbs/n)).length=l at*;clear HF hR hN hC HQ HZ1 HX1 HY1 d1 d2 d3;refine⟨⟨(blk_cell Z2.out 1).trans rfl,(blk_cell X2.out 1).trans rfl,(blk_cell Y2.out 1).trans rfl⟩,fun hHeld=>?_⟩;repeat(first|refine pu 0 ?_|refine tk 0 hHeld ?_)
 obtain⟨f0,zf0,f1,zf1⟩:=rf2 Z2.out;refine la (fun K hK=>?_);go_simp;refine hK.out _ _ ?_;clear hK K hHeld;refine done_ (by decide+kernel) ?_;clear f0 f1 zf0 zf1;have Z3:=ak (blk_put (cs':=#[.bool (decide (a0<0)),.slice A' l c']) Z2.out 1 (.slice A' l c') rfl);have X3:=ak (blk_far (p:=⟨z,1,none⟩) X2.out hne (.slice A' l c'));have Y3:=ak (blk_far (p:=⟨z,1,none⟩) Y2.out hny (.slice A' l c'));generalize w2.setCell ⟨z,1,none⟩ (.slice A' l c')=w3 at*;have Z4:=ak (blk_drew Z3.out);have d1:w3.drew.cell? ⟨z,1,none⟩=some (.slice A' l c'):=(blk_cell Z4.out 1).trans rfl;have d2:w3.drew.cell? ⟨x,0,none⟩=some (.bool ba):=(blk_cell (blk_drew X3.out) 0).trans rfl;have d3:w3.drew.cell? ⟨y,0,none⟩=some (.bool false):=(blk_cell (blk_drew Y3.out) 0).trans rfl
 go_wp2_with fail
 rcases Nat.eq_zero_or_pos l with hl|hl
 ·obtain⟨hs1,hs2⟩:=H2.out.2 hl;have H3:=ak (And.intro hs1 hs2);have c1:decide ((l:Int)>0)=false:=decide_eq_false (by omega);have c2:decide (0<l)=false:=decide_eq_false (by omega);clear hs1 hs2 hl H2;refine sta (fun w'=>w'.cell? ⟨z,1,none⟩=some (.slice A' l c')∧w'.cell? ⟨x,0,none⟩=some (.bool ba)∧w'.cell? ⟨y,0,none⟩=some (.bool false)) [20] ⟨d1,d2,d3⟩ (fun hHeld=>?_);repeat(first|refine pu 0 ?_|refine tk 0 hHeld ?_|refine un 0 ?_)
  obtain⟨f0,zf0,f1,zf1⟩:=rf2 Z4.out;refine la (fun K hK=>?_);go_simp;refine hK.out _ _ ?_;clear hK K hHeld;refine done_ (by decide+kernel) ?_;clear f0 f1 zf0 zf1;clear hHeld
  go_wp2_with fail
  go_ret
  exact⟨rfl,H3.out.1.drew,below_drew H3.out.2⟩
 ·obtain⟨hs1,hs2⟩:=H2.out.1 hl;have H3:=ak (And.intro hs1 hs2);have c1:decide ((l:Int)>0)=true:=decide_eq_true (by omega);have c2:decide (0<l)=true:=decide_eq_true (by omega);clear hs1 hs2 hl H2;refine sta (fun w'=>w'.cell? ⟨z,1,none⟩=some (.slice A' l c')∧w'.cell? ⟨x,0,none⟩=some (.bool ba)∧w'.cell? ⟨y,0,none⟩=some (.bool false)) [20] ⟨d1,d2,d3⟩ (fun hHeld=>?_);repeat(first|refine pu 0 ?_|refine tk 0 hHeld ?_)
  obtain⟨f0,zf0,f1,zf1⟩:=rf2 Z4.out;refine la (fun K hK=>?_);go_simp;refine hK.out _ _ ?_;clear hK K hHeld;refine done_ (by decide+kernel) ?_;clear f0 f1 zf0 zf1;clear hHeld
  go_wp2_with fail
  go_ret
  exact⟨rfl,H3.out.1.drew,below_drew H3.out.2⟩
set_option maxRecDepth 100000 in
set_option maxHeartbeats 1000000 in
theorem intQuo_self(base z y n:Nat)(a0:Int)(s:Nat→Option Int)(w:World)(hS:St base w s)(hz:s z=some a0)(hy:s y=some ((n:Nat):Int))(hny:y≠z)(ha:(L64.lim a0.natAbs).length≤800)(hn:0<n)(hn2:n<256):
 Calls Tryz.prog 67 #[.pointer (some ⟨z,0,none⟩),.pointer (some ⟨z,0,none⟩),.pointer (some ⟨y,0,none⟩)] w fun e w'=>e= .returned (.pointer (some ⟨z,0,none⟩))∧St base w' (upd s z (a0.tdiv (n:Int)))∧Below base w w':=by
 obtain⟨h0,own,hO⟩:=hS;obtain⟨hz1,hzb,vz,rz,hBz,hRz,hrz⟩:=hO z a0 hz;have BZ:=ak hBz;have hy':Arg base w s y ((n:Nat):Int):=.inl hy;obtain⟨vy,ry,hBy,hRy,hHy⟩:=hO.arg hrz hy';have BY:=ak hBy;have hbn:decide (((n:Nat):Int)<0)=false:=decide_eq_false (by omega);rw[hbn]at BY hHy;have hnn:(((n:Nat):Int)).natAbs=n:=by omega
 rw[hnn]at hRy;have HQ:=ak (natDiv_is vz vz vy rz rz ry a0.natAbs n w.drew (hRz.move (w':=w.drew) (fun _ _=>rfl)).dst (hRz.opd.move (w':=w.drew) (fun _ _=>rfl)) (hRy.move (w':=w.drew) (fun _ _=>rfl)) ha hn hn2);have HZ1:=ak (fun w2 (hC:Chg rz w w2)=>Num.head hBz hz1 hrz hC);have HY1:=ak hHy;obtain⟨e,hsg⟩:=sgn_quo a0 n hn;obtain⟨hp1,hp2⟩:=sgn_fin (b:=decide (a0<0)) e hsg;have HF:=ak (fun w2 v' r' (hR:Row w2 v' r' (L64.lim (a0.natAbs/n))) (hN:New w.drew rz r') (hC:Chg rz w.drew w2)=>And.intro (fun hl=>StO.put2 (n:=a0.tdiv (n:Int)) h0 hO hz1 hzb hBz hrz hC.undrew (by rw[e];exact hR) hN (hp1 hl)) (fun hl=>StO.put2 (n:=a0.tdiv (n:Int)) h0 hO hz1 hzb hBz hrz hC.undrew (by rw[e];exact hR) hN (hp2 hl)));obtain⟨z0,zz0,z1,zz1⟩:=rf2 BZ.out;obtain⟨y0,zy0,y1,zy1⟩:=rf2 BY.out;have d1:w.drew.cell? ⟨z,1,none⟩=some vz:=z1;have d3:w.drew.cell? ⟨y,1,none⟩=some vy:=y1;clear hz hy hy' ha hn hn2 hbn hnn hO hz1 hzb hBz hRz hrz h0 e hsg hp1 hp2 hBy hRy hHy z0 zz0 z1 zz1 y0 zy0 y1 zy1;generalize decide (a0<0)=ba at*
 go_enter Tryz.func67,Tryz.ntmps67
 go_wp2_with fail
 refine sta (fun w'=>w'.cell? ⟨z,1,none⟩=some vz∧w'.cell? ⟨y,1,none⟩=some vy) [19] ⟨d1,d3⟩ (fun hHeld=>?_);repeat(first|refine pu 0 ?_|refine tk 0 hHeld ?_)
 refine cl Tryz.func89 #[vz,.pointer none,.slice none 0 0,vz,vy] ?_
 refine HQ.out.mono ?_;rintro e w2 ⟨v',r',v2,rfl,hR,hN,hC⟩;obtain⟨A',c',rfl⟩:=hR.slice;refine⟨_,rfl,?_⟩;have Z2:=ak (HZ1.out w2 hC.undrew);have Y2:=ak (HY1.out w2 hC.undrew);have H2:=ak (HF.out w2 _ r' hR hN hC);generalize (L64.lim (a0.natAbs/n)).length=l at*;clear HF hR hN hC HQ HZ1 HY1 d1 d3;refine⟨⟨(blk_cell Z2.out 1).trans rfl,(blk_cell Y2.out 1).trans rfl⟩,fun hHeld=>?_⟩;repeat(first|refine pu 0 ?_|refine tk 0 hHeld ?_)
 obtain⟨f0,zf0,f1,zf1⟩:=rf2 Z2.out;refine la (fun K hK=>?_);go_simp;refine hK.out _ _ ?_;clear hK K hHeld;refine done_ (by decide+kernel) ?_;clear f0 f1 zf0 zf1;have Z3:=ak (blk_put (cs':=#[.bool ba,.slice A' l c']) Z2.out 1 (.slice A' l c') rfl);have Y3:=ak (blk_far (p:=⟨z,1,none⟩) Y2.out hny (.slice A' l c'));generalize w2.setCell ⟨z,1,none⟩ (.slice A' l c')=w3 at*;have Z4:=ak (blk_drew Z3.out);have d1:w3.drew.cell? ⟨z,1,none⟩=some (.slice A' l c'):=(blk_cell Z4.out 1).trans rfl;have d2:w3.drew.cell? ⟨z,0,none⟩=some (.bool ba):=(blk_cell Z4.out 0).trans rfl;have d3:w3.drew.cell? ⟨y,0,none⟩=some (.bool false):=(blk_cell (blk_drew Y3.out) 0).trans rfl
 go_wp2_with fail
 rcases Nat.eq_zero_or_pos l with hl|hl
 ·obtain⟨hs1,hs2⟩:=H2.out.2 hl;have H3:=ak (And.intro hs1 hs2);have c1:decide ((l:Int)>0)=false:=decide_eq_false (by omega);have c2:decide (0<l)=false:=decide_eq_false (by omega);clear hs1 hs2 hl H2;refine sta (fun w'=>w'.cell? ⟨z,1,none⟩=some (.slice A' l c')∧w'.cell? ⟨z,0,none⟩=some (.bool ba)∧w'.cell? ⟨y,0,none⟩=some (.bool false)) [20] ⟨d1,d2,d3⟩ (fun hHeld=>?_);repeat(first|refine pu 0 ?_|refine tk 0 hHeld ?_|refine un 0 ?_)
  obtain⟨f0,zf0,f1,zf1⟩:=rf2 Z4.out;refine la (fun K hK=>?_);go_simp;refine hK.out _ _ ?_;clear hK K hHeld;refine done_ (by decide+kernel) ?_;clear f0 f1 zf0 zf1;clear hHeld
  go_wp2_with fail
  go_ret
  exact⟨rfl,H3.out.1.drew,below_drew H3.out.2⟩
 ·obtain⟨hs1,hs2⟩:=H2.out.1 hl;have H3:=ak (And.intro hs1 hs2);have c1:decide ((l:Int)>0)=true:=decide_eq_true (by omega);have c2:decide (0<l)=true:=decide_eq_true (by omega);clear hs1 hs2 hl H2;refine sta (fun w'=>w'.cell? ⟨z,1,none⟩=some (.slice A' l c')∧w'.cell? ⟨z,0,none⟩=some (.bool ba)∧w'.cell? ⟨y,0,none⟩=some (.bool false)) [20] ⟨d1,d2,d3⟩ (fun hHeld=>?_);repeat(first|refine pu 0 ?_|refine tk 0 hHeld ?_)
  obtain⟨f0,zf0,f1,zf1⟩:=rf2 Z4.out;refine la (fun K hK=>?_);go_simp;refine hK.out _ _ ?_;clear hK K hHeld;refine done_ (by decide+kernel) ?_;clear f0 f1 zf0 zf1;clear hHeld
  go_wp2_with fail
  go_ret
  exact⟨rfl,H3.out.1.drew,below_drew H3.out.2⟩
end Go.Proofs.YthlakefgobflnaaGreatDoor.G
namespace Go.Proofs.YthlakefgobflnaaGreatDoor.G
open Go.RowKit Go.Proofs.YthlakefgobflnaaGreatDoorW.PrintWords Go.Proofs.YthlakefgobflnaaGreatDoorW.PrintLast Go.Proofs.YthlakefgobflnaaGreatDoorW.PrintMore Go.Proofs.YthlakefgobflnaaGreatDoor.S
set_option linter.unusedVariables false
set_option linter.unusedSimpArgs false
set_option maxRecDepth 100000 in
set_option maxHeartbeats 1000000 in
theorem intSet_new(base z x:Nat)(a0:Int)(s:Nat→Option Int)(w:World)(hS:St base w s)(hz:s z=some a0)(a:Int)(hx:Arg base w s x a)(hne:x≠z)(ha:(L64.lim a.natAbs).length≤800):
 Calls Tryz.prog 52 #[.pointer (some ⟨z,0,none⟩),.pointer (some ⟨x,0,none⟩)] w fun e w'=>e= .returned (.pointer (some ⟨z,0,none⟩))∧St base w' (upd s z (a))∧Below base w w':=by
 obtain⟨h0,own,hO⟩:=hS;obtain⟨hz1,hzb,vz,rz,hBz,hRz,hrz⟩:=hO z a0 hz;have BZ:=ak hBz;obtain⟨vx,rx,hBx,hRx,hHx⟩:=hO.arg hrz hx;have BX:=ak hBx;have HQ:=ak (set_is vz vx rz rx (L64.lim a.natAbs) w.drew (hRz.move (w':=w.drew) (fun _ _=>rfl)).dst (hRx.move (w':=w.drew) (fun _ _=>rfl)) (by omega) (L64.ok_lim _));have HZ1:=ak (fun w2 (hC:Chg rz w w2)=>Num.head hBz hz1 hrz hC);have HX1:=ak hHx;have HF:=ak (fun w2 v' r' (hR:Row w2 v' r' (L64.lim a.natAbs)) (hN:New w.drew rz r') (hC:Chg rz w.drew w2)=>StO.put2 (n:=a) h0 hO hz1 hzb hBz hrz hC.undrew hR hN rfl);have hq:(binOp .neq 48 (.pointer (some ⟨z,0,none⟩)) (.pointer (some ⟨x,0,none⟩))).run Tryz.prog w= .ok (.bool true) w:=by
  obtain⟨j,hj,hj2⟩:=infoI;exact run_neq_ptr_other Tryz.underlying48 hj hj2 (fun h=>hne (congrArg Addr.block h).symm) BZ.out BX.out
 obtain⟨z0,zz0,z1,zz1⟩:=rf2 BZ.out;obtain⟨x0,zx0,x1,zx1⟩:=rf2 BX.out;have d1:w.drew.cell? ⟨z,1,none⟩=some vz:=z1;have d2:w.drew.cell? ⟨x,1,none⟩=some vx:=x1;clear hz hx ha hO hz1 hzb hBz hRz hrz h0 hBx hRx hHx z0 zz0 z1 zz1 x0 zx0 x1 zx1;generalize decide (a<0)=ba at*
 go_enter Tryz.func52,Tryz.ntmps52
 go_wp2_with fail
 clear hq;refine sta (fun w'=>w'.cell? ⟨z,1,none⟩=some vz∧w'.cell? ⟨x,1,none⟩=some vx) [12] ⟨d1,d2⟩ (fun hHeld=>?_);repeat(first|refine pu 0 ?_|refine tk 0 hHeld ?_)
 refine cl Tryz.func55 #[vz,vx] ?_
 refine HQ.out.mono ?_;rintro e w2 ⟨v',r',rfl,hR,hN,hC⟩;obtain⟨A',c',rfl⟩:=hR.slice;refine⟨_,rfl,?_⟩;have Z2:=ak (HZ1.out w2 hC.undrew);have X2:=ak (HX1.out w2 hC.undrew);have H2:=ak (HF.out w2 _ r' hR hN hC);generalize (L64.lim (a.natAbs)).length=l at*;clear HF hR hN hC HQ HZ1 HX1 d1 d2;refine⟨⟨(blk_cell Z2.out 1).trans rfl,(blk_cell X2.out 1).trans rfl⟩,fun hHeld=>?_⟩;repeat(first|refine pu 0 ?_|refine tk 0 hHeld ?_)
 obtain⟨f0,zf0,f1,zf1⟩:=rf2 Z2.out;refine la (fun K hK=>?_);go_simp;refine hK.out _ _ ?_;clear hK K hHeld;refine done_ (by decide+kernel) ?_;clear f0 f1 zf0 zf1;have Z3:=ak (blk_put (cs':=#[.bool (decide (a0<0)),.slice A' l c']) Z2.out 1 (.slice A' l c') rfl);have X3:=ak (blk_far (p:=⟨z,1,none⟩) X2.out hne (.slice A' l c'));generalize w2.setCell ⟨z,1,none⟩ (.slice A' l c')=w3 at*;obtain⟨z0,zz0,z1,zz1⟩:=rf2 Z3.out;obtain⟨x0,zx0,x1,zx1⟩:=rf2 X3.out
 go_wp2_with fail
 go_ret
 exact⟨rfl,H2.out⟩
theorem St.sign{base:Nat}{w:World}{s:Nat→Option Int}{z:Nat}{a n:Int}(hS:St base w s)(hz:s z=some a)(hn:n.natAbs=a.natAbs){b:Bool}(hb:b=decide (n<0)):St base (w.setCell ⟨z,0,none⟩ (.bool b)) (upd s z n)∧Below base w (w.setCell ⟨z,0,none⟩ (.bool b)):=by
 obtain⟨h0,own,hO⟩:=hS;obtain⟨hz1,hzb,v,r,hB,hR,hr⟩:=hO z a hz;have hB3:=blk_put (cs':=#[.bool b,v]) hB 0 (.bool b) rfl;rw[hb]at hB3⊢;exact StO.put h0 hO hz1 hzb hB hr (Chg.refl r w) (by rw[hn];exact hR) (.inl rfl) (fun k hk=>Below.heap_setCell w ⟨z,0,none⟩ _ k hk) hB3 rfl rfl rfl (by simp[World.setCell])
set_option maxRecDepth 100000 in
set_option maxHeartbeats 1000000 in
theorem intNeg_new(base z x:Nat)(a0:Int)(s:Nat→Option Int)(w:World)(hS:St base w s)(hz:s z=some a0)(a:Int)(hx:Arg base w s x a)(hne:x≠z)(ha:(L64.lim a.natAbs).length≤800):
 Calls Tryz.prog 37 #[.pointer (some ⟨z,0,none⟩),.pointer (some ⟨x,0,none⟩)] w fun e w'=>e= .returned (.pointer (some ⟨z,0,none⟩))∧St base w' (upd s z (-a))∧Below base w w':=by
 have HQ:=ak (intSet_new base z x a0 s w hS hz a hx hne ha);clear hS hz hx hne ha
 go_enter Tryz.func37,Tryz.ntmps37
 go_wp2_with fail
 refine HQ.out.mono ?_;rintro e w1 ⟨rfl,hS,hb1⟩;have hS':=hS;obtain⟨h0,own,hO⟩:=hS;obtain⟨hz1,hzb,v,r,hB,hR,hr⟩:=hO z a (upd_self s z a);obtain⟨A',c',rfl⟩:=hR.slice;have hbl:(L64.lim a.natAbs).length=0↔a=0:=by
  constructor
  ·intro h;have:=L64.lim_eq_nil.1 (List.length_eq_zero_iff.1 h);omega
  ·rintro rfl;show(L64.lim 0).length=0;rw[L64.lim_zero];rfl
 have HF:=ak (fun b (hb:b=decide (-a<0))=>(show St base (w1.setCell ⟨z,0,none⟩ (.bool b)) (upd s z (-a))∧Below base w (w1.setCell ⟨z,0,none⟩ (.bool b)) by
  obtain⟨q1,q2⟩:=hS'.sign (upd_self s z a) (n:= -a) (by omega) hb;rw[upd_upd]at q1;exact⟨q1,⟨q2.os.trans hb1.os,q2.tape.trans hb1.tape,q2.output.trans hb1.output,Nat.le_trans hb1.size q2.size,fun k hk=>(q2.block k hk).trans (hb1.block k hk)⟩⟩))
 have Z1:=ak hB;have HA:=ak hbl;obtain⟨l,hl⟩: ∃l,(L64.lim a.natAbs).length=l:=⟨_,rfl⟩
 rw[hl]at Z1 HA;obtain⟨ba,hba⟩: ∃ba,decide (a<0)=ba:=⟨_,rfl⟩
 rw[hba]at Z1;have HBa:=ak hba;clear hS' h0 hO hz1 hzb hB hR hr hbl hb1 HQ hl hba;obtain⟨z0,zz0,z1,zz1⟩:=rf2 Z1.out;rcases Nat.eq_zero_or_pos l with hl|hl
 ·have H3:=ak (HF.out false (by rw[HA.out.1 hl];rfl));have c1:decide ((l:Int)>0)=false:=decide_eq_false (by omega);have c2:decide (0<l)=false:=decide_eq_false (by omega);clear hl HF HA
  go_wp2_with fail
  go_ret
  exact⟨rfl,H3.out⟩
 ·have H3:=ak (HF.out (!ba) (by
   have ha:a≠0:=fun e=>by have:=HA.out.2 e;omega
   rw[←HBa.out];by_cases h:a<0
   ·rw[decide_eq_true h,decide_eq_false (by omega)];rfl
   ·rw[decide_eq_false h,decide_eq_true (by omega)];rfl))
  have c1:decide ((l:Int)>0)=true:=decide_eq_true (by omega);have c2:decide (0<l)=true:=decide_eq_true (by omega);clear hl HF HA
  go_wp2_with fail
  go_ret
  exact⟨rfl,H3.out⟩
set_option maxRecDepth 100000 in
set_option maxHeartbeats 1000000 in
theorem intSetInt64_is(base z n:Nat)(a0:Int)(s:Nat→Option Int)(w:World)(hS:St base w s)(hz:s z=some a0)(hn:n<9223372036854775808):
 Calls Tryz.prog 68 #[.pointer (some ⟨z,0,none⟩),.int .i64 (n:Int)] w fun e w'=>e= .returned (.pointer (some ⟨z,0,none⟩))∧St base w' (upd s z (((n:Nat):Int)))∧Below base w w':=by
 obtain⟨h0,own,hO⟩:=hS;obtain⟨hz1,hzb,vz,rz,hBz,hRz,hrz⟩:=hO z a0 hz;have BZ:=ak hBz;have HQ:=ak (setUint64_is vz rz n w hRz.dst (by omega));have hw:IntKind.u64.wrap (n:Int)=(n:Int):=Lm.wrap_nat (by omega);have c0:decide ((n:Int)<0)=false:=decide_eq_false (by omega);have HZ1:=ak (fun w2 (hC:Chg rz w w2)=>Num.head hBz hz1 hrz hC);have HF:=ak (fun w2 v' r' (hR:Row w2 v' r' (L64.lim n)) (hN:New w rz r') (hC:Chg rz w w2)=>StO.put2 (n:=((n:Nat):Int)) h0 hO hz1 hzb hBz hrz hC (by rw[show(((n:Nat):Int)).natAbs=n by omega];exact hR) hN c0.symm);obtain⟨z0,zz0,z1,zz1⟩:=rf2 BZ.out;clear hz hn hO hz1 hzb hBz hRz hrz h0
 go_enter Tryz.func68,Tryz.ntmps68
 go_wp2_with fail
 refine HQ.out.mono ?_;rintro e w2 ⟨v',r',rfl,hR,hN,hC⟩;obtain⟨A',c',rfl⟩:=hR.slice;have Z2:=ak (HZ1.out w2 hC);have H2:=ak (HF.out w2 _ r' hR hN hC);generalize (L64.lim n).length=l at*;clear HF hR hN hC HQ HZ1 z0 z1 zz0 zz1;obtain⟨f0,zf0,f1,zf1⟩:=rf2 Z2.out;have Z3:=ak (blk_put (cs':=#[.bool (decide (a0<0)),.slice A' l c']) Z2.out 1 (.slice A' l c') rfl);obtain⟨y0,zy0,y1,zy1⟩:=rf2 Z3.out
 go_wp2_with fail
 go_ret
 exact⟨rfl,H2.out⟩
end Go.Proofs.YthlakefgobflnaaGreatDoor.G
