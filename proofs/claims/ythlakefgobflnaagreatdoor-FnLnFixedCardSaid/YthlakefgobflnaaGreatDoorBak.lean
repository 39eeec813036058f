/- THE REFERENCE's SCALED NUMBERS BY WORTH. LOGARITHMS WITHOUT REALS: 'UB r a' says that the natural logarithm of a is at most r, by lists of rationals; that no two such say things that do not fit is the inequality of the means. SUMS OF POWERS: what they grow by along a small step; certificates out of such steps. CERTIFICATES: the exponential's series, the logarithm's, the inverse hyperbolic tangent's. -/
import Derived.Test.YthlakefgobflnaaGreatDoorBaj
import Init.Data.Rat
namespace Go.Proofs.YthlakefgobflnaaGreatDoor.R
open Go.Proofs.YthlakefgobflnaaGreatDoor.G Go.RowKit Go.Proofs.YthlakefgobflnaaGreatDoorW.PrintWords Go.Proofs.YthlakefgobflnaaGreatDoorW.PrintLast Go.Proofs.YthlakefgobflnaaGreatDoorW.PrintMore Go.Proofs.YthlakefgobflnaaGreatDoor.S
set_option linter.unusedVariables false
set_option linter.unusedSimpArgs false
theorem floor_is(a b c:Int)(hb:0<b)(h1:b*c≤a)(h2:a<b*c+b):a/b=c:=by
 refine Int.le_antisymm ?_ ?_
 ·refine Int.lt_add_one_iff.1 ((Int.ediv_lt_iff_lt_mul hb).2 ?_);rw[Int.add_mul,Int.one_mul,Int.mul_comm c b];exact h2
 ·refine(Int.le_ediv_iff_mul_le hb).2 ?_;rw[Int.mul_comm];exact h1
theorem neg_floor(N D:Nat)(hD:0<D):(-(N:Int))/(D:Int)= -((rndM N D true:Nat):Int):=by
 have h1:=Nat.div_add_mod N D;have h2:=Nat.mod_lt N hD;unfold rndM;have e:(D:Int)*((N/D:Nat):Int)=((D*(N/D):Nat):Int):=rfl;by_cases h:N%D=0
 ·rw[if_neg (fun c=>c.1 h)];refine floor_is _ _ _ (by omega) ?_ ?_
  all_goals
   rw[Int.mul_neg,e];generalize D*(N/D)=m at*;omega
 ·rw[if_pos ⟨h,rfl⟩];refine floor_is _ _ _ (by omega) ?_ ?_
  all_goals
   rw[Int.mul_neg,Int.natCast_add,Int.mul_add,e];generalize D*(N/D)=m at*;omega
def floZ(z:Int)(P D:Nat):Int:=z*(P:Int)/(D:Int)
def ceiZ(z:Int)(P D:Nat):Int:= -(-(z*(P:Int))/(D:Int))
theorem flo_is(z:Int)(P D:Nat)(hD:0<D):(floZ z P D).natAbs=rndM (z.natAbs*P) D (decide (z<0))∧decide (floZ z P D<0)=Lm.sg (decide (z<0)) (rndM (z.natAbs*P) D (decide (z<0))):=by
 unfold floZ Lm.sg;by_cases h:z<0
 ·rw[decide_eq_true h,show z*(P:Int)= -((z.natAbs*P:Nat):Int) by rw[Int.natCast_mul,←Int.neg_mul];congr 1;omega,neg_floor _ _ hD,Bool.true_and];refine⟨by omega,?_⟩;rw[decide_eq_decide];omega
 ·rw[decide_eq_false h,show z*(P:Int)=((z.natAbs*P:Nat):Int) by rw[Int.natCast_mul];congr 1;omega,rndM_no,←Int.natCast_ediv];generalize z.natAbs*P/D=q;refine⟨by omega,?_⟩;rw[Bool.false_and,decide_eq_false_iff_not];omega
theorem cei_is(z:Int)(P D:Nat)(hD:0<D):(ceiZ z P D).natAbs=rndM (z.natAbs*P) D (!decide (z<0))∧decide (ceiZ z P D<0)=Lm.sg (decide (z<0)) (rndM (z.natAbs*P) D (!decide (z<0))):=by
 unfold ceiZ Lm.sg;by_cases h:z<0
 ·rw[decide_eq_true h,show-(z*(P:Int))=((z.natAbs*P:Nat):Int) by rw[Int.natCast_mul,←Int.neg_mul];congr 1;omega,Bool.not_true,rndM_no,←Int.natCast_ediv,Bool.true_and];generalize z.natAbs*P/D=q;refine⟨by omega,?_⟩;rw[decide_eq_decide];omega
 ·rw[decide_eq_false h,show-(z*(P:Int))= -((z.natAbs*P:Nat):Int) by congr 1;rw[Int.natCast_mul];congr 1;omega,neg_floor _ _ hD];refine⟨by simp,?_⟩;rw[Bool.false_and,decide_eq_false_iff_not];omega
theorem fld_dec(b:Bool)(v x:Value)(w:World):(Instr.field 43 (.agg #[.bool b,v,x]) 0).run Tryz.prog w= .ok (.agg #[.bool b,v]) w:=by kernel_rfl
set_option maxRecDepth 100000 in
set_option maxHeartbeats 1000000 in
theorem scaled_is(z:Int)(D p:Nat)(u v:Value)(w:World)(hu:Nv w u z.natAbs)(hv:Nv w v D)(hD:0<D)(hp:p≤1000)(hl:len z.natAbs≤1000)(hm:len D≤1000):
 Calls Tryz.prog 27 #[.agg #[.bool (decide (z<0)),u,v],.int .i64 (p:Int)] w fun e w'=>∃r s,e= .returned (.agg #[.bool (decide (floZ z (10^p) D<0)),r,.bool (decide (ceiZ z (10^p) D<0)),s])∧Nv w' r (floZ z (10^p) D).natAbs∧Nv w' s (ceiZ z (10^p) D).natAbs∧Below w.heap.size w w':=by
 have HF:=ak (flo_is z (10^p) D hD);have HC:=ak (cei_is z (10^p) D hD);rw[HF.out.1,HF.out.2,HC.out.1,HC.out.2];have HQ1:=ak (fun u v w0 h k=>round_is (decide (z<0)) (decide (z<0)) z.natAbs D p 2 u v w0 h k hD hp hl hm (fun a b=>by cases decide (z<0)<;>rfl));have HQ2:=ak (fun u v w0 h k=>round_is (decide (z<0)) (!decide (z<0)) z.natAbs D p 3 u v w0 h k hD hp hl hm (fun a b=>by cases decide (z<0)<;>rfl));clear HF HC hD hp hl hm;generalize decide (z<0)=neg at*;generalize z.natAbs=n at*;generalize rndM (n*10^p) D neg=m1 at*;generalize rndM (n*10^p) D (!neg)=m2 at*;obtain⟨A1,c1,rfl,-⟩:=id hu;obtain⟨A2,c2,rfl,-⟩:=id hv;have N1:=ak hu;have N2:=ak hv;clear hu hv;have hfld:=fld_dec
 go_enter Tryz.func27,Tryz.ntmps27
 go_wp2_with fail
 generalize hW:(w.alloc _).alloc _=W;obtain⟨k0,k1,k2,-⟩:=alloc2 hW;have B0:=ak k0;have B1:=ak k1;have HB:=ak k2;have q:=N1.out.below HB.out;clear N1;have N1:=ak q;clear q;have q:=N2.out.below HB.out;clear N2;have N2:=ak q;clear q;clear hW k0 k1 k2;refine sta (fun w'=>C3 w' (w.heap.size) (.bool neg) (.slice A1 (len n) c1) (.slice A2 (len D) c2)) [9] (by exact C3.of B0.out) (fun hHeld=>?_);repeat(first|refine pu 0 ?_|refine tk 0 hHeld ?_|refine pu 1 ?_|refine tk 1 hHeld ?_|refine pu 2 ?_|refine tk 2 hHeld ?_|refine pu 3 ?_|refine tk 3 hHeld ?_)
 refine cl Tryz.func50 #[.agg #[.bool neg,.slice A1 (len n) c1,.slice A2 (len D) c2],.int .i64 (p:Int),.int .i64 2] ?_
 refine(HQ1.out _ _ _ (N1.out.below (below_drew (Below.refl _ _))) (N2.out.below (below_drew (Below.refl _ _)))).mono ?_;rintro e w9 ⟨r,rfl,hr,hb⟩;have hb:=below_then (below_drew (Below.refl _ _)) (Nat.le_refl _) hb;clear hHeld;have k0:=blk_below B0.out hb;have k1:=blk_below B1.out hb;have k2:=below_step HB.out hb;have k3:=N1.out.below hb;have k4:=N2.out.below hb;clear B0 B1 HB N1 N2;have B0:=ak k0;have B1:=ak k1;have HB:=ak k2;have N1:=ak k3;have N2:=ak k4;clear k0 k1 k2 k3 k4;have N5:=ak hr;obtain⟨A5,c5,rfl,-⟩:=id hr;clear hb hr;refine⟨_,rfl,C3.of B0.out,fun hHeld=>?_⟩;repeat(first|refine pu 0 ?_|refine tk 0 hHeld ?_|refine pu 1 ?_|refine tk 1 hHeld ?_|refine pu 2 ?_|refine tk 2 hHeld ?_|refine pu 3 ?_|refine tk 3 hHeld ?_)
 refine cl Tryz.func50 #[.agg #[.bool neg,.slice A1 (len n) c1,.slice A2 (len D) c2],.int .i64 (p:Int),.int .i64 3] ?_
 refine(HQ2.out _ _ _ N1.out N2.out).mono ?_;rintro e w9 ⟨s,rfl,hs,hb⟩;clear hHeld;have k0:=blk_below B0.out hb;have k1:=blk_below B1.out hb;have k2:=below_step HB.out hb;have k3:=N1.out.below hb;have k4:=N2.out.below hb;have k5:=N5.out.below hb;clear B0 B1 HB N1 N2 N5;have B0:=ak k0;have B1:=ak k1;have HB:=ak k2;have N1:=ak k3;have N2:=ak k4;have N5:=ak k5;clear k0 k1 k2 k3 k4 k5;have N6:=ak hs;obtain⟨A6,c6,rfl,-⟩:=id hs;clear hb hs;refine⟨_,rfl,C3.of B0.out,fun hHeld=>?_⟩;repeat(first|refine pu 0 ?_|refine tk 0 hHeld ?_|refine pu 1 ?_|refine tk 1 hHeld ?_|refine pu 2 ?_|refine tk 2 hHeld ?_|refine pu 3 ?_|refine tk 3 hHeld ?_)
 obtain⟨f0,zf0,f1,zf1,f2,zf2,f3,zf3⟩:=rf4 B1.out;refine la (fun K hK=>?_);go_simp;refine hK.out _ _ ?_;clear hK K hHeld;refine done_ (by kernel_rfl) ?_;obtain⟨q1,q2,q3⟩:=put4 B1.out HB.out (by omega) (Eq.refl _)
 go_wp2_with fail
 refine bodyPost_ret (results_cell_row rfl _ _ _ 69 _ (0,0) _ rfl q1 Tryz.underlying69 rfl (by kernel_rfl)) rfl ?_;exact⟨_,_,rfl,q3 _ _ N5.out,q3 _ _ N6.out,q2⟩
end Go.Proofs.YthlakefgobflnaaGreatDoor.R
namespace Go.Proofs.YthlakefgobflnaaGreatDoor.An
set_option linter.unusedVariables false
theorem rlt(a b:Rat):a<b∨b≤a:=by grind
theorem div_pos{a b:Rat}(ha:0<a)(hb:0<b):0<a/b:=by
 rw[Rat.div_def];exact Rat.mul_pos ha (Rat.inv_pos.2 hb)
def prod:List Rat→Rat
 | []=>1
 |q::l=>q*prod l
def sm:List Rat→Rat
 | []=>0
 |q::l=>(q-1)+sm l
def Pos(l:List Rat):Prop:=∀q,q∈l→0<q
theorem Pos.head{q:Rat}{l:List Rat}(h:Pos (q::l)):0<q:=h q List.mem_cons_self
theorem Pos.tail{q:Rat}{l:List Rat}(h:Pos (q::l)):Pos l:=fun x hx=>h x (List.mem_cons_of_mem _ hx)
theorem Pos.cons{q:Rat}{l:List Rat}(h:0<q)(h':Pos l):Pos (q::l):=fun x hx=>by
 rcases List.mem_cons.1 hx with rfl|hx
 ·exact h
 ·exact h' x hx
theorem Pos.app{l l':List Rat}(h:Pos l)(h':Pos l'):Pos (l++l'):=fun x hx=>by
 rcases List.mem_append.1 hx with hx|hx
 ·exact h x hx
 ·exact h' x hx
theorem prod_app(l l':List Rat):prod (l++l')=prod l*prod l':=by
 induction l with
 |nil=>simp only[List.nil_append,prod];grind
 |cons q l ih=>simp only[List.cons_append,prod];rw[ih];grind
theorem sm_app(l l':List Rat):sm (l++l')=sm l+sm l':=by
 induction l with
 |nil=>simp only[List.nil_append,sm];grind
 |cons q l ih=>simp only[List.cons_append,sm];rw[ih];grind
theorem prod_perm{l l':List Rat}(h:l.Perm l'):prod l=prod l':=by
 induction h with
 |nil=>rfl
 |cons x _ ih=>simp only[prod];rw[ih]
 |swap x y l=>simp only[prod];grind
 |trans _ _ ih1 ih2=>exact ih1.trans ih2
theorem sm_perm{l l':List Rat}(h:l.Perm l'):sm l=sm l':=by
 induction h with
 |nil=>rfl
 |cons x _ ih=>simp only[sm];rw[ih]
 |swap x y l=>simp only[sm];grind
 |trans _ _ ih1 ih2=>exact ih1.trans ih2
theorem mul_mono{a b c d:Rat}(ha:0≤a)(hc:0≤c)(h1:a≤b)(h2:c≤d):a*c≤b*d:=by
 have e1:a*c≤b*c:=Rat.mul_le_mul_of_nonneg_right h1 hc;have e2:b*c≤b*d:=Rat.mul_le_mul_of_nonneg_left h2 (by grind)
 grind
theorem prod_pos{l:List Rat}(h:Pos l):0<prod l:=by
 induction l with
 |nil=>simp only[prod];decide
 |cons q l ih=>exact Rat.mul_pos h.head (ih h.tail)
theorem prod_le_one{l:List Rat}(h:Pos l)(h1: ∀q,q∈l→q≤1):prod l≤1:=by
 induction l with
 |nil=>simp only[prod];decide
 |cons q l ih=>
  have e:=mul_mono (Rat.le_of_lt h.head) (Rat.le_of_lt (prod_pos h.tail)) (h1 q List.mem_cons_self) (ih h.tail (fun x hx=>h1 x (List.mem_cons_of_mem _ hx)));simp only[prod]
  grind
theorem sm_nonneg{l:List Rat}(h1: ∀q,q∈l→1≤q):0≤sm l:=by
 induction l with
 |nil=>simp only[sm];decide
 |cons q l ih=>
  have e1:=h1 q List.mem_cons_self;have e2:=ih (fun x hx=>h1 x (List.mem_cons_of_mem _ hx));simp only[sm]
  grind
theorem amgm(n:Nat): ∀l:List Rat,l.length=n→Pos l→1≤prod l→0≤sm l:=by
 induction n with
 |zero=>
  intro l hl _ _;rw[List.length_eq_zero_iff.1 hl];simp only[sm];decide
 |succ n ih=>
  intro l hl hp h1;by_cases hx: ∃x,x∈l∧x<1
  ·obtain⟨x,hxl,hx1⟩:=hx;have p1:=List.perm_cons_erase hxl;have hpos1:Pos (l.erase x):=fun q hq=>hp q (List.mem_of_mem_erase hq)
   have hprod:prod l=x*prod (l.erase x):=prod_perm p1;have hx0:=hp x hxl;by_cases hy: ∃y,y∈l.erase x∧1<y
   ·obtain⟨y,hyl,hy1⟩:=hy;have p2:=List.perm_cons_erase hyl;have hpos2:Pos ((l.erase x).erase y):=fun q hq=>hpos1 q (List.mem_of_mem_erase hq)
    have hprod2:prod (l.erase x)=y*prod ((l.erase x).erase y):=prod_perm p2;have hsm:sm l=(x-1)+sm (l.erase x):=sm_perm p1;have hsm2:sm (l.erase x)=(y-1)+sm ((l.erase x).erase y):=sm_perm p2;have hlen:((x*y)::((l.erase x).erase y)).length=n:=by
     have e1:=List.length_erase_of_mem hxl;have e2:=List.length_erase_of_mem hyl;have e3:0<(l.erase x).length:=List.length_pos_of_mem hyl;rw[List.length_cons,e2];omega
    have hpr:prod ((x*y)::((l.erase x).erase y))=prod l:=by
     simp only[prod];rw[hprod,hprod2]
     grind
    have h:=ih _ hlen (Pos.cons (Rat.mul_pos hx0 (hpos1 y hyl)) hpos2) (by rw[hpr];exact h1);simp only[sm]at h;have hxy:0≤(1-x)*(y-1):=Rat.mul_nonneg (by grind) (by grind);rw[hsm,hsm2]
    grind
   ·have hle:=prod_le_one hpos1 (fun q hq=>by
     rcases rlt 1 q with h|h
     ·exact absurd ⟨q,hq,h⟩ hy
     ·exact h)
    have h2:x*prod (l.erase x)≤x*1:=Rat.mul_le_mul_of_nonneg_left hle (Rat.le_of_lt hx0);rw[hprod]at h1
    exfalso
    grind
  ·exact sm_nonneg (fun q hq=>by
    rcases rlt q 1 with h|h
    ·exact absurd ⟨q,hq,h⟩ hx
    ·exact h)
def UB(r a:Rat):Prop:=∀e:Rat,0<e→∃l:List Rat,Pos l∧a≤prod l∧sm l≤r+e
theorem UB.mono{r r' a a':Rat}(h:UB r a)(hr:r≤r')(ha:a'≤a):UB r' a':=fun e he=>by
 obtain⟨l,h1,h2,h3⟩:=h e he;exact⟨l,h1,by grind,by grind⟩
theorem UB.add{r s a b:Rat}(h:UB r a)(h':UB s b)(ha:0≤a)(hb:0≤b):UB (r+s) (a*b):=fun e he=>by
 obtain⟨l,h1,h2,h3⟩:=h (e/2) (by grind);obtain⟨l',h1',h2',h3'⟩:=h' (e/2) (by grind);refine⟨l++l',h1.app h1',?_,?_⟩
 ·rw[prod_app];exact mul_mono ha hb h2 h2'
 ·rw[sm_app]
  grind
theorem UB.one{q:Rat}(h:0<q):UB (q-1) q:=fun e he=>⟨[q],Pos.cons h (fun x hx=>by cases hx),by simp only[prod];grind,by simp only[sm];grind⟩
theorem UB.fits{r s a b:Rat}(h:UB r a)(h':UB s b)(ha:0≤a)(hb:0≤b)(hab:1≤a*b):0≤r+s:=by
 rcases rlt (r+s) 0 with hn|hn
 ·exfalso
  obtain⟨l,h1,h2,h3⟩:=h.add h' ha hb (-(r+s)/2) (by grind);have:=amgm _ l rfl h1 (by grind)
  grind
 ·exact hn
theorem tele(F G:Nat→Rat)(d:Rat)(N:Nat)(hF: ∀i,i≤N→0<F i)(hs: ∀i,i<N→F (i+1)/F i-1≤G (i+1)-G i+d):
 ∃l,Pos l∧prod l=F N/F 0∧sm l≤G N-G 0+N*d:=by
 induction N with
 |zero=>
  have h0:=hF 0 (Nat.le_refl _);refine⟨[],(fun x hx=>by cases hx),?_,?_⟩
  ·simp only[prod];grind
  ·simp only[sm];grind
 |succ N ih=>
  obtain⟨l,h1,h2,h3⟩:=ih (fun i hi=>hF i (by omega)) (fun i hi=>hs i (by omega));have hN:=hF N (by omega);have hN1:=hF (N+1) (by omega);have h0:=hF 0 (by omega);have hst:=hs N (by omega);have hq:0<F (N+1)/F N:=div_pos hN1 hN;refine⟨(F (N+1)/F N)::l,Pos.cons hq h1,?_,?_⟩
  ·simp only[prod];rw[h2]
   grind
  ·simp only[sm];have e:((N+1:Nat):Rat)=(N:Rat)+1:=by exact Rat.natCast_add N 1
   rw[e]
   grind
end Go.Proofs.YthlakefgobflnaaGreatDoor.An
namespace Go.Proofs.YthlakefgobflnaaGreatDoor.An
set_option linter.unusedVariables false
def Ab(x a:Rat):Prop:= -a≤x∧x≤a
theorem Ab.mul{x a y b:Rat}(h:Ab x a)(h':Ab y b):Ab (x*y) (a*b):=by
 obtain⟨h1,h2⟩:=h;obtain⟨h3,h4⟩:=h';have e1:0≤(a-x)*(b+y):=Rat.mul_nonneg (by grind) (by grind);have e2:0≤(a+x)*(b-y):=Rat.mul_nonneg (by grind) (by grind);have e3:0≤(a-x)*(b-y):=Rat.mul_nonneg (by grind) (by grind);have e4:0≤(a+x)*(b+y):=Rat.mul_nonneg (by grind) (by grind);constructor<;>grind
theorem Ab.add{x a y b:Rat}(h:Ab x a)(h':Ab y b):Ab (x+y) (a+b):=by
 obtain⟨h1,h2⟩:=h;obtain⟨h3,h4⟩:=h';constructor<;>grind
theorem Ab.le{x a b:Rat}(h:Ab x a)(hb:a≤b):Ab x b:=⟨by have:=h.1;grind,by have:=h.2;grind⟩
theorem Ab.nonneg{x a:Rat}(h:Ab x a):0≤a:=by obtain⟨h1,h2⟩:=h;grind
theorem Ab.pow{x a:Rat}(h:Ab x a)(n:Nat):Ab (x^n) (a^n):=by
 induction n with
 |zero=>rw[Rat.pow_zero,Rat.pow_zero];constructor<;>grind
 |succ n ih=>rw[Rat.pow_succ,Rat.pow_succ];exact ih.mul h
theorem one_pow(n:Nat):(1:Rat)^n=1:=by
 induction n with
 |zero=>rw[Rat.pow_zero]
 |succ n ih=>rw[Rat.pow_succ,ih];grind
theorem cast_succ(n:Nat):((n+1:Nat):Rat)=(n:Rat)+1:=Rat.natCast_add n 1
theorem sq_nonneg(x:Rat):0≤x*x:=by
 rcases rlt x 0 with h|h
 ·have:=Rat.mul_nonneg (a:= -x) (b:= -x) (by grind) (by grind)
  grind
 ·exact Rat.mul_nonneg h h
theorem pow_step(t h:Rat)(ht:Ab t 1)(hh:Ab (t+h) 1)(k:Nat):Ab ((t+h)^(k+1)-t^(k+1)-h*(((k+1:Nat):Rat)*t^k)) (((k+1:Nat):Rat)*((k+1:Nat):Rat)*(h*h)):=by
 have hsq:=sq_nonneg h;induction k with
 |zero=>
  rw[Rat.pow_succ,Rat.pow_zero,Rat.pow_succ,Rat.pow_zero];have e:((0+1:Nat):Rat)=1:=rfl;rw[e];constructor<;>grind
 |succ k ih=>
  have htk:Ab (t^k) 1:=by have:=ht.pow k;rw[one_pow]at this;exact this
  have hk:(0:Rat)≤((k+1:Nat):Rat):=Rat.natCast_nonneg;have h1:=hh.mul ih;have h2:Ab ((h*h)*((k+1:Nat):Rat)) ((h*h)*((k+1:Nat):Rat)):=by
   have:=Rat.mul_nonneg hsq hk;constructor<;>grind
  have h3:=h2.mul htk;have h4:=h1.add h3;have e:(t+h)^(k+1+1)-t^(k+1+1)-h*(((k+1+1:Nat):Rat)*t^(k+1))=(t+h)*((t+h)^(k+1)-t^(k+1)-h*(((k+1:Nat):Rat)*t^k))+(h*h)*((k+1:Nat):Rat)*t^k:=by
   rw[cast_succ (k+1),Rat.pow_succ (t+h),Rat.pow_succ t (k+1),Rat.pow_succ t k]
   grind
  rw[e];refine h4.le ?_;rw[cast_succ (k+1)];have h5:=Rat.mul_nonneg hk hsq
  grind
def ev(c:Nat→Rat)(e:Nat→Nat):Nat→Rat→Rat
 |0,_=>0
 |n+1,t=>ev c e n t+c n*t^e n
def dv(c:Nat→Rat)(e:Nat→Nat):Nat→Rat→Rat
 |0,_=>0
 |n+1,t=>dv c e n t+c n*((e n:Rat)*t^(e n-1))
def cb(c:Nat→Rat)(e:Nat→Nat):Nat→Rat
 |0=>0
 |n+1=>cb c e n+(c n*c n+1)*((e n:Rat)*(e n:Rat))
theorem cb_nonneg(c:Nat→Rat)(e:Nat→Nat)(n:Nat):0≤cb c e n:=by
 induction n with
 |zero=>simp only[cb];decide
 |succ n ih=>
  simp only[cb];have h1:=Rat.mul_nonneg (a:=c n*c n+1) (b:=(e n:Rat)*(e n:Rat)) (by have:=sq_nonneg (c n);grind) (sq_nonneg _)
  grind
theorem pow_step'(t h:Rat)(ht:Ab t 1)(hh:Ab (t+h) 1)(m:Nat):Ab ((t+h)^m-t^m-h*((m:Rat)*t^(m-1))) ((m:Rat)*(m:Rat)*(h*h)):=by
 cases m with
 |zero=>
  rw[Rat.pow_zero,Rat.pow_zero];have e:((0:Nat):Rat)=0:=rfl;rw[e];constructor<;>grind
 |succ k=>exact pow_step t h ht hh k
theorem ab_sq(x:Rat):Ab x (x*x+1):=by
 have h1:=sq_nonneg (x-1);have h2:=sq_nonneg (x+1);have h3:=sq_nonneg x;constructor<;>grind
theorem ev_step(c:Nat→Rat)(e:Nat→Nat)(n:Nat)(t h:Rat)(ht:Ab t 1)(hh:Ab (t+h) 1):Ab (ev c e n (t+h)-ev c e n t-h*dv c e n t) (cb c e n*(h*h)):=by
 induction n with
 |zero=>simp only[ev,dv,cb];constructor<;>grind
 |succ n ih=>
  have h1:=(ab_sq (c n)).mul (pow_step' t h ht hh (e n));have h2:=ih.add h1;simp only[ev,dv,cb];have e1:ev c e n (t+h)+c n*(t+h)^e n-(ev c e n t+c n*t^e n)-h*(dv c e n t+c n*((e n:Rat)*t^(e n-1)))=ev c e n (t+h)-ev c e n t-h*dv c e n t+c n*((t+h)^e n-t^e n-h*((e n:Rat)*t^(e n-1))):=by grind
  have e2:(cb c e n+(c n*c n+1)*((e n:Rat)*(e n:Rat)))*(h*h)=cb c e n*(h*h)+(c n*c n+1)*((e n:Rat)*(e n:Rat)*(h*h)):=by grind
  rw[e1,e2];exact h2
theorem arch(x:Rat): ∃N:Nat,0<N∧x≤(N:Rat):=by
 refine⟨(x.floor+1).toNat+1,by omega,?_⟩;have h1:x<((x.floor+1:Int):Rat):=Rat.floor_lt_iff.1 (by omega);have h2:((x.floor+1:Int):Rat)≤((((x.floor+1).toNat+1:Nat):Int):Rat):=Rat.intCast_le_intCast.2 (by omega);rw[Rat.intCast_natCast]at h2
 grind
theorem div_self_mul{n:Rat}(y:Rat)(h:0<n):n/n*y=y:=by grind
theorem zero_div_mul(n y:Rat):((0:Nat):Rat)/n*y=0:=by
 have:((0:Nat):Rat)=0:=rfl;rw[this]
 grind
theorem sq_div{n:Rat}(C:Rat)(h:0<n):n*(C*(1/n*(1/n)))=C/n:=by grind
theorem small_div{n C ep:Rat}(h:0<n)(he:0<ep)(hn:C/ep≤n):C/n≤ep:=by
 rcases rlt ep (C/n)with h1|h1
 ·rw[Rat.lt_div_iff h]at h1;have:C=C/ep*ep:=by grind
  have h6:=Rat.mul_le_mul_of_nonneg_right hn (Rat.le_of_lt he)
  grind
 ·exact h1
theorem master(F G:Rat→Rat)(y C:Rat)(hF: ∀s,0≤s→s≤1→0<F (s*y))
 (hst: ∀s d,0≤s→0<d→s+d≤1→F (s*y+d*y)/F (s*y)-1≤G (s*y+d*y)-G (s*y)+C*(d*d)):UB (G y-G 0) (F y/F 0):=by
 intro ep hep;obtain⟨N,hN,hNx⟩:=arch (C/ep);have hNp:(0:Rat)<(N:Rat):=by
  have:((0:Nat):Rat)<(N:Rat):=Rat.natCast_lt_natCast.2 hN;exact this
 have hin: ∀i:Nat,i≤N→0≤(i:Rat)/(N:Rat)∧(i:Rat)/(N:Rat)≤1:=fun i hi=>by
  have h0:(0:Rat)≤(i:Rat):=Rat.natCast_nonneg;have h1:(i:Rat)≤(N:Rat):=Rat.natCast_le_natCast.2 hi;have h2:0≤(i:Rat)/(N:Rat):=by
   rw[Rat.div_def];exact Rat.mul_nonneg h0 (Rat.le_of_lt (Rat.inv_pos.2 hNp))
  refine⟨h2,?_⟩;rcases rlt 1 ((i:Rat)/(N:Rat))with h|h
  ·rw[Rat.lt_div_iff hNp]at h
   grind
  ·exact h
 have hd:0<1/(N:Rat):=div_pos (by decide) hNp;obtain⟨l,h1,h2,h3⟩:=tele (fun i=>F ((i:Rat)/(N:Rat)*y)) (fun i=>G ((i:Rat)/(N:Rat)*y)) (C*(1/(N:Rat)*(1/(N:Rat)))) N (fun i hi=>hF _ (hin i hi).1 (hin i hi).2) (fun i hi=>by
  have e:((i+1:Nat):Rat)/(N:Rat)=(i:Rat)/(N:Rat)+1/(N:Rat):=by rw[cast_succ];grind
  have h:=hst ((i:Rat)/(N:Rat)) (1/(N:Rat)) (hin i (by omega)).1 hd (by rw[←e];exact(hin (i+1) (by omega)).2);have e2:((i+1:Nat):Rat)/(N:Rat)*y=(i:Rat)/(N:Rat)*y+1/(N:Rat)*y:=by rw[e];grind
  show F (((i+1:Nat):Rat)/(N:Rat)*y)/F ((i:Rat)/(N:Rat)*y)-1≤G (((i+1:Nat):Rat)/(N:Rat)*y)-G ((i:Rat)/(N:Rat)*y)+_;rw[e2];exact h)
 clear hst hF hin;have e0:((0:Nat):Rat)/(N:Rat)*y=0:=zero_div_mul _ _;have eN:(N:Rat)/(N:Rat)*y=y:=div_self_mul y hNp;simp only[e0,eN]at h2 h3;rw[sq_div C hNp]at h3;have h4:=small_div hNp hep hNx;refine⟨l,h1,by rw[h2];exact Rat.le_refl,?_⟩;clear h1 h2 hd hNx;generalize G y=g1 at*;generalize G 0=g0 at*;generalize sm l=s at*;generalize C/(N:Rat)=k at*
 grind
end Go.Proofs.YthlakefgobflnaaGreatDoor.An
namespace Go.Proofs.YthlakefgobflnaaGreatDoor.An
set_option linter.unusedVariables false
theorem div_le{a b c:Rat}(hc:0<c)(h:a≤b*c):a/c≤b:=by
 rcases rlt b (a/c)with h1|h1
 ·rw[Rat.lt_div_iff hc]at h1
  grind
 ·exact h1
theorem le_div{a b c:Rat}(hc:0<c)(h:b*c≤a):b≤a/c:=by
 rcases rlt (a/c) b with h1|h1
 ·rw[Rat.div_lt_iff hc]at h1
  grind
 ·exact h1
theorem seg_ab{y b s:Rat}(hy:Ab y b)(h0:0≤s)(h1:s≤1):Ab (s*y) b:=by
 have hb:=hy.nonneg;have hs:Ab s 1:=⟨by grind,h1⟩;have:=hs.mul hy;rw[show(1:Rat)*b=b by grind]at this;exact this
theorem exp_lo(F:Rat→Rat)(y C:Rat)(h0:F 0=1)(hC:0≤C)(hF: ∀s,0≤s→s≤1→1/2≤F (s*y))
 (hst: ∀s d,0≤s→0<d→s+d≤1→F (s*y+d*y)-F (s*y)≤d*y*F (s*y)+C*(d*d)):UB y (F y):=by
 have h:=master F (fun t=>t) y (2*C) (fun s a b=>by have:=hF s a b;clear hst hF;grind) (fun s d a b c=>by
  have h1:=hst s d a b c;have h2:=hF s a (by clear hst hF h1;grind);clear hst hF h0;generalize F (s*y+d*y)=u at*;generalize F (s*y)=v at*;have hv:0<v:=by grind
  have h3:0≤C*(d*d):=Rat.mul_nonneg hC (sq_nonneg d);have h4:C*(d*d)*(1/2)≤C*(d*d)*v:=Rat.mul_le_mul_of_nonneg_left h2 h3;have h5:u/v≤1+d*y+2*C*(d*d):=div_le hv (by grind)
  grind)
 clear hst hF;simp only[h0]at h;exact h.mono (by grind) (by grind)
theorem exp_hi(F:Rat→Rat)(y C D:Rat)(h0:F 0=1)(hC:0≤C)(hD:0≤D)(hy:Ab y 1)(hF: ∀s,0≤s→s≤1→1/2≤F (s*y))
 (hst: ∀s d,0≤s→0<d→s+d≤1→d*y*F (s*y)-C*(d*d)≤F (s*y+d*y)-F (s*y)) (hlip: ∀s d,0≤s→0<d→s+d≤1→Ab (F (s*y+d*y)-F (s*y)) (D*d)):UB (-y) (1/F y):=by
 have h:=master (fun t=>1/F t) (fun t=> -t) y (2*(C+D)) (fun s a b=>by have:=hF s a b;clear hst hF hlip;exact div_pos (by decide) (by grind)) (fun s d a b c=>by
  have h1:=hst s d a b c;have h2:=hF s a (by clear hst hF hlip h1;grind);have h3:=hF (s+d) (by clear hst hF hlip h1 h2;grind) c;rw[show(s+d)*y=s*y+d*y by clear hst hF hlip h1 h2 h3;grind]at h3;have h4:=hlip s d a b c;clear hst hF hlip h0;show 1/F (s*y+d*y)/(1/F (s*y))-1≤ -(s*y+d*y)- -(s*y)+2*(C+D)*(d*d);generalize F (s*y+d*y)=u at*;generalize F (s*y)=v at*;have hu:0<u:=by grind
  have hv:0<v:=by grind
  have e:1/u/(1/v)=v/u:=by grind
  rw[e];have hdy:Ab (d*y) d:=by
   have:=(show Ab d d from⟨by grind,Rat.le_refl⟩).mul hy;rw[show d*(1:Rat)=d by grind]at this;exact this
  have h5:=(hdy.mul h4).2;have h6:0≤(C+D)*(d*d):=Rat.mul_nonneg (by grind) (sq_nonneg d);have h7:(C+D)*(d*d)*(1/2)≤(C+D)*(d*d)*u:=Rat.mul_le_mul_of_nonneg_left h3 h6;have h8:v/u≤1-d*y+2*(C+D)*(d*d):=div_le hu (by grind)
  grind)
 clear hst hF hlip;simp only[h0]at h;exact h.mono (by grind) (by grind)
def ec:Nat→Rat
 |0=>1
 |k+1=>ec k/((k+1:Nat):Rat)
theorem natpos(k:Nat):(0:Rat)<((k+1:Nat):Rat):=by
 have:((0:Nat):Rat)<((k+1:Nat):Rat):=Rat.natCast_lt_natCast.2 (by omega);exact this
theorem ec_pos(k:Nat):0<ec k:=by
 induction k with
 |zero=>simp only[ec];decide
 |succ k ih=>simp only[ec];exact div_pos ih (natpos k)
theorem ec_le(k:Nat):ec k≤1:=by
 induction k with
 |zero=>simp only[ec];exact Rat.le_refl
 |succ k ih=>
  simp only[ec];refine div_le (natpos k) ?_;have:(1:Rat)≤((k+1:Nat):Rat):=Rat.natCast_le_natCast.2 (show 1≤k+1 by omega)
  grind
theorem ec_mul(k:Nat):ec (k+1)*((k+1:Nat):Rat)=ec k:=by
 have:=natpos k;simp only[ec]
 grind
def T(n:Nat)(t:Rat):Rat:=ev ec id (n+1) t
theorem T_dv(n:Nat)(t:Rat):dv ec id (n+1) t=ev ec id n t:=by
 induction n with
 |zero=>
  simp only[dv,ev,id];have:((0:Nat):Rat)=0:=rfl;rw[this]
  grind
 |succ n ih=>
  have h:=ec_mul n;rw[dv,ih,ev];simp only[id,Nat.add_sub_cancel]
  grind
theorem T_zero(n:Nat):T n 0=1:=by
 unfold T;induction n with
 |zero=>
  simp only[ev,ec,id,Rat.pow_zero]
  grind
 |succ n ih=>
  rw[ev,ih];simp only[id,Rat.pow_succ]
  grind
theorem T_near(n:Nat)(t b:Rat)(ht:Ab t b)(hb:b≤1/2):Ab (T n t-1) (2*b-2*b^(n+1)):=by
 have hb0:=ht.nonneg;unfold T;induction n with
 |zero=>
  simp only[ev,ec,id,Rat.pow_zero,Rat.pow_succ];constructor<;>grind
 |succ n ih=>
  have h1:=(show Ab (ec (n+1)) 1 from⟨by have:=ec_pos (n+1);grind,ec_le _⟩).mul (ht.pow (n+1));have h2:=ih.add h1;rw[ev,show ev ec id (n+1) t+ec (n+1)*t^id (n+1)-1=ev ec id (n+1) t-1+ec (n+1)*t^(n+1) by simp only[id];grind];refine h2.le ?_;have h3:0≤b^(n+1):=Rat.pow_nonneg hb0;rw[Rat.pow_succ b (n+1)];have h4:b^(n+1)*b≤b^(n+1)*(1/2):=Rat.mul_le_mul_of_nonneg_left hb h3
  grind
theorem T_half(n:Nat)(t:Rat)(ht:Ab t (1/16)):3/4≤T n t∧T n t≤5/4:=by
 have h:=T_near n t (1/16) ht (by grind);have h3:0≤(1/16:Rat)^(n+1):=Rat.pow_nonneg (by grind);obtain⟨h1,h2⟩:=h;constructor<;>grind
theorem mul_pow(s y:Rat)(n:Nat):(s*y)^n=s^n*y^n:=by
 induction n with
 |zero=>rw[Rat.pow_zero,Rat.pow_zero,Rat.pow_zero];grind
 |succ n ih=>rw[Rat.pow_succ,Rat.pow_succ,Rat.pow_succ,ih];grind
theorem last_ab{c s y K:Rat}(n:Nat)(h:Ab (c*y^n) K)(h0:0≤s)(h1:s≤1):Ab (c*(s*y)^n) K:=by
 have hs:Ab s 1:=⟨by grind,h1⟩;have h2:=(hs.pow n).mul h;rw[one_pow]at h2;rw[mul_pow,show c*(s^n*y^n)=s^n*(c*y^n) by grind,show K=1*K by grind];exact h2
theorem T_step(n:Nat)(y s d:Rat)(hy:Ab y (1/16))(h0:0≤s)(hd:0<d)(h1:s+d≤1):
 Ab (T n (s*y+d*y)-T n (s*y)-d*y*(T n (s*y)-ec n*(s*y)^n)) (cb ec id (n+1)*(d*d)):=by
 have ht:=seg_ab hy h0 (by grind);have hh:=seg_ab hy (s:=s+d) (by grind) h1;rw[show(s+d)*y=s*y+d*y by grind]at hh;have h:=ev_step ec id (n+1) (s*y) (d*y) (ht.le (by grind)) (hh.le (by grind));have hc:=cb_nonneg ec id (n+1);rw[T_dv]at h;have e:T n (s*y)-ec n*(s*y)^n=ev ec id n (s*y):=by
  unfold T;rw[ev];simp only[id]
  grind
 rw[e];refine h.le ?_;have h2:y*y≤1:=by have:=(hy.mul hy).2;grind
 have h3:=Rat.mul_nonneg hc (sq_nonneg d);have h4:=Rat.mul_le_mul_of_nonneg_left h2 h3
 grind
theorem exp_T(n:Nat)(y K L m:Rat)(hy:Ab y (1/16))(hK:Ab (ec n*y^n) K)(hK1:K≤1)(hL:L*y=2*(K*m))(hLb:Ab L (2*K))(hm:m=y∨m= -y)(hm0:0≤m):
 UB y (T n y-2*(K*m))∧UB (-y) (1/(T n y+2*(K*m))):=by
 have hK0:=hK.nonneg;have hKm:=Rat.mul_nonneg hK0 hm0;have hc:=cb_nonneg ec id (n+1);have hLt: ∀s,0≤s→s≤1→Ab (L*(s*y)) (1/8):=fun s a b=>by
  have:=hLb.mul (seg_ab hy a b);exact this.le (by grind)
 have key: ∀s d,0≤s→0<d→s+d≤1→d*y*(ec n*(s*y)^n)≤L*(d*y)*(1-s*y)∧ -(d*y*(ec n*(s*y)^n))≤L*(d*y)*(1-s*y):=fun s d a b c=>by
  have h1:=last_ab n hK a (show s≤1 by grind);have hmy:Ab y m:=by
   rcases hm with h|h
   ·constructor<;>grind
   ·constructor<;>grind
  have hdd:Ab d d:=⟨by grind,Rat.le_refl⟩;have h2:=(hdd.mul hmy).mul h1;have h3:=seg_ab hy a (show s≤1 by grind);have h4:L*(d*y)=d*(2*(K*m)):=by grind
  have h5:0≤d*(K*m):=Rat.mul_nonneg (Rat.le_of_lt b) hKm;have h6:d*(K*m)*(1/2)≤d*(K*m)*(1-s*y):=Rat.mul_le_mul_of_nonneg_left (by have:=h3.2;grind) h5;rw[h4];have h7:=h2.1;have h8:=h2.2;clear hLt hL hLb h1 h2 h3 hK hm hmy hdd;generalize d*y*(ec n*(s*y)^n)=q at*;constructor<;>grind
 constructor
 ·have h:=exp_lo (fun t=>T n t-L*t) y (cb ec id (n+1)) (by rw[T_zero];grind) hc (fun s a b=>by
   have h1:=(T_half n _ (seg_ab hy a b)).1;have h2:=(hLt s a b).2;clear hLt key
   grind) (fun s d a b c=>by
   have h1:=(T_step n y s d hy a b c).2;have h2:=(key s d a b c).2;clear hLt key;show T n (s*y+d*y)-L*(s*y+d*y)-(T n (s*y)-L*(s*y))≤d*y*(T n (s*y)-L*(s*y))+cb ec id (n+1)*(d*d);generalize T n (s*y+d*y)=u at*;generalize T n (s*y)=v at*;generalize ec n*(s*y)^n=q at*
   grind)
  clear hLt key;exact h.mono Rat.le_refl (by grind)
 ·have h:=exp_hi (fun t=>T n t+L*t) y (cb ec id (n+1)) (5+cb ec id (n+1)) (by rw[T_zero];grind) hc (by grind) (hy.le (by grind)) (fun s a b=>by
   have h1:=(T_half n _ (seg_ab hy a b)).1;have h2:=(hLt s a b).1;clear hLt key
   grind) (fun s d a b c=>by
   have h1:=(T_step n y s d hy a b c).1;have h2:=(key s d a b c).1;clear hLt key;show d*y*(T n (s*y)+L*(s*y))-cb ec id (n+1)*(d*d)≤T n (s*y+d*y)+L*(s*y+d*y)-(T n (s*y)+L*(s*y));generalize T n (s*y+d*y)=u at*;generalize T n (s*y)=v at*;generalize ec n*(s*y)^n=q at*
   grind) (fun s d a b c=>by
   have h1:=T_step n y s d hy a b c;have h2:=T_half n _ (seg_ab hy a (show s≤1 by clear hLt key;grind));have h3:=last_ab n hK a (show s≤1 by clear hLt key;grind);have hdd:Ab d d:=⟨by clear hLt key;grind,Rat.le_refl⟩;have h4:Ab (T n (s*y)-ec n*(s*y)^n+L) (9/2):=by
    clear hLt key h1;obtain⟨a1,a2⟩:=h2;obtain⟨a3,a4⟩:=h3;obtain⟨a5,a6⟩:=hLb;constructor<;>grind
   have h5:=(hdd.mul (hy.le (show 1/16≤1 by grind))).mul h4;have h6:cb ec id (n+1)*(d*d)≤cb ec id (n+1)*d:=by
    have:d*d≤d*1:=Rat.mul_le_mul_of_nonneg_left (by clear hLt key h1 h2 h3 h4 h5;grind) (Rat.le_of_lt b);have:=Rat.mul_le_mul_of_nonneg_left this hc;clear hLt key h1 h2 h3 h4 h5
    grind
   clear hLt key h2 h3 h4;show Ab (T n (s*y+d*y)+L*(s*y+d*y)-(T n (s*y)+L*(s*y))) ((5+cb ec id (n+1))*d);generalize T n (s*y+d*y)=u at*;generalize T n (s*y)=v at*;generalize ec n*(s*y)^n=q at*;obtain⟨a1,a2⟩:=h1;obtain⟨a3,a4⟩:=h5;constructor<;>grind)
  clear hLt key;rw[show T n y+L*y=T n y+2*(K*m) by rw[hL]]at h;exact h
theorem exp_both(n:Nat)(y K m:Rat)(hy:Ab y (1/16))(hK:Ab (ec n*y^n) K)(hK1:K≤1)(hm:m=y∨m= -y)(hm0:0≤m):UB y (T n y-2*(K*m))∧UB (-y) (1/(T n y+2*(K*m))):=by
 have hK0:=hK.nonneg;rcases hm with h|h
 ·exact exp_T n y K (2*K) m hy hK hK1 (by rw[h];grind) ⟨by grind,Rat.le_refl⟩ (.inl h) hm0
 ·exact exp_T n y K (-(2*K)) m hy hK hK1 (by rw[h];grind) ⟨Rat.le_refl,by grind⟩ (.inr h) hm0
end Go.Proofs.YthlakefgobflnaaGreatDoor.An
