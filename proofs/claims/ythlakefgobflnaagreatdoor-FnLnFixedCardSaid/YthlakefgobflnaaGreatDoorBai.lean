/- WHAT THE REFERENCE's NUMBERS ANSWER, further: wholeOf. THE REFERENCE's NUMBERS BY WORTH: what its functions on natural numbers answer, told of numbers. THE REFERENCE's WHOLE NUMBERS BY WORTH. THE REFERENCE's WHOLE NUMBERS AND RANGES BY WORTH, further. -/
import Derived.Test.YthlakefgobflnaaGreatDoorBaa
import Derived.Test.YthlakefgobflnaaGreatDoorBah
import Derived.Test.YthlakefgobflnaaGreatDoorBag
import Derived.Test.YthlakefgobflnaaGreatDoorBac
namespace Go.Proofs.YthlakefgobflnaaGreatDoor.Lm
open Go.RowKit Go.Proofs.YthlakefgobflnaaGreatDoorW.PrintWords Go.Proofs.YthlakefgobflnaaGreatDoor.S
set_option linter.unusedVariables false
def sg(neg:Bool)(n:Nat):Bool:=neg&&decide (n≠0)
theorem sg_pos{n:Nat}(h:n≠0)(b:Bool):sg b n=b:=by unfold sg;simp[h]
theorem wholeOf(neg:Bool)(n:Nat):spec_wholeOf.f neg (lim n)=some (sg neg n,lim n):=by
 unfold spec_wholeOf.f sg;have hl:=len_zero (n:=n);cases neg with
 |false=>rfl
 |true=>
  rw[if_pos rfl,Bool.true_and]
  congr 2
  rw[decide_eq_decide];omega
end Go.Proofs.YthlakefgobflnaaGreatDoor.Lm
namespace Go.Proofs.YthlakefgobflnaaGreatDoor.R
open Go.Proofs.YthlakefgobflnaaGreatDoor.G Go.RowKit Go.Proofs.YthlakefgobflnaaGreatDoorW.PrintWords Go.Proofs.YthlakefgobflnaaGreatDoorW.PrintLast Go.Proofs.YthlakefgobflnaaGreatDoorW.PrintMore Go.Proofs.YthlakefgobflnaaGreatDoor.S
set_option linter.unusedVariables false
set_option linter.unusedSimpArgs false
abbrev len(n:Nat):Nat:=(Lm.lim n).length
def Nv(w:World)(v:Value)(n:Nat):Prop:=∃A c,v= .slice A (len n) c∧len n≤c∧Kd.C (Kd.int .u32) w A (len n) (Lm.lim n)
theorem Nv.of{w:World}{v:Value}{n b:Nat}{ok:Nat→Prop}(h:Kd.V (Kd.int .u32) 40 w b ok v (Lm.lim n)):Nv w v n:=by
 obtain⟨A,c,rfl⟩:=Kd.V_slice h;exact⟨A,c,rfl,(Kd.V_reads' h).2.1,(Kd.V_reads' h).2.2⟩
theorem Nv.ofR{w:World}{v:Value}{n b:Nat}{ok:Nat→Prop}(h:Kd.R (Kd.int .u32) 40 w b ok v (Lm.lim n)):Nv w v n:=Nv.of (b:=0) (Kd.R_V h)
theorem Nv.below{w w':World}{v:Value}{n:Nat}(h:Nv w v n)(hb:Below w.heap.size w w'):Nv w' v n:=by
 obtain⟨A,c,e,hl,hC⟩:=h;exact⟨A,c,e,hl,Kd.C_below hC hb⟩
theorem Nv.open_{w:World}{v:Value}{n:Nat}(h:Nv w v n): ∃A c,v= .slice A (len n) c∧len n≤c∧Kd.C (Kd.int .u32) w A (len n) (Lm.lim n):=h
theorem Nv.nil(w:World):Nv w (.slice none 0 0) 0:=Nv.of (b:=0) (ok:=fun _=>True) (by rw[Lm.lim_zero];exact Kd.V_nil _ _ _ _ _)
def noInt(cs:Array Value):Bool:=cs.toList.all fun v=>match v with
 |.int .u32 _=>false
 |_=>true
theorem Nv.far{w w':World}{v:Value}{n g:Nat}{cs:Array Value}{t:TypeId}{fz:Nat×Nat}(h:Nv w v n)(hB:w.heap[g]?=some (.cells cs t fz))(hn:noInt cs=true)(hk: ∀j,j≠g→w'.heap[j]?=w.heap[j]?):Nv w' v n:=by
 obtain⟨A,c,e,hl,h1,h2,h3⟩:=h;refine⟨A,c,e,hl,h1,h2,fun h0=>?_⟩;obtain⟨ad,e1,hr⟩:=h3 h0;refine⟨ad,e1,fun j p hj=>?_⟩;obtain⟨cl,f1,f2,f3⟩:=hr j p hj;refine⟨cl,f1,f2,fun i u hu=>?_⟩;have hc:=f3 i u hu;have hu2:u= .int .u32 p:=by
  have f2':cl= [Value.int .u32 p]:=f2;subst f2';cases i with
  |zero=>exact(Option.some.inj hu).symm
  |succ i=>simp at hu
 generalize ad.add (j*(Kd.int .u32).sz+i)=a at*;have hne:a.block≠g:=fun e2=>by
  unfold World.cell? at hc;rw[e2,hB]at hc;simp only at hc
  split at hc
  ·cases hc
  ·rw[←Array.getElem?_toList]at hc;have hm:=List.mem_of_getElem? hc;have:=List.all_eq_true.1 hn _ hm;rw[hu2]at this;cases this
 unfold World.cell? at hc⊢;rw[hk _ hne];exact hc
theorem Nv.first{w:World}{ad:Addr}{c l n:Nat}(h:Nv w (.slice (some ad) l c) n)(h0:n≠0):w.cell? ad=some (.int .u32 ((n%1000000000:Nat):Int)):=by
 obtain⟨A,c',e,hl,hC⟩:=h;injection e with e1 e2 e3;subst e1;have hln:0<len n:=by have:=Lm.len_zero (n:=n);unfold len;omega
 obtain⟨ad',e4,hc⟩:=Kd.at_int hC 0 (by omega) (by omega);cases e4;rw[show((0:Int)).toNat=0 from rfl,Addr.add_zero']at hc;rw[hc,show rd (Lm.lim n) 0=((n%1000000000:Nat):Int) by rw[Lm.lim_pos h0];rfl]
theorem Nv.some_{w:World}{A:Option Addr}{c l n:Nat}(h:Nv w (.slice A l c) n)(h0:n≠0): ∃ad,A=some ad:=by
 obtain⟨A',c',e,hl,hC⟩:=h;injection e with e1 e2 e3;subst e1;have hln:0<len n:=by have:=Lm.len_zero (n:=n);unfold len;omega
 obtain⟨ad',e4,hc⟩:=Kd.at_int hC 0 (by omega) (by omega);exact⟨ad',e4⟩
theorem alloc1{w W:World}{X:Obj}(h:w.alloc X=W):W.heap[w.heap.size]?=some X∧Below w.heap.size w W∧W.heap.size=w.heap.size+1:=by
 subst h;exact⟨blk_new w X,below_alloc (Below.refl _ w) X,Array.size_push _⟩
theorem alloc2{w W:World}{X Y:Obj}(h:(w.alloc X).alloc Y=W):W.heap[w.heap.size]?=some X∧W.heap[w.heap.size+1]?=some Y∧Below w.heap.size w W∧W.heap.size=w.heap.size+2:=by
 subst h;have e:(w.alloc X).heap.size=w.heap.size+1:=Array.size_push _;refine⟨blk_alloc (blk_new w X) Y,?_,below_alloc (below_alloc (Below.refl _ w) X) Y,by rw[show((w.alloc X).alloc Y).heap.size=(w.alloc X).heap.size+1 from Array.size_push _,e]⟩;rw[←e];exact blk_new _ Y
theorem alloc3{w W:World}{X Y Z:Obj}(h:((w.alloc X).alloc Y).alloc Z=W):W.heap[w.heap.size]?=some X∧W.heap[w.heap.size+1]?=some Y∧W.heap[w.heap.size+1+1]?=some Z∧Below w.heap.size w W∧W.heap.size=w.heap.size+3:=by
 subst h;obtain⟨h1,h2,h3,h4⟩:=alloc2 (w:=w) (X:=X) (Y:=Y) rfl;refine⟨blk_alloc h1 Z,blk_alloc h2 Z,?_,below_alloc h3 Z,by rw[show(((w.alloc X).alloc Y).alloc Z).heap.size=((w.alloc X).alloc Y).heap.size+1 from Array.size_push _,h4]⟩;rw[←h4];exact blk_new _ Z
theorem put2{w w2 W:World}{g:Nat}{t:TypeId}{b:Bool}{v:Value}(hB:w2.heap[g]?=some (.cells #[.bool false,.slice none 0 0] t (0,0)))(hb:Below w.heap.size w w2)(hg:w.heap.size≤g)(hW:(w2.setCell ⟨g,0,none⟩ (.bool b)).setCell ⟨g,1,none⟩ v=W):
 W.heap[g]?=some (.cells #[.bool b,v] t (0,0))∧Below w.heap.size w W∧∀v' n,Nv w2 v' n→Nv W v' n:=by
 subst hW;exact⟨blk_put (blk_put hB 0 (.bool b) rfl) 1 v rfl,below_set (below_set hb hg) hg,fun v' n h=>h.far hB rfl (fun j hj=>(Below.heap_setCell _ _ _ j hj).trans (Below.heap_setCell _ _ _ j hj))⟩
theorem put3{w w2 W:World}{g:Nat}{t:TypeId}{b:Bool}{v x:Value}(hB:w2.heap[g]?=some (.cells #[.bool false,.slice none 0 0,.slice none 0 0] t (0,0)))(hb:Below w.heap.size w w2)(hg:w.heap.size≤g)
 (hW:((w2.setCell ⟨g,0,none⟩ (.bool b)).setCell ⟨g,1,none⟩ v).setCell ⟨g,2,none⟩ x=W):W.heap[g]?=some (.cells #[.bool b,v,x] t (0,0))∧Below w.heap.size w W∧∀v' n,Nv w2 v' n→Nv W v' n:=by
 subst hW;exact⟨blk_put (blk_put (blk_put hB 0 (.bool b) rfl) 1 v rfl) 2 x rfl,below_set (below_set (below_set hb hg) hg) hg,fun v' n h=>h.far hB rfl (fun j hj=>((Below.heap_setCell _ _ _ j hj).trans (Below.heap_setCell _ _ _ j hj)).trans (Below.heap_setCell _ _ _ j hj))⟩
theorem put3d{w w2 W:World}{g:Nat}{t:TypeId}{b:Bool}{v:Value}{n:Int}(hB:w2.heap[g]?=some (.cells #[.bool false,.slice none 0 0,.int .i64 0] t (0,0)))(hb:Below w.heap.size w w2)(hg:w.heap.size≤g)
 (hW:((w2.setCell ⟨g,0,none⟩ (.bool b)).setCell ⟨g,1,none⟩ v).setCell ⟨g,2,none⟩ (.int .i64 n)=W):W.heap[g]?=some (.cells #[.bool b,v,.int .i64 n] t (0,0))∧Below w.heap.size w W∧∀v' n,Nv w2 v' n→Nv W v' n:=by
 subst hW;exact⟨blk_put (blk_put (blk_put hB 0 (.bool b) rfl) 1 v rfl) 2 (.int .i64 n) rfl,below_set (below_set (below_set hb hg) hg) hg,fun v' n h=>h.far hB rfl (fun j hj=>((Below.heap_setCell _ _ _ j hj).trans (Below.heap_setCell _ _ _ j hj)).trans (Below.heap_setCell _ _ _ j hj))⟩
theorem put4{w w2 W:World}{g:Nat}{t:TypeId}{b d:Bool}{v x:Value}(hB:w2.heap[g]?=some (.cells #[.bool false,.slice none 0 0,.bool false,.slice none 0 0] t (0,0)))(hb:Below w.heap.size w w2)(hg:w.heap.size≤g)
 (hW:(((w2.setCell ⟨g,0,none⟩ (.bool b)).setCell ⟨g,1,none⟩ v).setCell ⟨g,2,none⟩ (.bool d)).setCell ⟨g,3,none⟩ x=W):W.heap[g]?=some (.cells #[.bool b,v,.bool d,x] t (0,0))∧Below w.heap.size w W∧∀v' n,Nv w2 v' n→Nv W v' n:=by
 subst hW;exact⟨blk_put (blk_put (blk_put (blk_put hB 0 (.bool b) rfl) 1 v rfl) 2 (.bool d) rfl) 3 x rfl,below_set (below_set (below_set (below_set hb hg) hg) hg) hg,fun v' n h=>h.far hB rfl (fun j hj=>(((Below.heap_setCell _ _ _ j hj).trans (Below.heap_setCell _ _ _ j hj)).trans (Below.heap_setCell _ _ _ j hj)).trans (Below.heap_setCell _ _ _ j hj))⟩
theorem natAdd_is(a b:Nat)(u v:Value)(w:World)(hu:Nv w u a)(hv:Nv w v b)(hl:len (a+b)≤1000000):
 Calls Tryz.prog 5 #[u,v] w fun e w'=>∃x,e= .returned x∧Nv w' x (a+b)∧Below w.heap.size w w':=by
 obtain⟨A,c,rfl,h1,h2⟩:=hu.open_;obtain⟨B,d,rfl,h3,h4⟩:=hv.open_;obtain⟨k,hk⟩:=(Lm.natAdd a b (Nat.lt_of_le_of_lt hl (by omega))).ex;refine(spec_NatAdd.calls k A c (Lm.lim a) B d (Lm.lim b) _ w h2 h1 h4 h3 hk).mono ?_;rintro e w' ⟨x,rfl,hR,hb⟩;exact⟨x,rfl,Nv.ofR hR,hb⟩
theorem natSub_is(a b:Nat)(u v:Value)(w:World)(hu:Nv w u a)(hv:Nv w v b)(hab:b≤a)(hl:len a≤1000000):
 Calls Tryz.prog 34 #[u,v] w fun e w'=>∃x,e= .returned x∧Nv w' x (a-b)∧Below w.heap.size w w':=by
 obtain⟨A,c,rfl,h1,h2⟩:=hu.open_;obtain⟨B,d,rfl,h3,h4⟩:=hv.open_;obtain⟨k,hk⟩:=(Lm.natSub a b hab (Nat.lt_of_le_of_lt hl (by omega))).ex;refine(spec_NatSub.calls k A c (Lm.lim a) B d (Lm.lim b) _ w h2 h1 h4 h3 hk).mono ?_;rintro e w' ⟨x,rfl,hR,hb⟩;exact⟨x,rfl,Nv.of hR,hb⟩
theorem natMul_is(a b:Nat)(u v:Value)(w:World)(hu:Nv w u a)(hv:Nv w v b)(hl:len a+len b≤1000000):
 Calls Tryz.prog 29 #[u,v] w fun e w'=>∃x,e= .returned x∧Nv w' x (a*b)∧Below w.heap.size w w':=by
 obtain⟨A,c,rfl,h1,h2⟩:=hu.open_;obtain⟨B,d,rfl,h3,h4⟩:=hv.open_;obtain⟨k,hk⟩:=(Lm.natMul a b (Nat.le_trans hl (by omega))).ex;refine(spec_NatMul.calls k A c (Lm.lim a) B d (Lm.lim b) _ w h2 h1 h4 h3 hk).mono ?_;rintro e w' ⟨x,rfl,hR,hb⟩;exact⟨x,rfl,Nv.of hR,hb⟩
theorem natDiv_is(a b:Nat)(u v:Value)(w:World)(hu:Nv w u a)(hv:Nv w v b)(h0:0<b)(hl:len a+len b≤1000000):
 Calls Tryz.prog 11 #[u,v] w fun e w'=>∃x y,e= .returned (.tuple #[x,y])∧Nv w' x (a/b)∧Nv w' y (a%b)∧Below w.heap.size w w':=by
 obtain⟨A,c,rfl,h1,h2⟩:=hu.open_;obtain⟨B,d,rfl,h3,h4⟩:=hv.open_;obtain⟨k,hk⟩:=(Lm.natDiv a b h0 (Nat.lt_of_le_of_lt hl (by omega))).ex;refine(spec_NatDiv.calls k A c (Lm.lim a) B d (Lm.lim b) _ _ w h2 h1 h4 h3 hk).mono ?_;rintro e w' ⟨x,y,rfl,hR,hS,hb⟩;exact⟨x,y,rfl,Nv.of hR,Nv.of hS,hb⟩
theorem natCmp_is'(a b:Nat)(u v:Value)(w:World)(hu:Nv w u a)(hv:Nv w v b)(hl:len a≤1000000):
 Calls Tryz.prog 30 #[u,v] w fun e w'=>e= .returned (.int .i64 (Lm.cmp a b))∧Below w.heap.size w w':=by
 obtain⟨A,c,rfl,h1,h2⟩:=hu.open_;obtain⟨B,d,rfl,h3,h4⟩:=hv.open_;obtain⟨k,hk⟩:=(Lm.natCmp a b (Nat.le_trans hl (by omega))).ex;refine(spec_NatCmp.calls k A c (Lm.lim a) B d (Lm.lim b) _ w h2 h1 h4 h3 hk).mono ?_;rintro e w' ⟨rfl,hb⟩;exact⟨rfl,hb.below⟩
theorem natShort_is(a b:Nat)(u:Value)(w:World)(hu:Nv w u a)(h0:0<b)(hb:b≤1000000000)(hl:len a≤1000000):
 Calls Tryz.prog 31 #[u,.int .u32 (b:Int)] w fun e w'=>∃x,e= .returned (.tuple #[x,.int .u32 ((a%b:Nat):Int)])∧Nv w' x (a/b)∧Below w.heap.size w w':=by
 obtain⟨A,c,rfl,h1,h2⟩:=hu.open_;obtain⟨k,hk⟩:=(Lm.natShort a b h0 hb (Nat.le_trans hl (by omega))).ex;refine(spec_natShort.calls k A c (Lm.lim a) _ _ _ w h2 h1 hk).mono ?_;rintro e w' ⟨x,rfl,hR,hb⟩;exact⟨x,rfl,Nv.of hR,hb⟩
theorem natFrom_is(n:Nat)(w:World)(hn:n<18446744073709551616):
 Calls Tryz.prog 28 #[.int .u64 (n:Int)] w fun e w'=>∃x,e= .returned x∧Nv w' x n∧Below w.heap.size w w':=by
 obtain⟨k,hk⟩:=(Lm.natFrom n hn).ex;refine(spec_NatFrom.calls k _ _ w hk).mono ?_;rintro e w' ⟨x,rfl,hR,hb⟩;exact⟨x,rfl,Nv.ofR hR,hb⟩
theorem pow10_is(n:Nat)(w:World)(hn:n≤1000000):
 Calls Tryz.prog 70 #[.int .i64 (n:Int)] w fun e w'=>∃x,e= .returned x∧Nv w' x (10^n)∧Below w.heap.size w w':=by
 obtain⟨k,hk⟩:=(Lm.pow10 n hn).ex;refine(spec_Pow10.calls k _ _ w hk).mono ?_;rintro e w' ⟨x,rfl,hR,hb⟩;exact⟨x,rfl,Nv.ofR hR,hb⟩
theorem natString_is(n:Nat)(u:Value)(w:World)(hu:Nv w u n)(hl:len n≤1000000):
 Calls Tryz.prog 7 #[u] w fun e w'=>e= .returned (.string (Lm.decimal n))∧Below w.heap.size w w':=by
 obtain⟨A,c,rfl,h1,h2⟩:=hu.open_;obtain⟨k,hk⟩:=(Lm.natString n (by have:=hl;unfold len at this;omega)).ex;exact spec_Nat_String.calls k A c (Lm.lim n) _ w h2 h1 hk
theorem len_pow10(p:Nat):len (10^p)≤p+1:=by
 refine Lm.len_le (Nat.lt_of_lt_of_le (Nat.pow_lt_pow_right (by omega) (Nat.lt_succ_self p)) (Nat.pow_le_pow_left (by omega) _))
theorem one_is(w:World):Calls Tryz.prog 74 #[] w fun e w'=>∃x,e= .returned x∧Nv w' x 1∧Below w.heap.size w w':=by
 refine(spec_one.calls (Lm.lim 1) w (by unfold spec_one.f;rw[Lm.lim_pos (by omega),show 1/1000000000=0 by omega,Lm.lim_zero];rfl)).mono ?_;rintro e w' ⟨x,rfl,hR,hb⟩;exact⟨x,rfl,Nv.ofR hR,hb⟩
end Go.Proofs.YthlakefgobflnaaGreatDoor.R
namespace Go.Proofs.YthlakefgobflnaaGreatDoor.R
open Go.Proofs.YthlakefgobflnaaGreatDoor.G Go.RowKit Go.Proofs.YthlakefgobflnaaGreatDoorW.PrintWords Go.Proofs.YthlakefgobflnaaGreatDoorW.PrintLast Go.Proofs.YthlakefgobflnaaGreatDoorW.PrintMore Go.Proofs.YthlakefgobflnaaGreatDoor.S
set_option linter.unusedVariables false
set_option linter.unusedSimpArgs false
set_option maxRecDepth 100000 in
theorem wholeOf_is(b:Bool)(n:Nat)(v:Value)(w:World)(hv:Nv w v n):
 Calls Tryz.prog 44 #[.bool b,v] w fun e w'=>∃x,e= .returned (.agg #[.bool (Lm.sg b n),x])∧Nv w' x n∧Below w.heap.size w w':=by
 obtain⟨A,c,rfl,h1,h2⟩:=hv.open_;have HV:=ak hv;have HB:=ak (Below.refl w.heap.size w);have hs:(b&&decide (0<len n))=Lm.sg b n:=by
  unfold Lm.sg len
  congr 1
  rw[decide_eq_decide];have:=Lm.len_zero (n:=n);omega
 have HS:=ak hs;clear hv h1 h2 hs
 go_enter Tryz.func44,Tryz.ntmps44
 go_wp2_with fail
 all_goals
  refine bodyPost_ret (results_cell_row rfl _ _ _ 32 _ (0,0) _ rfl (blk_new w _) Tryz.underlying32 rfl (by kernel_rfl)) rfl ?_;refine⟨_,congrArg (fun q=>Ending.returned (.agg #[.bool q,_])) ?_,HV.out.below (below_alloc HB.out _),below_alloc HB.out _⟩;rw[←HS.out]
  simp_all
theorem sg_neg(z:Int):Lm.sg (!decide (z<0)) z.natAbs=decide (-z<0):=by
 unfold Lm.sg;by_cases h:z<0
 ·rw[decide_eq_true h,decide_eq_false (show¬(-z<0) by omega)];rfl
 ·rw[decide_eq_false h];by_cases h0:z=0
  ·subst h0;rfl
  ·rw[decide_eq_true (show z.natAbs≠0 by omega),decide_eq_true (show-z<0 by omega)];rfl
set_option maxRecDepth 100000 in
theorem wholeMinus_is(z:Int)(v:Value)(w:World)(hv:Nv w v z.natAbs):
 Calls Tryz.prog 24 #[.agg #[.bool (decide (z<0)),v]] w fun e w'=>∃x,e= .returned (.agg #[.bool (decide (-z<0)),x])∧Nv w' x z.natAbs∧Below w.heap.size w w':=by
 have HV:=ak hv;have HB:=ak (Below.refl w.heap.size w);have HN:=ak (sg_neg z);clear hv;generalize decide (z<0)=b at*
 go_enter Tryz.func24,Tryz.ntmps24
 go_wp2_with fail
 generalize hW:(w.alloc _).alloc _=W;obtain⟨b0,b1,hb0,-⟩:=alloc2 hW;have B1:=ak b1;have HB0:=ak hb0;clear hW b0 b1 hb0;refine(wholeOf_is (!b) z.natAbs v W (HV.out.below HB0.out)).mono ?_;rintro e w2 ⟨x,rfl,hx,hb2⟩;have B2:=ak (blk_below B1.out hb2);have HB2:=ak (below_step HB0.out hb2);have HX:=ak hx;obtain⟨A,c,rfl,-⟩:=hx;clear hb2 B1 HB0;obtain⟨c0,zc0,c1,zc1⟩:=rf2 B2.out
 go_wp2_with fail
 obtain⟨f1,f2,f3⟩:=put2 B2.out HB2.out (Nat.le_succ _) (Eq.refl _);refine bodyPost_ret (results_cell_row rfl _ _ _ 32 _ (0,0) _ rfl f1 Tryz.underlying32 rfl (by kernel_rfl)) rfl ?_;exact⟨_,congrArg (fun q=>Ending.returned (.agg #[.bool q,_])) HN.out,f3 _ _ HX.out,f2⟩
theorem len_add(a b m:Nat)(ha:len a≤m)(hb:len b≤m):len (a+b)≤m+1:=by
 refine Lm.len_le ?_;have h1:=Lm.lt_of_len ha;have h2:=Lm.lt_of_len hb;rw[Nat.pow_succ];omega
theorem add_same(x y:Int)(b1 b2:Bool)(h1:decide (x<0)=b1)(h2:decide (y<0)=b2)(h:(b1==b2)=true):x.natAbs+y.natAbs=(x+y).natAbs∧Lm.sg b1 (x.natAbs+y.natAbs)=decide (x+y<0):=by
 subst h1 h2;have h:decide (x<0)=decide (y<0):=by simpa using h
 rw[decide_eq_decide]at h;unfold Lm.sg;refine⟨by omega,?_⟩;rw[←Bool.decide_and,decide_eq_decide];omega
theorem add_ge(x y:Int)(b1 b2:Bool)(h1:decide (x<0)=b1)(h2:decide (y<0)=b2)(h:(b1==b2)=false)(hc:y.natAbs≤x.natAbs):x.natAbs-y.natAbs=(x+y).natAbs∧Lm.sg b1 (x.natAbs-y.natAbs)=decide (x+y<0):=by
 subst h1 h2;have h: ¬(decide (x<0)=decide (y<0)):=by simpa using h
 rw[decide_eq_decide]at h;unfold Lm.sg;refine⟨by omega,?_⟩;rw[←Bool.decide_and,decide_eq_decide];omega
theorem add_lt(x y:Int)(b1 b2:Bool)(h1:decide (x<0)=b1)(h2:decide (y<0)=b2)(h:(b1==b2)=false)(hc: ¬y.natAbs≤x.natAbs):y.natAbs-x.natAbs=(x+y).natAbs∧Lm.sg b2 (y.natAbs-x.natAbs)=decide (x+y<0):=by
 subst h1 h2;have h: ¬(decide (x<0)=decide (y<0)):=by simpa using h
 rw[decide_eq_decide]at h;unfold Lm.sg;refine⟨by omega,?_⟩;rw[←Bool.decide_and,decide_eq_decide];omega
set_option maxRecDepth 100000 in
theorem wholeAdd_is(x y:Int)(u v:Value)(w:World)(hu:Nv w u x.natAbs)(hv:Nv w v y.natAbs)(hl:len x.natAbs≤1000)(hm:len y.natAbs≤1000):
 Calls Tryz.prog 23 #[.agg #[.bool (decide (x<0)),u],.agg #[.bool (decide (y<0)),v]] w fun e w'=>∃r,e= .returned (.agg #[.bool (decide (x+y<0)),r])∧Nv w' r (x+y).natAbs∧Below w.heap.size w w':=by
 obtain⟨A1,c1,rfl,-⟩:=id hu;obtain⟨A2,c2,rfl,-⟩:=id hv;have HU:=ak hu;have HV:=ak hv;have HL:=ak (And.intro hl hm);obtain⟨b1,hb1⟩: ∃b1,decide (x<0)=b1:=⟨_,rfl⟩
 obtain⟨b2,hb2⟩: ∃b2,decide (y<0)=b2:=⟨_,rfl⟩
 have HS:=ak (And.intro hb1 hb2);rw[hb1,hb2];clear hu hv hl hm hb1 hb2
 go_enter Tryz.func23,Tryz.ntmps23
 cases hbb:(b1==b2)with
 |true=>
  go_wp2_with fail
  generalize hW:((w.alloc _).alloc _).alloc _=W;obtain⟨k0,k1,k2,k3,-⟩:=alloc3 hW;have B0:=ak k0;have B1:=ak k1;have B2:=ak k2;have HB:=ak k3;clear hW k0 k1 k2 k3;refine sta (fun w'=>C2 w' w.heap.size (.bool b1) (.slice A1 (len x.natAbs) c1)∧C2 w' (w.heap.size+1) (.bool b2) (.slice A2 (len y.natAbs) c2)) [8] ⟨C2.of B0.out,C2.of B1.out⟩ (fun hHeld=>?_);repeat(first|refine pu 0 ?_|refine tk 0 hHeld ?_)
  refine cl Tryz.func5 #[.slice A1 (len x.natAbs) c1,.slice A2 (len y.natAbs) c2] ?_
  refine(natAdd_is x.natAbs y.natAbs _ _ _ (HU.out.below (below_drew HB.out)) (HV.out.below (below_drew HB.out)) (Nat.le_trans (len_add _ _ 1000 HL.out.1 HL.out.2) (by omega))).mono ?_;rintro e w3 ⟨r,rfl,hr,hb⟩;have hb:=below_then (below_drew (Below.refl _ W)) (Nat.le_refl _) hb;have B0':=ak (blk_below B0.out hb);have B1':=ak (blk_below B1.out hb);have B2':=ak (blk_below B2.out hb);have HB':=ak (below_step HB.out hb);clear hb B0 B1 B2 HB hHeld;refine⟨_,rfl,⟨C2.of B0'.out,C2.of B1'.out⟩,fun hHeld=>?_⟩;refine cl Tryz.func44 #[.bool b1,r] ?_
  refine(wholeOf_is b1 _ r _ hr).mono ?_;rintro e w4 ⟨r',rfl,hr',hb⟩;obtain⟨A,c,rfl,-⟩:=id hr';have HR:=ak hr';have B2:=ak (blk_below B2'.out hb);have HB:=ak (below_step HB'.out hb);refine⟨_,rfl,⟨C2.of (blk_below B0'.out hb),C2.of (blk_below B1'.out hb)⟩,fun hHeld=>?_⟩;clear hr hr' hb B0' B1' B2' HB' hHeld;obtain⟨f0,zf0,f1,zf1⟩:=rf2 B2.out;refine la (fun K hK=>?_);go_simp;refine hK.out _ _ ?_;clear hK K;refine done_ (by kernel_rfl) ?_;obtain⟨q1,q2,q3⟩:=put2 B2.out HB.out (by omega) (Eq.refl _)
  go_wp2_with fail
  refine bodyPost_ret (results_cell_row rfl _ _ _ 32 _ (0,0) _ rfl q1 Tryz.underlying32 rfl (by kernel_rfl)) rfl ?_;have e:=add_same x y b1 b2 HS.out.1 HS.out.2 hbb;exact⟨_,congrArg (fun q=>Ending.returned (.agg #[.bool q,_])) e.2,e.1▸q3 _ _ HR.out,q2⟩
 |false=>
  go_wp2_with fail
  generalize hW:((w.alloc _).alloc _).alloc _=W;obtain⟨k0,k1,k2,k3,-⟩:=alloc3 hW;have B0:=ak k0;have B1:=ak k1;have B2:=ak k2;have HB:=ak k3;clear hW k0 k1 k2 k3;refine(natCmp_is' x.natAbs y.natAbs _ _ _ (HU.out.below HB.out) (HV.out.below HB.out) (Nat.le_trans HL.out.1 (by omega))).mono ?_;rintro e w2 ⟨rfl,hb⟩;have k0:=blk_below B0.out hb;have k1:=blk_below B1.out hb;have k2:=blk_below B2.out hb;have k3:=below_step HB.out hb;clear hb B0 B1 B2 HB;have B0:=ak k0;have B1:=ak k1;have B2:=ak k2;have HB:=ak k3;clear k0 k1 k2 k3;by_cases hc:y.natAbs≤x.natAbs
  ·have hcm:decide (Lm.cmp x.natAbs y.natAbs≥0)=true:=decide_eq_true (by unfold Lm.cmp;split<;>(try split)<;>omega)
   go_wp2_with fail
   clear hcm;refine sta (fun w'=>C2 w' w.heap.size (.bool b1) (.slice A1 (len x.natAbs) c1)∧C2 w' (w.heap.size+1) (.bool b2) (.slice A2 (len y.natAbs) c2)) [8] ⟨C2.of B0.out,C2.of B1.out⟩ (fun hHeld=>?_);repeat(first|refine pu 0 ?_|refine tk 0 hHeld ?_)
   refine cl Tryz.func34 #[.slice A1 (len x.natAbs) c1,.slice A2 (len y.natAbs) c2] ?_
   refine(natSub_is x.natAbs y.natAbs _ _ _ (HU.out.below (below_drew HB.out)) (HV.out.below (below_drew HB.out)) hc (Nat.le_trans HL.out.1 (by omega))).mono ?_;rintro e w3 ⟨r,rfl,hr,hb⟩;have hb:=below_then (below_drew (Below.refl _ _)) (Nat.le_refl _) hb;have B0':=ak (blk_below B0.out hb);have B1':=ak (blk_below B1.out hb);have B2':=ak (blk_below B2.out hb);have HB':=ak (below_step HB.out hb);clear hb B0 B1 B2 HB hHeld;refine⟨_,rfl,⟨C2.of B0'.out,C2.of B1'.out⟩,fun hHeld=>?_⟩;refine cl Tryz.func44 #[.bool b1,r] ?_
   refine(wholeOf_is b1 _ r _ hr).mono ?_;rintro e w4 ⟨r',rfl,hr',hb⟩;obtain⟨A,c,rfl,-⟩:=id hr';have HR:=ak hr';have B2:=ak (blk_below B2'.out hb);have HB:=ak (below_step HB'.out hb);refine⟨_,rfl,⟨C2.of (blk_below B0'.out hb),C2.of (blk_below B1'.out hb)⟩,fun hHeld=>?_⟩;clear hr hr' hb B0' B1' B2' HB' hHeld;obtain⟨f0,zf0,f1,zf1⟩:=rf2 B2.out;refine la (fun K hK=>?_);go_simp;refine hK.out _ _ ?_;clear hK K;refine done_ (by kernel_rfl) ?_;obtain⟨q1,q2,q3⟩:=put2 B2.out HB.out (by omega) (Eq.refl _)
   go_wp2_with fail
   refine bodyPost_ret (results_cell_row rfl _ _ _ 32 _ (0,0) _ rfl q1 Tryz.underlying32 rfl (by kernel_rfl)) rfl ?_;have e:=add_ge x y b1 b2 HS.out.1 HS.out.2 hbb hc;exact⟨_,congrArg (fun q=>Ending.returned (.agg #[.bool q,_])) e.2,e.1▸q3 _ _ HR.out,q2⟩
  ·have hcm:decide (Lm.cmp x.natAbs y.natAbs≥0)=false:=decide_eq_false (by unfold Lm.cmp;split<;>(try split)<;>omega)
   go_wp2_with fail
   clear hcm;refine sta (fun w'=>C2 w' w.heap.size (.bool b1) (.slice A1 (len x.natAbs) c1)∧C2 w' (w.heap.size+1) (.bool b2) (.slice A2 (len y.natAbs) c2)) [8] ⟨C2.of B0.out,C2.of B1.out⟩ (fun hHeld=>?_);repeat(first|refine pu 0 ?_|refine tk 0 hHeld ?_)
   refine cl Tryz.func34 #[.slice A2 (len y.natAbs) c2,.slice A1 (len x.natAbs) c1] ?_
   refine(natSub_is y.natAbs x.natAbs _ _ _ (HV.out.below (below_drew HB.out)) (HU.out.below (below_drew HB.out)) (by omega) (Nat.le_trans HL.out.2 (by omega))).mono ?_;rintro e w3 ⟨r,rfl,hr,hb⟩;have hb:=below_then (below_drew (Below.refl _ _)) (Nat.le_refl _) hb;have B0':=ak (blk_below B0.out hb);have B1':=ak (blk_below B1.out hb);have B2':=ak (blk_below B2.out hb);have HB':=ak (below_step HB.out hb);clear hb B0 B1 B2 HB hHeld;refine⟨_,rfl,⟨C2.of B0'.out,C2.of B1'.out⟩,fun hHeld=>?_⟩;refine cl Tryz.func44 #[.bool b2,r] ?_
   refine(wholeOf_is b2 _ r _ hr).mono ?_;rintro e w4 ⟨r',rfl,hr',hb⟩;obtain⟨A,c,rfl,-⟩:=id hr';have HR:=ak hr';have B2:=ak (blk_below B2'.out hb);have HB:=ak (below_step HB'.out hb);refine⟨_,rfl,⟨C2.of (blk_below B0'.out hb),C2.of (blk_below B1'.out hb)⟩,fun hHeld=>?_⟩;clear hr hr' hb B0' B1' B2' HB' hHeld;obtain⟨f0,zf0,f1,zf1⟩:=rf2 B2.out;refine la (fun K hK=>?_);go_simp;refine hK.out _ _ ?_;clear hK K;refine done_ (by kernel_rfl) ?_;obtain⟨q1,q2,q3⟩:=put2 B2.out HB.out (by omega) (Eq.refl _)
   go_wp2_with fail
   refine bodyPost_ret (results_cell_row rfl _ _ _ 32 _ (0,0) _ rfl q1 Tryz.underlying32 rfl (by kernel_rfl)) rfl ?_;have e:=add_lt x y b1 b2 HS.out.1 HS.out.2 hbb hc;exact⟨_,congrArg (fun q=>Ending.returned (.agg #[.bool q,_])) e.2,e.1▸q3 _ _ HR.out,q2⟩
end Go.Proofs.YthlakefgobflnaaGreatDoor.R
namespace Go.Proofs.YthlakefgobflnaaGreatDoor.R
open Go.Proofs.YthlakefgobflnaaGreatDoor.G Go.RowKit Go.Proofs.YthlakefgobflnaaGreatDoorW.PrintWords Go.Proofs.YthlakefgobflnaaGreatDoorW.PrintLast Go.Proofs.YthlakefgobflnaaGreatDoorW.PrintMore Go.Proofs.YthlakefgobflnaaGreatDoor.S
set_option linter.unusedVariables false
set_option linter.unusedSimpArgs false
theorem mul_sg(x y:Int)(b1 b2:Bool)(h1:decide (x<0)=b1)(h2:decide (y<0)=b2):x.natAbs*y.natAbs=(x*y).natAbs∧Lm.sg (b1 != b2) (x.natAbs*y.natAbs)=decide (x*y<0):=by
 subst h1 h2;refine⟨(Int.natAbs_mul x y).symm,?_⟩;unfold Lm.sg;by_cases hx:x=0
 ·subst hx;simp
 by_cases hy:y=0
 ·subst hy;simp
 have hn:x.natAbs*y.natAbs≠0:=Nat.mul_ne_zero (by omega) (by omega);rw[decide_eq_true hn,Bool.and_true];rcases Int.lt_or_gt_of_ne hx with h|h<;>rcases Int.lt_or_gt_of_ne hy with h'|h'
 ·rw[decide_eq_true h,decide_eq_true h',decide_eq_false (by have:=Int.mul_pos_of_neg_of_neg h h';omega)];rfl
 ·rw[decide_eq_true h,decide_eq_false (show¬y<0 by omega),decide_eq_true (Int.mul_neg_of_neg_of_pos h h')];rfl
 ·rw[decide_eq_false (show¬x<0 by omega),decide_eq_true h',decide_eq_true (Int.mul_neg_of_pos_of_neg h h')];rfl
 ·rw[decide_eq_false (show¬x<0 by omega),decide_eq_false (show¬y<0 by omega),decide_eq_false (by have:=Int.mul_pos h h';omega)];rfl
set_option maxRecDepth 100000 in
set_option maxHeartbeats 1000000 in
theorem wholeMul_is(x y:Int)(u v:Value)(w:World)(hu:Nv w u x.natAbs)(hv:Nv w v y.natAbs)(hl:len x.natAbs+len y.natAbs≤1000000):
 Calls Tryz.prog 72 #[.agg #[.bool (decide (x<0)),u],.agg #[.bool (decide (y<0)),v]] w fun e w'=>∃r,e= .returned (.agg #[.bool (decide (x*y<0)),r])∧Nv w' r (x*y).natAbs∧Below w.heap.size w w':=by
 obtain⟨A1,c1,rfl,-⟩:=id hu;obtain⟨A2,c2,rfl,-⟩:=id hv;have NU:=ak hu;have NV:=ak hv;have HL:=ak hl;obtain⟨b1,hb1⟩: ∃b1,decide (x<0)=b1:=⟨_,rfl⟩
 obtain⟨b2,hb2⟩: ∃b2,decide (y<0)=b2:=⟨_,rfl⟩
 have HS:=ak (And.intro hb1 (hb2));rw[hb1,hb2];clear hb1 hb2;clear hu hv hl
 go_enter Tryz.func72,Tryz.ntmps72
 go_wp2_with fail
 generalize hW:((w.alloc _).alloc _).alloc _=W;obtain⟨k0,k1,k2,k3,-⟩:=alloc3 hW;have B0:=ak k0;have B1:=ak k1;have B2:=ak k2;have HB:=ak k3;have q:=NU.out.below HB.out;clear NU;have NU:=ak q;clear q;have q:=NV.out.below HB.out;clear NV;have NV:=ak q;clear q;clear hW k0 k1 k2 k3;refine sta (fun w'=>C2 w' (w.heap.size) (.bool b1) (.slice A1 (len x.natAbs) c1)∧C2 w' (w.heap.size+1) (.bool b2) (.slice A2 (len y.natAbs) c2)) [11] ⟨C2.of B0.out,C2.of B1.out⟩ (fun hHeld=>?_);repeat(first|refine pu 0 ?_|refine tk 0 hHeld ?_|refine pu 1 ?_|refine tk 1 hHeld ?_|refine pu 2 ?_|refine tk 2 hHeld ?_|refine pu 3 ?_|refine tk 3 hHeld ?_)
 refine cl Tryz.func29 #[.slice A1 (len x.natAbs) c1,.slice A2 (len y.natAbs) c2] ?_
 refine(natMul_is x.natAbs y.natAbs _ _ _ (NU.out.below (below_drew (Below.refl _ _))) (NV.out.below (below_drew (Below.refl _ _))) HL.out).mono ?_;rintro e w9 ⟨r,rfl,hr,hb⟩;have hb:=below_then (below_drew (Below.refl _ _)) (Nat.le_refl _) hb;clear hHeld;have k0:=blk_below B0.out hb;have k1:=blk_below B1.out hb;have k2:=blk_below B2.out hb;have k3:=below_step HB.out hb;have k4:=NU.out.below hb;have k5:=NV.out.below hb;clear B0 B1 B2 HB NU NV;have B0:=ak k0;have B1:=ak k1;have B2:=ak k2;have HB:=ak k3;have NU:=ak k4;have NV:=ak k5;clear k0 k1 k2 k3 k4 k5;have NR:=ak hr;clear hb hr;refine⟨_,rfl,⟨C2.of B0.out,C2.of B1.out⟩,fun hHeld=>?_⟩;repeat(first|refine pu 0 ?_|refine tk 0 hHeld ?_|refine pu 1 ?_|refine tk 1 hHeld ?_|refine pu 2 ?_|refine tk 2 hHeld ?_|refine pu 3 ?_|refine tk 3 hHeld ?_)
 refine cl Tryz.func44 #[.bool (b1 != b2),r] ?_
 refine(wholeOf_is (b1 != b2) _ r _ NR.out).mono ?_;rintro e w9 ⟨r',rfl,hr',hb⟩;clear hHeld;have k0:=blk_below B0.out hb;have k1:=blk_below B1.out hb;have k2:=blk_below B2.out hb;have k3:=below_step HB.out hb;have k4:=NU.out.below hb;have k5:=NV.out.below hb;have k6:=NR.out.below hb;clear B0 B1 B2 HB NU NV NR;have B0:=ak k0;have B1:=ak k1;have B2:=ak k2;have HB:=ak k3;have NU:=ak k4;have NV:=ak k5;have NR:=ak k6;clear k0 k1 k2 k3 k4 k5 k6;have NQ:=ak hr';obtain⟨A,c,rfl,-⟩:=id hr';clear hb hr';refine⟨_,rfl,⟨C2.of B0.out,C2.of B1.out⟩,fun hHeld=>?_⟩;repeat(first|refine pu 0 ?_|refine tk 0 hHeld ?_|refine pu 1 ?_|refine tk 1 hHeld ?_|refine pu 2 ?_|refine tk 2 hHeld ?_|refine pu 3 ?_|refine tk 3 hHeld ?_)
 obtain⟨f0,zf0,f1,zf1⟩:=rf2 B2.out;refine la (fun K hK=>?_);go_simp;refine hK.out _ _ ?_;clear hK K hHeld;refine done_ (by kernel_rfl) ?_;obtain⟨q1,q2,q3⟩:=put2 B2.out HB.out (by omega) (Eq.refl _)
 go_wp2_with fail
 refine bodyPost_ret (results_cell_row rfl _ _ _ 32 _ (0,0) _ rfl q1 Tryz.underlying32 rfl (by kernel_rfl)) rfl ?_;have e:=mul_sg x y b1 b2 HS.out.1 HS.out.2;exact⟨_,congrArg (fun q=>Ending.returned (.agg #[.bool q,_])) e.2,e.1▸q3 _ _ NQ.out,q2⟩
def cmpZ(x y:Int):Int:=if x<y then-1 else if x=y then 0 else 1
theorem cmpZ_p(x y:Int)(h1: ¬x<0)(h2: ¬y<0):Lm.cmp x.natAbs y.natAbs=cmpZ x y:=by
 unfold Lm.cmp cmpZ;by_cases h:x<y
 ·rw[if_pos h,if_pos (by omega)]
 ·rw[if_neg h,if_neg (by omega)];by_cases e:x=y
  ·rw[if_pos e,if_pos (by omega)]
  ·rw[if_neg e,if_neg (by omega)]
theorem cmpZ_n(x y:Int)(h1:x<0)(h2:y<0):Lm.cmp y.natAbs x.natAbs=cmpZ x y:=by
 unfold Lm.cmp cmpZ;by_cases h:x<y
 ·rw[if_pos h,if_pos (by omega)]
 ·rw[if_neg h,if_neg (by omega)];by_cases e:x=y
  ·rw[if_pos e,if_pos (by omega)]
  ·rw[if_neg e,if_neg (by omega)]
set_option maxRecDepth 100000 in
set_option maxHeartbeats 1000000 in
theorem wholeCmp_is(x y:Int)(u v:Value)(w:World)(hu:Nv w u x.natAbs)(hv:Nv w v y.natAbs)(hl:len x.natAbs≤1000000)(hm:len y.natAbs≤1000000):
 Calls Tryz.prog 49 #[.agg #[.bool (decide (x<0)),u],.agg #[.bool (decide (y<0)),v]] w fun e w'=>e= .returned (.int .i64 (cmpZ x y))∧Below w.heap.size w w':=by
 obtain⟨A1,c1,rfl,-⟩:=id hu;obtain⟨A2,c2,rfl,-⟩:=id hv;have NU:=ak hu;have NV:=ak hv;have HL:=ak (And.intro hl hm);clear hu hv hl hm;by_cases hx:x<0
 ·by_cases hy:y<0
  ·simp only[hx,hy,decide_true,decide_false];have HC:=ak (And.intro hx hy);clear hx hy
   go_enter Tryz.func49,Tryz.ntmps49
   go_wp2_with fail
   generalize hW:(w.alloc _).alloc _=W;obtain⟨k0,k1,k2,-⟩:=alloc2 hW;have B0:=ak k0;have B1:=ak k1;have HB:=ak k2;have q:=NU.out.below HB.out;clear NU;have NU:=ak q;clear q;have q:=NV.out.below HB.out;clear NV;have NV:=ak q;clear q;clear hW k0 k1 k2;refine(natCmp_is' y.natAbs x.natAbs _ _ _ NV.out NU.out HL.out.2).mono ?_;rintro e w9 ⟨rfl,hb⟩;have HB':=ak (below_step HB.out hb);clear hb
   go_wp2_with fail
   go_ret
   exact⟨congrArg (fun q=>Ending.returned (.int .i64 q)) (cmpZ_n x y (by have:=HC.out.1;omega) (by have:=HC.out.2;omega)),HB'.out⟩
  ·simp only[hx,hy,decide_true,decide_false];have HC:=ak (And.intro hx hy);clear hx hy
   go_enter Tryz.func49,Tryz.ntmps49
   go_wp2_with fail
   go_ret
   exact⟨congrArg (fun q=>Ending.returned (.int .i64 q)) (by unfold cmpZ;have:=HC.out;rw[if_pos (by omega)]),below_alloc (below_alloc (Below.refl _ _) _) _⟩
 ·by_cases hy:y<0
  ·simp only[hx,hy,decide_true,decide_false];have HC:=ak (And.intro hx hy);clear hx hy
   go_enter Tryz.func49,Tryz.ntmps49
   go_wp2_with fail
   go_ret
   exact⟨congrArg (fun q=>Ending.returned (.int .i64 q)) (by unfold cmpZ;have:=HC.out;rw[if_neg (by omega),if_neg (by omega)]),below_alloc (below_alloc (Below.refl _ _) _) _⟩
  ·simp only[hx,hy,decide_true,decide_false];have HC:=ak (And.intro hx hy);clear hx hy
   go_enter Tryz.func49,Tryz.ntmps49
   go_wp2_with fail
   generalize hW:(w.alloc _).alloc _=W;obtain⟨k0,k1,k2,-⟩:=alloc2 hW;have B0:=ak k0;have B1:=ak k1;have HB:=ak k2;have q:=NU.out.below HB.out;clear NU;have NU:=ak q;clear q;have q:=NV.out.below HB.out;clear NV;have NV:=ak q;clear q;clear hW k0 k1 k2;refine(natCmp_is' x.natAbs y.natAbs _ _ _ NU.out NV.out HL.out.1).mono ?_;rintro e w9 ⟨rfl,hb⟩;have HB':=ak (below_step HB.out hb);clear hb
   go_wp2_with fail
   go_ret
   exact⟨congrArg (fun q=>Ending.returned (.int .i64 q)) (cmpZ_p x y (by have:=HC.out.1;omega) (by have:=HC.out.2;omega)),HB'.out⟩
set_option maxRecDepth 100000 in
set_option maxHeartbeats 1000000 in
theorem wholeOfInt_is(n:Nat)(w:World)(hn:n<9223372036854775808):
 Calls Tryz.prog 22 #[.int .i64 (n:Int)] w fun e w'=>∃r,e= .returned (.agg #[.bool false,r])∧Nv w' r n∧Below w.heap.size w w':=by
 have hu:IntKind.u64.wrap (n:Int)=(n:Int):=by simp[IntKind.wrap,IntKind.bits,IntKind.signed];omega
 have h0:decide ((n:Int)<0)=false:=decide_eq_false (by omega);have h0': ¬((n:Int)<0):=by omega
 have HQ:=ak (fun w0=>natFrom_is n w0 (by omega));clear hn
 go_enter Tryz.func22,Tryz.ntmps22
 go_wp2_with fail
 generalize hW:w.alloc _=W;obtain⟨k0,k1,-⟩:=alloc1 hW;have B0:=ak k0;have HB:=ak k1;clear hW k0 k1;refine(HQ.out W).mono ?_;rintro e w9 ⟨r,rfl,hr,hb⟩;have k0:=blk_below B0.out hb;have k1:=below_step HB.out hb;clear B0 HB;have B0:=ak k0;have HB:=ak k1;clear k0 k1;have NR:=ak hr;obtain⟨A,c,rfl,-⟩:=id hr;clear hr hb;obtain⟨f0,zf0,f1,zf1⟩:=rf2 B0.out
 go_wp2_with fail
 obtain⟨q1,q2,q3⟩:=put2 B0.out HB.out (by omega) (Eq.refl _)
 go_wp2_with fail
 refine bodyPost_ret (results_cell_row rfl _ _ _ 32 _ (0,0) _ rfl q1 Tryz.underlying32 rfl (by kernel_rfl)) rfl ?_;exact⟨_,rfl,q3 _ _ NR.out,q2⟩
set_option maxRecDepth 100000 in
set_option maxHeartbeats 1000000 in
theorem wholeFrom_is(n:Nat)(w:World)(hn:n<9223372036854775808):
 Calls Tryz.prog 71 #[.int .i64 (n:Int)] w fun e w'=>∃r,e= .returned (.agg #[.bool false,r])∧Nv w' r n∧Below w.heap.size w w':=by
 have HQ:=ak (fun w0=>wholeOfInt_is n w0 hn);clear hn
 go_enter Tryz.func71,Tryz.ntmps71
 go_wp2_with fail
 generalize hW:w.alloc _=W;obtain⟨k0,k1,-⟩:=alloc1 hW;have B0:=ak k0;have HB:=ak k1;clear hW k0 k1;refine(HQ.out W).mono ?_;rintro e w9 ⟨r,rfl,hr,hb⟩;have k0:=blk_below B0.out hb;have k1:=below_step HB.out hb;clear B0 HB;have B0:=ak k0;have HB:=ak k1;clear k0 k1;have NR:=ak hr;obtain⟨A,c,rfl,-⟩:=id hr;clear hr hb;obtain⟨f0,zf0,f1,zf1⟩:=rf2 B0.out
 go_wp2_with fail
 obtain⟨q1,q2,q3⟩:=put2 B0.out HB.out (by omega) (Eq.refl _)
 go_wp2_with fail
 refine bodyPost_ret (results_cell_row rfl _ _ _ 32 _ (0,0) _ rfl q1 Tryz.underlying32 rfl (by kernel_rfl)) rfl ?_;exact⟨_,rfl,q3 _ _ NR.out,q2⟩
end Go.Proofs.YthlakefgobflnaaGreatDoor.R
