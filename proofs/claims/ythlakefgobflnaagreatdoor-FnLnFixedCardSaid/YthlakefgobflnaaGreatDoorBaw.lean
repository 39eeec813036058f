/- CONTRACTS: the package's arithmetic on rows of words. CONTRACTS: the product of two rows of words (basicMul). WHAT THE ROWS' PRODUCTS ARE, as numbers. CONTRACT of nat.make, of a number that has no memory yet. -/
import Derived.Test.YthlakefgobflnaaGreatDoorBav
import Derived.Test.YthlakefgobflnaaGreatDoorBar
import Derived.Test.YthlakefgobflnaaGreatDoorBag
import Derived.Lib.SliceRun
import Derived.Lib.LazyBuf
import Derived.Outline
namespace Go.Proofs.YthlakefgobflnaaGreatDoor.G
open Go.RowKit Go.Proofs.YthlakefgobflnaaGreatDoorW.PrintWords Go.Proofs.YthlakefgobflnaaGreatDoorW.PrintLast Go.Proofs.YthlakefgobflnaaGreatDoorW.PrintMore Go.Proofs.YthlakefgobflnaaGreatDoor.S
set_option linter.unusedVariables false
set_option linter.unusedSimpArgs false
abbrev u64s(l:List Int):List Value:=l.map (fun x=>Value.int .u64 x)
def RowAt(w:World)(g:Nat)(L:List Int):Prop:=w.heap[g]?=some (.cells (u64s L).toArray 81 (0,0))
theorem RowAt.cell{w:World}{g:Nat}{L:List Int}(h:RowAt w g L)(j:Nat)(hj:j<L.length):w.cell? ⟨g,j,none⟩=some (.int .u64 (L.getD j 0)):=by
 refine(blk_cell h j).trans ?_;rw[List.getElem?_toArray,List.getElem?_map,List.getD_eq_getElem?_getD,List.getElem?_eq_getElem hj];rfl
theorem RowAt.set{w:World}{g:Nat}{L:List Int}(h:RowAt w g L)(j:Nat)(x:Int):RowAt (w.setCell ⟨g,j,none⟩ (.int .u64 x)) g (L.set j x):=by
 refine blk_put h j _ ?_;rw[List.setIfInBounds_toArray];show _=(List.map _ (L.set j x)).toArray;rw[List.map_set]
theorem RowAt.below{w w1:World}{g:Nat}{L:List Int}(h:RowAt w g L)(hb:Below w.heap.size w w1):RowAt w1 g L:=blk_below h hb
theorem RowAt.drew{w:World}{g:Nat}{L:List Int}(h:RowAt w g L):RowAt w.drew g L:=h
def mulV(x:List Int)(y r:Nat)(L:List Int):Nat→List Int×Nat
 |0=>(L,r)
 |i+1=>((mulV x y r L i).1.set i ((((x.getD i 0).toNat*y+(mulV x y r L i).2)%18446744073709551616:Nat):Int),((x.getD i 0).toNat*y+(mulV x y r L i).2)/18446744073709551616)
theorem mulV_len(x:List Int)(y r:Nat)(L:List Int)(i:Nat):(mulV x y r L i).1.length=L.length:=by
 induction i with
 |zero=>rfl
 |succ i ih=>unfold mulV;rw[List.length_set,ih]
theorem word_lt{x:List Int}(h:L64.Ok x)(i:Nat):(x.getD i 0).toNat<18446744073709551616:=by
 have:=L64.ok_get h i;omega
theorem carry_lt{a y c:Nat}(ha:a<18446744073709551616)(hy:y<18446744073709551616)(hc:c<18446744073709551616):(a*y+c)/18446744073709551616<18446744073709551616:=by
 have hp:a*y≤18446744073709551615*18446744073709551615:=Nat.mul_le_mul (by omega) (by omega);generalize a*y=p at*;omega
theorem mulV_lt{x:List Int}{y r:Nat}(L:List Int)(hx:L64.Ok x)(hy:y<18446744073709551616)(hr:r<18446744073709551616)(i:Nat):(mulV x y r L i).2<18446744073709551616:=by
 induction i with
 |zero=>exact hr
 |succ i ih=>exact carry_lt (word_lt hx i) hy ih
theorem w64_succ(i:Nat)(h:i<9223372036854775807):wrap64 ((i:Int)+1)=((i+1:Nat):Int):=by unfold wrap64;omega
set_option maxRecDepth 100000 in
theorem mulAddVWW_g_is(ws:World)(g cz:Nat)(L x:List Int)(A:Option Addr)(cx:Nat)(y r:Nat)(w:World)(hB:RowAt w g L)(hs:Below ws.heap.size ws w)(hg:ws.heap.size≤g)(hL:x.length≤L.length)(hm:L.length≤1000000)
 (hC:Kd.C (Kd.int .u64) ws A x.length x) (hx:L64.Ok x) (hy:y<18446744073709551616) (hr:r<18446744073709551616):
 Calls Tryz.prog 158 #[.slice (some ⟨g,0,none⟩) x.length cz,.slice A x.length cx,.int .u64 (y:Int),.int .u64 (r:Int)] w fun e w'=>e= .returned (.int .u64 ((mulV x y r L x.length).2:Int))∧RowAt w' g (mulV x y r L x.length).1∧Below ws.heap.size ws w':=by
 have HR:=ak hB;have HS:=ak hs;have HG:=ak hg;have HL:=ak (And.intro hL hm);have HC:=ak hC;have HX:=ak hx;have HY:=ak hy;have HRr:=ak hr;clear hB hs hg hL hm hC hx hy hr
 go_enter Tryz.func158,Tryz.ntmps158
 go_wp2
 go_loopg [8,19] (x.length) (fun kq v8 v19 w'=>∃(i:Nat),v8= .int .u64 ((mulV x y r L i).2:Int)∧v19= .int .i64 (i:Int)∧Aside0 (i+kq=x.length)∧Aside0 (RowAt w' g (mulV x y r L i).1)∧Aside0 (Below ws.heap.size ws w'))
 case atStart=>exact⟨0,rfl,rfl,⟨Nat.zero_add _⟩,HR,HS⟩
 case round=>
  obtain⟨i,rfl,rfl,HI,HRi,HSi⟩:=hrel;clear HR HS;by_cases c:i<x.length
  ·cases gk with
   |zero=>exact absurd HI.out (by omega)
   |succ k1=>
    obtain⟨ad,rfl,hxi⟩:=Kd.at_int (Kd.C_below HC.out HSi.out) (i:Int) (by omega) (by omega);obtain⟨X,hX⟩: ∃X:Nat,x.getD i 0=(X:Int):=⟨(x.getD i 0).toNat,by have:=L64.ok_get HX.out i;omega⟩
    have hXl:=word_lt HX.out i;have hst:mulV x y r L (i+1)=((mulV x y r L i).1.set i (((X*y+(mulV x y r L i).2)%18446744073709551616:Nat):Int),(X*y+(mulV x y r L i).2)/18446744073709551616):=by rw[mulV,hX,Int.toNat_natCast]
    have hcl:=mulV_lt L HX.out HY.out HRr.out i;have hln:=mulV_len x y r L i;have HLi:=ak (show i<(mulV x y r L i).1.length by rw[hln];have:=HL.out;omega);unfold rd at hxi;rw[Int.toNat_natCast,hX]at hxi;rw[hX,Int.toNat_natCast]at hXl;obtain⟨T,hT⟩: ∃T,mulV x y r L i=T:=⟨_,rfl⟩
    rw[hT]at hst hcl HRi HLi⊢;obtain⟨Li,ci⟩:=T;have HST:=ak hst;have HMu:=ak (fun w0=>mulAddWWW_is X y ci hXl HY.out hcl w0);have c0:decide ((i:Int)<(x.length:Int))=true:=decide_eq_true (by omega);have c1:decide (i<x.length)=true:=decide_eq_true c;clear hst hX hXl hln hT hcl
    go_wp2_with fail
    refine(HMu.out _).mono ?_;rintro e w2 ⟨rfl,hb⟩;have HR2:=ak (HRi.out.below hb);have HS2:=ak (below_step HSi.out hb);clear hb HMu hxi HRi HSi;obtain⟨q,hq⟩: ∃q:Nat,(X*y+ci)/18446744073709551616=q:=⟨_,rfl⟩
    obtain⟨m,hm⟩: ∃m:Int,(((X*y+ci)%18446744073709551616:Nat):Int)=m:=⟨_,rfl⟩
    have h2:=HST.out;rw[hq,hm]at h2⊢;have HST2:=ak h2;have hr:=HR2.out.cell i HLi.out;have hz:=blk_frozen HR2.out i;clear hq hm h2 HST
    go_wp2_with fail
    go_roundg k1
    case measure=>omega
    case rel=>exact⟨i+1,(by rw[HST2.out]),(by first|rfl|(rw[w64_succ i (by have:=HL.out;omega)])),⟨by have:=HI.out;omega⟩,⟨by rw[HST2.out];exact HR2.out.set i m⟩,⟨below_set HS2.out HG.out⟩⟩
  ·have hi:i=x.length:=by have:=HI.out;omega
   subst hi
   go_wp2_with fail
   go_ret
   exact⟨rfl,HRi.out,HSi.out⟩
def addV(y:List Int)(m a off:Nat)(L:List Int):Nat→List Int×Nat
 |0=>(L,a)
 |i+1=>((addV y m a off L i).1.set (off+i) ((((y.getD i 0).toNat*m+((addV y m a off L i).1.getD (off+i) 0).toNat+(addV y m a off L i).2)%18446744073709551616:Nat):Int),((y.getD i 0).toNat*m+((addV y m a off L i).1.getD (off+i) 0).toNat+(addV y m a off L i).2)/18446744073709551616)
theorem addV_len(y:List Int)(m a off:Nat)(L:List Int)(i:Nat):(addV y m a off L i).1.length=L.length:=by
 induction i with
 |zero=>rfl
 |succ i ih=>unfold addV;rw[List.length_set,ih]
theorem addV_ok(y:List Int)(m a off:Nat){L:List Int}(h:L64.Ok L)(i:Nat):L64.Ok (addV y m a off L i).1:=by
 induction i with
 |zero=>exact h
 |succ i ih=>
  unfold addV;exact L64.ok_set ih _ (Int.natCast_nonneg _) (by have:=Nat.mod_lt ((y.getD i 0).toNat*m+((addV y m a off L i).1.getD (off+i) 0).toNat+(addV y m a off L i).2) (show 0<18446744073709551616 by omega);omega)
theorem carry2_lt{a y b c:Nat}(ha:a<18446744073709551616)(hy:y<18446744073709551616)(hb:b<18446744073709551616)(hc:c<18446744073709551616):(a*y+b+c)/18446744073709551616<18446744073709551616:=by
 have hp:a*y≤18446744073709551615*18446744073709551615:=Nat.mul_le_mul (by omega) (by omega);generalize a*y=p at*;omega
theorem addV_lt{y:List Int}{m a:Nat}(off:Nat){L:List Int}(hL:L64.Ok L)(hy:L64.Ok y)(hm:m<18446744073709551616)(ha:a<18446744073709551616)(i:Nat):(addV y m a off L i).2<18446744073709551616:=by
 induction i with
 |zero=>exact ha
 |succ i ih=>exact carry2_lt (word_lt hy i) hm (word_lt (addV_ok y m a off hL i) _) ih
theorem keepT{w w1:World}{a b:Addr}{u v:Value}(hb:Below w.heap.size w w1)(h:w.cell? a=some u∧w.cell? b=some v):w1.cell? a=some u∧w1.cell? b=some v:=
 ⟨(hb.cell (World.block_lt_of_cell? w a h.1)).trans h.1,(hb.cell (World.block_lt_of_cell? w b h.2)).trans h.2⟩
theorem sum2(Y m x c:Nat)(hY:Y<18446744073709551616)(hm:m<18446744073709551616)(hx:x<18446744073709551616)(hc:c<18446744073709551616):
 ∃qh ql lo cc:Int,0≤ql∧(((Y*m+x)/18446744073709551616:Nat):Int)=qh∧(((Y*m+x)%18446744073709551616:Nat):Int)=ql∧(ql+(c:Int))%18446744073709551616=lo∧(ql+(c:Int))/18446744073709551616=cc∧
 (((Y*m+x+c)%18446744073709551616:Nat):Int)=lo∧IntKind.u64.wrap (cc+qh)=(((Y*m+x+c)/18446744073709551616:Nat):Int):=by
 have hp:Y*m≤18446744073709551615*18446744073709551615:=Nat.mul_le_mul (by omega) (by omega);generalize Y*m=p at*;refine⟨_,_,_,_,?_,rfl,rfl,rfl,rfl,?_,?_⟩
 ·omega
 ·omega
 ·rw[IntKind.wrap_u64];omega
set_option maxRecDepth 100000 in
theorem addMulVVWW_g_is(ws:World)(g off cz cz2:Nat)(L y:List Int)(A:Option Addr)(cy:Nat)(m a:Nat)(w:World)(hB:RowAt w g L)(hLo:L64.Ok L)(hs:Below ws.heap.size ws w)(hg:ws.heap.size≤g)(hL:off+y.length≤L.length)(hml:L.length≤1000000)
 (hC:Kd.C (Kd.int .u64) ws A y.length y) (hy:L64.Ok y) (hm:m<18446744073709551616) (ha:a<18446744073709551616):
 Calls Tryz.prog 157 #[.slice (some ⟨g,off,none⟩) y.length cz,.slice (some ⟨g,off,none⟩) y.length cz2,.slice A y.length cy,.int .u64 (m:Int),.int .u64 (a:Int)] w fun e w'=>e= .returned (.int .u64 ((addV y m a off L y.length).2:Int))∧RowAt w' g (addV y m a off L y.length).1∧Below ws.heap.size ws w':=by
 have HR:=ak hB;have HLo:=ak hLo;have HS:=ak hs;have HG:=ak hg;have HL:=ak (And.intro hL hml);have HC:=ak hC;have HX:=ak hy;have HY:=ak hm;have HRr:=ak ha;clear hB hLo hs hg hL hml hC hy hm ha
 go_enter Tryz.func157,Tryz.ntmps157
 go_wp2
 go_loopg [10,32] (y.length) (fun kq v10 v32 w'=>∃(i:Nat),v10= .int .u64 ((addV y m a off L i).2:Int)∧v32= .int .i64 (i:Int)∧Aside0 (i+kq=y.length)∧Aside0 (RowAt w' g (addV y m a off L i).1)∧Aside0 (Below ws.heap.size ws w'))
 case atStart=>exact⟨0,rfl,rfl,⟨Nat.zero_add _⟩,HR,HS⟩
 case round=>
  obtain⟨i,rfl,rfl,HI,HRi,HSi⟩:=hrel;clear HR HS;by_cases c:i<y.length
  ·cases gk with
   |zero=>exact absurd HI.out (by omega)
   |succ k1=>
    obtain⟨ad,rfl,hyi⟩:=Kd.at_int (Kd.C_below HC.out HSi.out) (i:Int) (by omega) (by omega);obtain⟨Y,hY⟩: ∃Y:Nat,y.getD i 0=(Y:Int):=⟨(y.getD i 0).toNat,by have:=L64.ok_get HX.out i;omega⟩
    have hYl:=word_lt HX.out i;have hcl:=addV_lt off HLo.out HX.out HY.out HRr.out i;have hln:=addV_len y m a off L i;have hok:=addV_ok y m a off HLo.out i;have HLi:=ak (show off+i<(addV y m a off L i).1.length by rw[hln];have:=HL.out;omega);have hst:addV y m a off L (i+1)=((addV y m a off L i).1.set (off+i) ((((y.getD i 0).toNat*m+((addV y m a off L i).1.getD (off+i) 0).toNat+(addV y m a off L i).2)%18446744073709551616:Nat):Int),((y.getD i 0).toNat*m+((addV y m a off L i).1.getD (off+i) 0).toNat+(addV y m a off L i).2)/18446744073709551616):=rfl;unfold rd at hyi;rw[Int.toNat_natCast,hY]at hyi;rw[hY,Int.toNat_natCast]at hYl hst;obtain⟨T,hT⟩: ∃T,addV y m a off L i=T:=⟨_,rfl⟩
    rw[hT]at hst hcl HRi HLi hok⊢;obtain⟨Li,ci⟩:=T;obtain⟨x,hx⟩: ∃x:Nat,Li.getD (off+i) 0=(x:Int):=⟨(Li.getD (off+i) 0).toNat,by have:=L64.ok_get (l:=Li) hok (off+i);omega⟩
    have hxl:=word_lt hok (off+i);have hr:=HRi.out.cell (off+i) HLi.out;simp only[]at hst;rw[hx,Int.toNat_natCast]at hxl hst;rw[hx]at hr;obtain⟨qh,ql,lo,cc,hs0,hs1,hs2,hs3,hs4,hs5,hs6⟩:=sum2 Y m x ci hYl HY.out hxl hcl;have HMu:=fun w0=>mulAddWWW_is Y m x hYl HY.out hxl w0
    have HAd:=fun w0=>add_is ql (ci:Int) hs0 (Int.natCast_nonneg _) w0
    rw[hs1,hs2]at HMu;rw[hs3,hs4]at HAd;rw[hs5]at hst;obtain⟨c2,hc2⟩: ∃c2:Nat,(Y*m+x+ci)/18446744073709551616=c2:=⟨_,rfl⟩
    rw[hc2]at hst hs6;have HMu:=ak HMu;have HAd:=ak HAd;have c0:decide ((i:Int)<(y.length:Int))=true:=decide_eq_true (by omega);have c1:decide (i<y.length)=true:=decide_eq_true c;have HST:=ak hst;have H2:=ak hs6;clear hY hYl hln hT hcl hs0 hs1 hs2 hs3 hs4 hs5 hs6 hx hxl hok hst hc2
    go_wp2_with fail
    go_region_held3 (fun w'=>w'.cell? (ad.add i)=some (.int .u64 (Y:Int))∧w'.cell? ⟨g,off+i,none⟩=some (.int .u64 (x:Int))) (first|exact⟨hyi,hr⟩|go_keep|(refine keepT hb4 ?_;assumption))
     (first|(go_at_call 161;refine(HMu.out _).mono ?_;rintro e4 w4 ⟨rfl,hb4⟩;have HR4:=ak (HRi.out.drew.below hb4);have HS4:=ak (below_step (below_drew HSi.out) hb4)))
    try clear hb4
    clear HRi HSi hyi hr
    go_wp2_with fail
    refine(HAd.out _).mono ?_;rintro e w5 ⟨rfl,hb⟩;have HR5:=ak (HR4.out.below hb);have HS5:=ak (below_step HS4.out hb);clear hb HR4 HS4 HAd HMu;have hr:=HR5.out.cell (off+i) HLi.out;have hz:=blk_frozen HR5.out (off+i)
    go_wp2_with fail
    rw[H2.out]
    go_roundg k1
    case measure=>omega
    case rel=>exact⟨i+1,(by rw[HST.out]),(by first|rfl|(rw[w64_succ i (by have:=HL.out;omega)])),⟨by have:=HI.out;omega⟩,⟨by rw[HST.out];exact HR5.out.set (off+i) lo⟩,⟨below_set HS5.out HG.out⟩⟩
  ·have hi:i=y.length:=by have:=HI.out;omega
   subst hi
   go_wp2_with fail
   go_ret
   exact⟨rfl,HRi.out,HSi.out⟩
end Go.Proofs.YthlakefgobflnaaGreatDoor.G
namespace Go.Proofs.YthlakefgobflnaaGreatDoor.G
open Go.RowKit Go.Proofs.YthlakefgobflnaaGreatDoorW.PrintWords Go.Proofs.YthlakefgobflnaaGreatDoorW.PrintLast Go.Proofs.YthlakefgobflnaaGreatDoorW.PrintMore Go.Proofs.YthlakefgobflnaaGreatDoor.S
set_option linter.unusedVariables false
set_option linter.unusedSimpArgs false
set_option maxRecDepth 100000 in
theorem addMulVVWW_is(ws:World)(g off cz cz2:Nat)(L y:List Int)(A:Option Addr)(cy:Nat)(m a:Nat)(w:World)(hB:RowAt w g L)(hLo:L64.Ok L)(hs:Below ws.heap.size ws w)(hg:ws.heap.size≤g)(hL:off+y.length≤L.length)(hml:L.length≤1000000)
 (hC:Kd.C (Kd.int .u64) ws A y.length y) (hy:L64.Ok y) (hm:m<18446744073709551616) (ha:a<18446744073709551616):
 Calls Tryz.prog 143 #[.slice (some ⟨g,off,none⟩) y.length cz,.slice (some ⟨g,off,none⟩) y.length cz2,.slice A y.length cy,.int .u64 (m:Int),.int .u64 (a:Int)] w fun e w'=>e= .returned (.int .u64 ((addV y m a off L y.length).2:Int))∧RowAt w' g (addV y m a off L y.length).1∧Below ws.heap.size ws w':=by
 have HQ:=ak (addMulVVWW_g_is ws g off cz cz2 L y A cy m a w hB hLo hs hg hL hml hC hy hm ha);clear hB hLo hs hg hL hml hC hy hm ha;generalize addV y m a off L y.length=T at*;obtain⟨L',c⟩:=T
 go_enter Tryz.func143,Tryz.ntmps143
 go_wp2_with fail
 refine(HQ.out).mono ?_;rintro e w' ⟨rfl,hR,hb⟩;have HR:=ak hR;have HB:=ak hb;clear hR hb HQ
 go_wp2_with fail
 go_ret
 exact⟨rfl,HR.out,HB.out⟩
theorem row_zeros(c g:Nat)(n:Nat): ∀(o:Nat) (w:World),RowAt w g (List.replicate c 0)→RowAt (w.setCells g o (List.replicate n (.int .u64 0))) g (List.replicate c 0):=by
 induction n with
 |zero=>intro o w h;exact h
 |succ n ih=>
  intro o w h;rw[List.replicate_succ];refine ih (o+1) _ ?_;have:=h.set o 0;have e:(List.replicate c (0:Int)).set o 0=List.replicate c 0:=by
   apply List.ext_getElem
   ·simp
   ·intro i h1 h2;simp[List.getElem_set]
  rw[e]at this;exact this
theorem zero_word(w:World):(zeroValue 81).run Tryz.prog w= .ok (.int .u64 0) w:=by
 have hz:Tryz.t81.zero=some (.int .u64 0):=by kernel_rfl
 simp[zeroValue,go_sem,hz]
theorem clear_row{w:World}{g c:Nat}(h:RowAt w g (List.replicate c 0))(n cz:Nat)(h0:0<n)(hn:n≤c)(ty:TypeId):
 (Builtin.clear_ #[53] ty #[.slice (some ⟨g,0,none⟩) n cz]).run Tryz.prog w= .ok (.tuple #[]) (w.setCells g 0 (List.replicate n (.int .u64 0))):=by
 refine Lib.run_clear_slice w 53 81 ty (.int .u64 0) Tryz.underlying53 zero_word rfl rfl g 0 n cz h0 (fun j hj=>?_) (fun j hj=>?_)
 ·rw[Nat.zero_add,h.cell j (by rw[List.length_replicate];omega)];rfl
 ·rw[Nat.zero_add];exact blk_frozen h j
def bmul(x y:List Int)(L:List Int):Nat→List Int
 |0=>L
 |i+1=>if y.getD i 0=0 then bmul x y L i else(addV x (y.getD i 0).toNat 0 i (bmul x y L i) x.length).1.set (x.length+i) ((addV x (y.getD i 0).toNat 0 i (bmul x y L i) x.length).2:Int)
theorem bmul_len(x y:List Int)(L:List Int)(i:Nat):(bmul x y L i).length=L.length:=by
 induction i with
 |zero=>rfl
 |succ i ih=>
  unfold bmul
  split
  ·exact ih
  ·rw[List.length_set,addV_len,ih]
theorem bmul_ok{x y L:List Int}(hx:L64.Ok x)(hy:L64.Ok y)(h:L64.Ok L)(i:Nat):L64.Ok (bmul x y L i):=by
 induction i with
 |zero=>exact h
 |succ i ih=>
  unfold bmul
  split
  ·exact ih
  ·have h1:=addV_lt (m:=(y.getD i 0).toNat) (a:=0) i ih hx (word_lt hy i) (by omega) x.length;exact L64.ok_set (addV_ok _ _ _ _ ih _) _ (Int.natCast_nonneg _) (by omega)
set_option maxRecDepth 100000 in
theorem basicMul_is(ws:World)(g cz c N:Nat)(x y:List Int)(A1 A2:Option Addr)(k1' k2':Nat)(w:World)(hB:RowAt w g (List.replicate c 0))(hs:Below ws.heap.size ws w)(hg:ws.heap.size≤g)(hN:x.length+y.length=N)(hL:N≤c)(hcz:N≤cz)(hm:c≤1000000)
 (hx0:0<x.length) (hC1:Kd.C (Kd.int .u64) ws A1 x.length x) (hx:L64.Ok x) (hC2:Kd.C (Kd.int .u64) ws A2 y.length y) (hy:L64.Ok y):
 Calls Tryz.prog 124 #[.slice (some ⟨g,0,none⟩) N cz,.slice A1 x.length k1',.slice A2 y.length k2'] w fun e w'=>e= .returned (.tuple #[])∧RowAt w' g (bmul x y (List.replicate c 0) y.length)∧Below ws.heap.size ws w':=by
 have HR:=ak hB;have HS:=ak hs;have HG:=ak hg;have HL:=ak (And.intro hL (And.intro hcz (And.intro hm hN)));have HC1:=ak hC1;have HC2:=ak hC2;have HX:=ak hx;have HY:=ak hy;have hcl:=fun ty=>clear_row hB N cz (by omega) hL ty
 have hw:wrap64 ((x.length:Int)+(y.length:Int))=(N:Int):=by unfold wrap64;omega
 have hnc:(N:Int)≤(cz:Int):=by omega
 have HX0:=ak hx0;clear hB hs hg hL hcz hm hx0 hC1 hx hC2 hy hN
 go_enter Tryz.func124,Tryz.ntmps124
 go_wp2_with fail
 go_loopg [17] (y.length) (fun kq v17 w'=>∃(i:Nat),v17= .int .i64 (i:Int)∧Aside0 (i+kq=y.length)∧Aside0 (RowAt w' g (bmul x y (List.replicate c 0) i))∧Aside0 (Below ws.heap.size ws w'))
 case atStart=>exact⟨0,rfl,⟨Nat.zero_add _⟩,⟨row_zeros c g N 0 w HR.out⟩,⟨Go.below_setCells HG.out _ _ _ HS.out⟩⟩
 case round=>
  obtain⟨i,rfl,HI,HRi,HSi⟩:=hrel;clear HR HS hcl hw hnc;by_cases cc:i<y.length
  ·cases gk with
   |zero=>exact absurd HI.out (by omega)
   |succ k1=>
    obtain⟨ad,rfl,hyi⟩:=Kd.at_int (Kd.C_below HC2.out HSi.out) (i:Int) (by omega) (by omega);obtain⟨Y,hY⟩: ∃Y:Nat,y.getD i 0=(Y:Int):=⟨(y.getD i 0).toNat,by have:=L64.ok_get HY.out i;omega⟩
    have hYl:=word_lt HY.out i;have hln:=bmul_len x y (List.replicate c 0) i;have hok:=bmul_ok HX.out HY.out (L64.ok_zeros c) i;have hst:bmul x y (List.replicate c 0) (i+1)=if y.getD i 0=0 then bmul x y (List.replicate c 0) i else(addV x (y.getD i 0).toNat 0 i (bmul x y (List.replicate c 0) i) x.length).1.set (x.length+i) ((addV x (y.getD i 0).toNat 0 i (bmul x y (List.replicate c 0) i) x.length).2:Int):=rfl
    unfold rd at hyi;rw[Int.toNat_natCast,hY]at hyi;rw[hY,Int.toNat_natCast]at hYl hst;obtain⟨T,hT⟩: ∃T,bmul x y (List.replicate c 0) i=T:=⟨_,rfl⟩
    rw[hT]at hst HRi hok hln;rw[List.length_replicate]at hln;have HLn:=ak hln;have HOk:=ak hok;have HYl:=ak hYl;have HST:=ak hst;have c0:decide ((i:Int)<(y.length:Int))=true:=decide_eq_true (by omega);have c1:decide (i<y.length)=true:=decide_eq_true cc;clear hY hYl hln hok hT hst;by_cases hY0:Y=0
    ·subst hY0
     go_wp2_with fail
     go_roundg k1
     case measure=>omega
     case rel=>exact⟨i+1,(by first|rfl|(rw[w64_succ i (by have:=HL.out;omega)])),⟨by have:=HI.out;omega⟩,⟨by rw[HST.out];exact HRi.out⟩,HSi⟩
    ·have hY1:((Y:Int)==0)=false:=beq_eq_false_iff_ne.2 (by omega);have hY2:((Y:Int) != 0)=true:=bne_iff_ne.2 (by omega);obtain⟨M,hM⟩: ∃M:Nat,x.length+i=M:=⟨_,rfl⟩
     have hst2:=HST.out;rw[if_neg (by omega),hM]at hst2;have HL2:=HL.out;have hX0:=HX0.out;have hw1:wrap64 ((x.length:Int)+(i:Int))=(M:Int):=by unfold wrap64;omega
     have hw2:wrap64 ((i:Int)+(x.length:Int))=(M:Int):=by unfold wrap64;omega
     have hw3:IntKind.i64.wrap ((x.length:Int)+(i:Int))=(M:Int):=(i64_w _).trans hw1;have hw4:IntKind.i64.wrap ((i:Int)+(x.length:Int))=(M:Int):=(i64_w _).trans hw2;have hm0:(0:Int)≤(i:Int):=by omega
     have hm1:(M:Int)≤(cz:Int):=by omega
     have hm2:(i:Int)≤(M:Int):=by omega
     have hm3:M-i=x.length:=by omega
     have hm4: ¬cz=i:=by omega
     have hm7:(M:Int)<(N:Int):=by omega
     have hm8:(0:Int)≤(M:Int):=by omega
     have hm5:decide ((M:Int)<(N:Int))=true:=decide_eq_true (by omega);have hm6:decide (M<N)=true:=decide_eq_true (by omega);have HQ:=ak (fun w0 (hR:RowAt w0 g T) (hs:Below ws.heap.size ws w0)=>addMulVVWW_is ws g i (cz-i) (cz-i) T x A1 k1' Y 0 w0 hR HOk.out hs HG.out (by rw[HLn.out];omega) (by rw[HLn.out];omega) HC1.out HX.out HYl.out (by omega));have hlen:=addV_len x Y 0 i T x.length;obtain⟨U,hU⟩: ∃U,addV x Y 0 i T x.length=U:=⟨_,rfl⟩
     rw[hU]at HQ hst2 hlen;obtain⟨L2,c2'⟩:=U;have HLt:=ak (show M<L2.length by rw[show L2.length=T.length from hlen,HLn.out];omega);have HST2:=ak hst2;clear hst2 HL2 hX0 hlen hU HST hM
     go_wp2_with fail
     go_region_held3 (fun _=>True) (exact trivial)
      (first|(go_at_call 143;refine(HQ.out _ HRi.out.drew (below_drew HSi.out)).mono ?_;rintro e4 w4 ⟨rfl,hR4,hS4⟩;have HR4:=ak hR4;have HS4:=ak hS4;have hr:=HR4.out.cell M HLt.out;have hz:=blk_frozen HR4.out M;clear hR4 hS4))
     go_wp2_with fail
     go_roundg k1
     case measure=>omega
     case rel=>exact⟨i+1,(by first|rfl|(rw[w64_succ i (by have:=HL.out;omega)])),⟨by have:=HI.out;omega⟩,⟨by rw[HST2.out];exact HR4.out.set M (c2':Int)⟩,⟨below_set HS4.out HG.out⟩⟩
  ·have hi:i=y.length:=by have:=HI.out;omega
   subst hi
   go_wp2_with fail
   exact bodyPost_end (results_none rfl _ _ _) rfl ⟨rfl,HRi.out,HSi.out⟩
end Go.Proofs.YthlakefgobflnaaGreatDoor.G
namespace Go.Proofs.YthlakefgobflnaaGreatDoor.Lm
open Go.RowKit Go.Proofs.YthlakefgobflnaaGreatDoorW.PrintWords Go.Proofs.YthlakefgobflnaaGreatDoor.S Go.Proofs.YthlakefgobflnaaGreatDoor.G
set_option linter.unusedVariables false
theorem getD_set_ne(l:List Int)(i j:Nat)(v:Int)(h:i≠j):(l.set i v).getD j 0=l.getD j 0:=by
 rw[List.getD_eq_getElem?_getD,List.getElem?_set,if_neg h,←List.getD_eq_getElem?_getD]
theorem val_take_succ(x:List Int)(i:Nat)(h:i<x.length):L64.val (x.take (i+1))=L64.val (x.take i)+18446744073709551616^i*(x.getD i 0).toNat:=by
 rw[List.take_succ_eq_append_getElem h,L64.val_snoc,List.length_take,Nat.min_eq_left (by omega),List.getD_eq_getElem?_getD,List.getElem?_eq_getElem h];rfl
theorem zeros_getD(c j:Nat):(List.replicate c (0:Int)).getD j 0=0:=by
 rw[List.getD_eq_getElem?_getD,List.getElem?_replicate]
 split<;>rfl
theorem mulV_out(x:List Int)(y r:Nat)(L:List Int)(i j:Nat)(h:i≤j):(mulV x y r L i).1.getD j 0=L.getD j 0:=by
 induction i with
 |zero=>rfl
 |succ i ih=>
  unfold mulV;rw[getD_set_ne _ _ _ _ (by omega),ih (by omega)]
theorem mulV_ok(x:List Int)(y r:Nat){L:List Int}(h:L64.Ok L)(i:Nat):L64.Ok (mulV x y r L i).1:=by
 induction i with
 |zero=>exact h
 |succ i ih=>
  unfold mulV;exact L64.ok_set ih _ (Int.natCast_nonneg _) (by have:=Nat.mod_lt ((x.getD i 0).toNat*y+(mulV x y r L i).2) (show 0<18446744073709551616 by omega);omega)
theorem addV_out(y:List Int)(m a off:Nat)(L:List Int)(i j:Nat)(h:off+i≤j∨j<off):(addV y m a off L i).1.getD j 0=L.getD j 0:=by
 induction i with
 |zero=>rfl
 |succ i ih=>
  unfold addV;rw[getD_set_ne _ _ _ _ (by omega),ih (by omega)]
theorem addV_drop(y:List Int)(m a off:Nat)(L:List Int)(i j:Nat)(h:off+i≤j):(addV y m a off L i).1.drop j=L.drop j:=by
 induction i with
 |zero=>rfl
 |succ i ih=>
  unfold addV;rw[List.drop_set_of_lt (by omega),ih (by omega)]
theorem step_val2(V V2 V0 P Q t w o A X Y R:Nat)(h1:V2+P*Q*o=V+P*Q*(t%18446744073709551616))(h2:V+P*Q*A=V0+P*(X*Y)+R)(h3:t=w*Y+o+A):
 V2+P*(Q*18446744073709551616)*(t/18446744073709551616)=V0+P*((X+Q*w)*Y)+R:=by
 have h4:P*Q*(18446744073709551616*(t/18446744073709551616)+t%18446744073709551616)=P*Q*t:=by rw[Nat.div_add_mod]
 rw[Nat.mul_add]at h4;have h5:P*Q*t=P*Q*(w*Y)+P*Q*o+P*Q*A:=by rw[h3,Nat.mul_add,Nat.mul_add]
 rw[Nat.add_mul,Nat.mul_assoc Q w Y,Nat.mul_add,←Nat.mul_assoc P Q (w*Y),←Nat.mul_assoc P Q 18446744073709551616,Nat.mul_assoc (P*Q)];generalize P*Q*(18446744073709551616*(t/18446744073709551616))=a at*;generalize P*Q*(t%18446744073709551616)=b at*;generalize P*Q*(w*Y)=c at*;generalize P*Q*A=d at*;generalize P*Q*o=f at*;generalize P*Q*t=e at*;omega
theorem addV_val(y:List Int)(m a off:Nat){L:List Int}(hL:L64.Ok L)(i:Nat)(h:i≤y.length)(hl:off+i≤L.length):
 L64.val (addV y m a off L i).1+18446744073709551616^off*18446744073709551616^i*(addV y m a off L i).2=L64.val L+18446744073709551616^off*(L64.val (y.take i)*m)+18446744073709551616^off*a:=by
 induction i with
 |zero=>
  show L64.val L+18446744073709551616^off*18446744073709551616^0*a=L64.val L+18446744073709551616^off*(0*m)+18446744073709551616^off*a;rw[Nat.pow_zero,Nat.mul_one,Nat.zero_mul,Nat.mul_zero,Nat.add_zero]
 |succ i ih=>
  have ih:=ih (by omega) (by omega);have hs:=L64.val_set (l:=(addV y m a off L i).1) (i:=off+i) (by rw[addV_len];omega) (addV_ok y m a off hL i) ((((y.getD i 0).toNat*m+((addV y m a off L i).1.getD (off+i) 0).toNat+(addV y m a off L i).2)%18446744073709551616:Nat):Int);rw[Int.toNat_natCast,Nat.pow_add]at hs;rw[val_take_succ y i (by omega),Nat.pow_succ];unfold addV;exact step_val2 _ _ _ _ _ _ _ _ _ _ _ _ hs ih rfl
theorem bmul_out(x y:List Int)(L:List Int)(i j:Nat)(h:x.length+i≤j):(bmul x y L i).getD j 0=L.getD j 0:=by
 induction i with
 |zero=>rfl
 |succ i ih=>
  unfold bmul
  split
  ·exact ih (by omega)
  ·rw[getD_set_ne _ _ _ _ (by omega),addV_out _ _ _ _ _ _ _ (.inl (by omega)),ih (by omega)]
theorem bmul_drop(x y:List Int)(L:List Int)(i j:Nat)(h:x.length+i≤j):(bmul x y L i).drop j=L.drop j:=by
 induction i with
 |zero=>rfl
 |succ i ih=>
  unfold bmul
  split
  ·exact ih (by omega)
  ·rw[List.drop_set_of_lt (by omega),addV_drop _ _ _ _ _ _ _ (by omega),ih (by omega)]
theorem bmul_succ(x y L:List Int)(i:Nat):bmul x y L (i+1)=if y.getD i 0=0 then bmul x y L i else(addV x (y.getD i 0).toNat 0 i (bmul x y L i) x.length).1.set (x.length+i) ((addV x (y.getD i 0).toNat 0 i (bmul x y L i) x.length).2:Int):=rfl
theorem bmul_val{x y:List Int}(hx:L64.Ok x)(hy:L64.Ok y)(c:Nat)(i:Nat)(h:i≤y.length)(hc:x.length+i≤c):L64.val (bmul x y (List.replicate c 0) i)=L64.val x*L64.val (y.take i):=by
 induction i with
 |zero=>
  show L64.val (List.replicate c 0)=L64.val x*0;rw[L64.val_zeros,Nat.mul_zero]
 |succ i ih=>
  have ih:=ih (by omega) (by omega);rw[val_take_succ y i (by omega),Nat.mul_add,←ih,bmul_succ]
  split
  ·rename_i h0
   rw[h0,Int.toNat_zero,Nat.mul_zero,Nat.mul_zero,Nat.add_zero]
  ·have hok:=bmul_ok hx hy (L64.ok_zeros c) i;have hln:=bmul_len x y (List.replicate c 0) i;rw[List.length_replicate]at hln;have ho:=bmul_out x y (List.replicate c 0) i (x.length+i) (Nat.le_refl _);rw[zeros_getD]at ho;obtain⟨T,hT⟩: ∃T,bmul x y (List.replicate c 0) i=T:=⟨_,rfl⟩
   rw[hT]at hok hln ho⊢;have hv:=addV_val x (y.getD i 0).toNat 0 i hok x.length (Nat.le_refl _) (by omega);have hs:=L64.val_set (l:=(addV x (y.getD i 0).toNat 0 i T x.length).1) (i:=x.length+i) (by rw[addV_len];omega) (addV_ok x _ 0 i hok _) ((addV x (y.getD i 0).toNat 0 i T x.length).2:Int);rw[addV_out _ _ _ _ _ _ _ (.inl (by omega)),ho,Int.toNat_zero,Nat.mul_zero,Nat.add_zero,Int.toNat_natCast,Nat.add_comm x.length i,Nat.pow_add,hv,Nat.mul_zero,Nat.add_zero,List.take_length]at hs;rw[Nat.add_comm x.length i,hs,Nat.mul_left_comm]
theorem bmul_all{x y:List Int}(hx:L64.Ok x)(hy:L64.Ok y)(c:Nat)(hc:x.length+y.length≤c):
 L64.Ok ((bmul x y (List.replicate c 0) y.length).take (x.length+y.length))∧L64.val ((bmul x y (List.replicate c 0) y.length).take (x.length+y.length))=L64.val x*L64.val y:=by
 have hok:=bmul_ok hx hy (L64.ok_zeros c) y.length;refine⟨fun z hz=>hok z (List.mem_of_mem_take hz),?_⟩;have hv:=bmul_val hx hy c y.length (Nat.le_refl _) hc;have hsp:=L64.val_split (bmul x y (List.replicate c 0) y.length) (x.length+y.length);rw[bmul_drop _ _ _ _ _ (Nat.le_refl _),List.drop_replicate,L64.val_zeros,Nat.mul_zero,Nat.add_zero,hv,List.take_length]at hsp;exact hsp.symm
end Go.Proofs.YthlakefgobflnaaGreatDoor.Lm
namespace Go.Proofs.YthlakefgobflnaaGreatDoor.S
open Go.RowKit Go.Proofs.YthlakefgobflnaaGreatDoorW.PrintWords Go.Proofs.YthlakefgobflnaaGreatDoorW.PrintLast Go.Proofs.YthlakefgobflnaaGreatDoorW.PrintMore
set_option linter.unusedVariables false
set_option linter.unusedSimpArgs false
theorem R_row(k:IntKind)(e base g cap:Nat)(cur:Array Value)(xs:List Int)(w:World)(ok:Nat→Prop)(hB:w.heap[g]?=some (.cells cur e (0,0)))(hbase:base≤g)(hc:xs.length≤cap)(hcm:cap≤maxLen)(hs:cur.size=cap)
 (ht:cur.toList.take xs.length=xs.map (Value.int k)) (hok:ok g):Kd.R (Kd.int k) e w base ok (.slice (some ⟨g,0,none⟩) xs.length cap) xs:=by
 refine⟨fun j hj=>?_,encs (Value.int k) xs,⟨?_,.inr ⟨g,cap,cur,rfl,hbase,hB,hc,hcm,?_,?_⟩⟩,Kd.reps_scalar xs⟩
 ·simp[Value.ownBlock]at hj;subst hj;exact hok
 ·simp[encs,Kd.int,Kd.scalar]
 ·simpa [Kd.int,Kd.scalar]using hs
 ·simpa [encs,Kd.int,Kd.scalar]using ht
theorem made_zero(n:Nat):madeCells #[Value.int .u64 0] n=Array.replicate n (.int .u64 0):=by
 unfold madeCells;apply Array.ext
 ·simp
 ·intro i h1 h2;simp[Nat.mod_one]
theorem makeW_at(n c:Nat)(w:World)(h:n≤c)(hc:c≤2000000):(Instr.makeSlice 53 (.int .i64 (n:Int)) (.int .i64 (c:Int))).run Tryz.prog w= .ok (.slice (some ⟨w.heap.size,0,none⟩) n c) (w.alloc (.cells (Array.replicate c (.int .u64 0)) 81)):=by
 obtain⟨i0,hi,hz0,hz1,hz2⟩:=info_parts tinfo_word;have hr:=run_make (P:=Tryz.prog) w 53 81 i0 (.int .u64 0) Tryz.underlying53 hi hz0 .i64 .i64 (n:Int) (c:Int) (by omega) (by omega) (by rw[hz2];omega) (by omega);rw[hr,Int.toNat_natCast,Int.toNat_natCast,hz1,Nat.mul_one];rw[show(Value.int .u64 0).cells= #[Value.int .u64 0]from rfl,made_zero]
end Go.Proofs.YthlakefgobflnaaGreatDoor.S
