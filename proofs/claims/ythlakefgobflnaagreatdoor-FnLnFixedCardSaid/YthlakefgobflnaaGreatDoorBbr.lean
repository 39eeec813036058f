/- CONTRACTS: norm and SetBits for rows that append has made. -/
import Derived.Test.YthlakefgobflnaaGreatDoorBbb
import Derived.Test.YthlakefgobflnaaGreatDoorBas
namespace Go.Proofs.YthlakefgobflnaaGreatDoor.G
open Go.RowKit Go.Proofs.YthlakefgobflnaaGreatDoorW.PrintWords Go.Proofs.YthlakefgobflnaaGreatDoorW.PrintLast Go.Proofs.YthlakefgobflnaaGreatDoorW.PrintMore Go.Proofs.YthlakefgobflnaaGreatDoor.S
set_option linter.unusedVariables false
set_option linter.unusedSimpArgs false
theorem opd_of_R{W:World}{base:Nat}{ok:Nat→Prop}{v:Value}{l:List Int}(h:Kd.R (Kd.int .u64) 81 W base ok v l): ∃r,Opd W v r l∧∀g,r=some g→base≤g:=by
 obtain⟨h0,inner,⟨hl,ho⟩,hr⟩:=h;have hi:inner=u64s l:=by
  refine List.ext_getElem? (fun j=>?_);have hl':inner.length=l.length:=by rw[hl];exact Nat.mul_one _
  by_cases hj:j<l.length
  ·have h1:((inner.drop (j*(Kd.int .u64).sz)).take (Kd.int .u64).sz)= [Value.int .u64 l[j]]:=hr.2 j l[j] (List.getElem?_eq_getElem hj);have h2:((inner.drop j).take 1)[0]?=some (Value.int .u64 l[j]):=by
    rw[show(inner.drop j).take 1= [Value.int .u64 l[j]] by rw[←h1];show _=(inner.drop (j*1)).take 1;rw[Nat.mul_one]];rfl
   rw[List.getElem?_take_of_lt (by omega),List.getElem?_drop,Nat.add_zero]at h2;rw[h2,List.getElem?_map,List.getElem?_eq_getElem hj];rfl
  ·rw[List.getElem?_eq_none (by omega),List.getElem?_eq_none (by rw[List.length_map];omega)]
 subst hi;rcases ho with⟨rfl,h1⟩|⟨g,cap,cur,rfl,hb,hB,hc1,hc2,hs,ht⟩
 ·have hl0:l= []:=List.length_eq_zero_iff.1 h1;subst hl0;exact⟨none,.inl ⟨rfl,rfl,rfl⟩,fun g hg=>by cases hg⟩
 ·have e:cur.size=cap:=by rw[hs];exact Nat.mul_one _
  subst e;refine⟨some g,.inr ⟨g,cur,rfl,hB,?_,by have:maxLen=9223372036854775807:=rfl;omega,rfl⟩,fun k hk=>by cases hk;exact hb⟩;rw[←ht];show cur.toList.take (l.length*1)=_;rw[Nat.mul_one]
theorem cellO{w:World}{g j:Nat}{cur:Array Value}{L:List Int}{T:TypeId}(hB:w.heap[g]?=some (.cells cur T (0,0)))(hc:u64s L=cur.toList.take L.length)(hj:j<L.length):w.cell? ⟨g,j,none⟩=some (.int .u64 (L.getD j 0)):=by
 refine(blk_cell hB j).trans ?_;have h1:(u64s L)[j]?=cur.toList[j]?:=by rw[hc,List.getElem?_take_of_lt hj]
 rw[←Array.getElem?_toList,←h1,List.getElem?_map,List.getElem?_eq_getElem hj,List.getD_eq_getElem?_getD,List.getElem?_eq_getElem hj];rfl
set_option maxRecDepth 100000 in
theorem normO_is(v:Value)(r:Option Nat)(L:List Int)(w:World)(hO:Opd w v r L)(hM:L.length≤100000)(ho:L64.Ok L):
 Calls Tryz.prog 51 #[v] w fun e w'=>∃v' r',e= .returned v'∧Opd w' v' r' (L64.lim (L64.val L))∧(∀k,r'=some k→r=some k)∧Below w.heap.size w w':=by
 have HB:=ak (Below.refl w.heap.size w);rcases hO with⟨rfl,rfl,rfl⟩|⟨g,cur,rfl,hB,hc,hs,rfl⟩
 ·go_enter Tryz.func51,Tryz.ntmps51
  go_wp2_with fail
  go_loopg [3] 0 (fun kq v3 w'=>v3= .int .i64 0∧kq=0∧Aside0 (Below w.heap.size w w'))
  case atStart=>exact⟨rfl,rfl,HB⟩
  case round=>
   obtain⟨rfl,rfl,HB2⟩:=hrel
   go_wp2_with fail
   go_ret
   refine⟨_,none,rfl,.inl ⟨rfl,rfl,?_⟩,(fun k hk=>by cases hk),HB2.out⟩;rw[show L64.val []=0 from rfl];exact L64.lim_zero
 ·obtain⟨M,hMe⟩: ∃M,L.length=M:=⟨_,rfl⟩
  have hle:M≤cur.size:=by
   have:=congrArg List.length hc;rw[List.length_map,List.length_take,show cur.toList.length=cur.size from Array.length_toList]at this;omega
  have HD:=ak (And.intro hM (And.intro hMe (And.intro hle hs)));have HO:=ak ho;have HR:=ak hB;have HC:=ak hc;have hLt:L.take M=L:=by rw[←hMe];exact List.take_length
  have HLt:=ak hLt;have HFin:=ak (fun(i:Nat) (w':World) (hi:i≤M) (hB':w'.heap[g]?=some (.cells cur 81 (0,0))) (hv:L64.val (L.take M)=L64.val (L.take i)) (hz:i=0∨L.getD (i-1) 0≠0)=>
   show Opd w' (.slice (some ⟨g,0,none⟩) i cur.size) (some g) (L64.lim (L64.val L)) by
    have e:=lim_take ho hi (by omega) hv hz;rw[hLt]at e;rw[e];refine .inr ⟨g,cur,by rw[show(L.take i).length=i by rw[List.length_take];omega],hB',?_,hs,rfl⟩;rw[show(L.take i).length=i by rw[List.length_take];omega];show(L.take i).map _=_;rw[List.map_take];show(u64s L).take i=_;rw[hc,List.take_take,Nat.min_eq_left (by omega)])
  rw[hMe];clear hM ho hB hc hs hMe hle hLt
  go_enter Tryz.func51,Tryz.ntmps51
  go_wp2_with fail
  go_loopg [3] M (fun kq v3 w'=>∃(i:Nat),v3= .int .i64 (i:Int)∧Aside0 (i≤M∧i≤kq)∧Aside0 (L64.val (L.take M)=L64.val (L.take i))∧Aside0 (w'.heap[g]?=some (.cells cur 81 (0,0)))∧Aside0 (Below w.heap.size w w'))
  case atStart=>exact⟨M,rfl,⟨Nat.le_refl _,Nat.le_refl _⟩,⟨rfl⟩,HR,HB⟩
  case round=>
   obtain⟨i,rfl,HI,HV,HR2,HB2⟩:=hrel;clear HR HB;by_cases c:0<i
   ·obtain⟨j,hj⟩: ∃j,i=j+1:=⟨i-1,by omega⟩
    have hr:=cellO HR2.out HC.out (j:=j) (by have:=HI.out;have:=HD.out;omega);have hX:=L64.getN HO.out j;have hv2:=L64.val_take L j;rw[hX]at hr;rw[←hj]at hv2;generalize hgj:(L.getD j 0).toNat=X at*;have c0:decide (0<(i:Int))=true:=decide_eq_true (by omega);have c1:decide (0<i)=true:=decide_eq_true (by omega);have e1:wrap64 ((i:Int)-1)=(j:Int):=by have:=HI.out;have:=HD.out;unfold wrap64;omega
    have i1:(0:Int)≤(j:Int):=by omega
    have i2:(j:Int)<(M:Int):=by have:=HI.out;omega
    by_cases hx0:X=0
    ·subst hx0;cases gk with
     |zero=>exact absurd HI.out (by omega)
     |succ k1=>
      have HV2:=ak (show L64.val (L.take M)=L64.val (L.take j) by rw[HV.out,hv2];simp);have HJ:=ak hj;have HE1:=ak e1;clear hX hgj hv2 hj
      go_wp2_with fail
      go_roundg k1
      case measure=>omega
      case rel=>exact⟨j,(by first|rfl|rw[HE1.out]),⟨by have:=HI.out;have:=HJ.out;omega⟩,HV2,HR2,HB2⟩
    ·have hX0:((X:Int)==0)=false:=beq_eq_false_iff_ne.2 (by omega);have HF:=ak (fun w' hB'=>HFin.out i w' HI.out.1 hB' HV.out (.inr (by rw[hj,Nat.add_sub_cancel,hX];omega)));have h3:(i:Int)≤(cur.size:Int):=by have:=HI.out;have:=HD.out;omega
     have h5:(0:Int)≤(i:Int):=by omega
     clear hX hgj hv2 hj
     go_wp2_with fail
     go_ret
     exact⟨_,some g,rfl,HF.out _ HR2.out,(fun k hk=>hk),HB2.out⟩
   ·have hi:i=0:=by omega
    subst hi;have HF:=ak (fun w' hB'=>HFin.out 0 w' HI.out.1 hB' HV.out (.inl rfl));have h1:(0:Int)≤(cur.size:Int):=by omega
    go_wp2_with fail
    go_ret
    exact⟨_,some g,rfl,HF.out _ HR2.out,(fun k hk=>hk),HB2.out⟩
set_option maxRecDepth 100000 in
theorem setBitsO_is(ws:World)(g:Nat)(v:Value)(r:Option Nat)(L:List Int)(b0:Bool)(u:Value)(w:World)(hB:w.heap[g]?=some (.cells #[.bool b0,u] 55 (0,0)))(hs:Below ws.heap.size ws w)(hbase:ws.heap.size≤g)
 (hO:Opd w v r L) (hr: ∀k,r=some k→ws.heap.size≤k∧k≠g) (hM:L.length≤100000) (ho:L64.Ok L):
 Calls Tryz.prog 36 #[.pointer (some ⟨g,0,none⟩),v] w fun e w'=>e= .returned (.pointer (some ⟨g,0,none⟩))∧∃v' r',w'.heap[g]?=some (.cells #[.bool false,v'] 55 (0,0))∧Opd w' v' r' (L64.lim (L64.val L))∧(∀k,r'=some k→ws.heap.size≤k)∧Below ws.heap.size ws w':=by
 have HN:=ak (normO_is v r L w hO hM ho);have HB:=ak hB;have HS:=ak hs;have HP:=ak (And.intro hbase hr);clear hB hs hbase hO hr hM ho
 go_enter Tryz.func36,Tryz.ntmps36
 go_wp2_with fail
 refine HN.out.mono ?_;rintro e w1 ⟨v',r',rfl,hv,hk,hb⟩;have B1:=ak (blk_below HB.out hb);have HB1:=ak (below_step HS.out hb);have HV:=ak hv;have HK:=ak hk;clear hb hk HN HB;obtain⟨A',c',rfl⟩:=hv.slice;clear hv;obtain⟨c0,zc0,c1,zc1⟩:=rf2 B1.out
 go_wp2_with fail
 go_ret
 refine⟨rfl,_,r',blk_put (cs':=#[.bool false,.slice A' (L64.lim (L64.val L)).length c']) (blk_put (cs':=#[.bool b0,.slice A' (L64.lim (L64.val L)).length c']) B1.out 1 (.slice A' (L64.lim (L64.val L)).length c') rfl) 0 (.bool false) rfl,?_,fun k hk=>(HP.out.2 k (HK.out k hk)).1,below_set (below_set HB1.out HP.out.1) HP.out.1⟩;exact HV.out.move (fun k hk=>(Below.heap_setCell _ _ _ k (HP.out.2 k (HK.out k hk)).2).trans (Below.heap_setCell _ _ _ k (HP.out.2 k (HK.out k hk)).2))
end Go.Proofs.YthlakefgobflnaaGreatDoor.G
