/- CONTRACTS: a carry, a borrow taken into a row, in place. -/
import Derived.Test.YthlakefgobflnaaGreatDoorBaz
import Derived.Laws.IdiomCopy
namespace Go.Proofs.YthlakefgobflnaaGreatDoor.G
open Go.RowKit Go.Proofs.YthlakefgobflnaaGreatDoorW.PrintWords Go.Proofs.YthlakefgobflnaaGreatDoorW.PrintLast Go.Proofs.YthlakefgobflnaaGreatDoorW.PrintMore Go.Proofs.YthlakefgobflnaaGreatDoor.S
set_option linter.unusedVariables false
set_option linter.unusedSimpArgs false
theorem run_neq_ptr_other{w:World}{tp te:TypeId}{j:TypeInfo}{a b:Addr}{ca cb:Array Value}{ta tb:TypeId}(hp:Tryz.prog.underlying tp=some (.pointer te))(hte:Tryz.prog.info? te=some j)(hsz:j.size≠0)
 (hne:a≠b) (ha:w.heap[a.block]?=some (.cells ca ta (0,0))) (hb:w.heap[b.block]?=some (.cells cb tb (0,0))):
 (binOp .neq tp (.pointer (some a)) (.pointer (some b))).run Tryz.prog w= .ok (.bool true) w:=by
 have h: ∀d:Nat,(Op.equalIn (d+1) tp (.pointer (some a)) (.pointer (some b))).run Tryz.prog w= .ok false w:=fun d=>by
  simp[Op.equalIn,run_underlying hp,sizeOf,typeInfo,hte,hsz,run_sameAddr_other w hne ha hb]
 simp only[binOp];simp[Op.equal,Op.maxDepth,h 9999]
theorem infoW: ∃j,Tryz.prog.info? 81=some j∧j.size=1:=by
 obtain⟨i0,hi,hz0,hz1,hz2⟩:=info_parts tinfo_word;exact⟨i0,hi,hz1⟩
theorem RowAt.lay{w:World}{g:Nat}: ∀(T:List Int) (L:List Int) (o:Nat),RowAt w g L→o+T.length≤L.length→RowAt (w.setCells g o (u64s T)) g (L.take o++(T++L.drop (o+T.length)))∧Only g w (w.setCells g o (u64s T)):=by
 intro T;induction T generalizing w with
 |nil=>
  intro L o h ho;rw[List.nil_append,List.length_nil,Nat.add_zero,List.take_append_drop];exact⟨h,Only.refl g w⟩
 |cons a T ih=>
  intro L o h ho;rw[List.length_cons]at ho;obtain⟨h1,h2⟩:=ih (L.set o a) (o+1) (h.set o a) (by rw[List.length_set];omega);refine⟨?_,((Only.refl g w).set o _).trans h2⟩;have e:(L.set o a).take (o+1)++(T++(L.set o a).drop (o+1+T.length))=L.take o++(a::T++L.drop (o+(a::T).length)):=by
   rw[List.drop_set_of_lt (by omega),List.take_add_one,List.getElem?_set_self (by omega),List.take_set_of_le (by omega)];simp only[Option.toList_some,List.append_assoc,List.singleton_append,List.length_cons,List.cons_append,List.nil_append];rw[show o+1+T.length=o+(T.length+1) by omega]
  rw[e]at h1;exact h1
theorem copyW{w:World}{g o pb po:Nat}{L T:List Int}(cz cx n:Nat)(ty tt:TypeId)(hu:Tryz.prog.underlying tt=some (.slice 81))(hR:RowAt w g L)(ho:o+T.length≤L.length)(hx:Rd w ⟨pb,po,none⟩ T)(hn:T.length=n):
 (Builtin.copy_ #[tt,tt] ty #[.slice (some ⟨g,o,none⟩) n cz,.slice (some ⟨pb,po,none⟩) n cx]).run Tryz.prog w= .ok (.int .i64 (n:Int)) (w.setCells g o (u64s T)):=by
 obtain⟨j,hj,hs⟩:=infoW;have hl:(u64s T).length=n:=by rw[List.length_map,hn]
 have:=run_copy_cells (P:=Tryz.prog) w tt tt ty 81 g o n cz ⟨pb,po,none⟩ n cx (u64s T) hu (by rw[hj];simp[hs]) (by rw[hl];simp) (fun i v hi=>?_) (fun i hi=>?_) (fun i hi=>blk_frozen hR _) (fun v hv=>?_)
 ·rw[this,hl];rfl
 ·have hil:i<T.length:=by
   rcases Nat.lt_or_ge i T.length with h|h
   ·exact h
   ·rw[List.getElem?_eq_none (by rw[List.length_map];exact h)]at hi;cases hi
  have h1:=hx.2 i hil;have ea:(⟨pb,po,none⟩:Addr).add i=⟨pb,po+i,none⟩:=by unfold Addr.add;split<;>simp_all
  rw[ea,h1,←hi,List.getElem?_map,List.getElem?_eq_getElem hil,List.getD_eq_getElem?_getD,List.getElem?_eq_getElem hil];rfl
 ·rw[List.length_map]at hi;rw[hR.cell _ (by omega)];rfl
 ·obtain⟨x,_,rfl⟩:=List.mem_map.1 hv;rfl
theorem copyI{w:World}{g d pb i n cz cx cz' cx':Nat}{x:List Int}{ty:TypeId}(hn:n=x.length-i)(hcz:x.length≤cz)(hcx:x.length≤cx)(hi:i≤x.length)
 (h:0<n→(Builtin.copy_ #[52,52] ty #[.slice (some ⟨g,d+i,none⟩) n cz',.slice (some ⟨pb,d+i,none⟩) n cx']).run Tryz.prog w= .ok (.int .i64 (n:Int)) (w.setCells g (d+i) (u64s (x.drop i)))):
 (Builtin.copy_ #[52,52] ty #[.slice (if cz=i then some ⟨g,d,none⟩else some ⟨g,d+i,none⟩) n cz',.slice (if cx=i then some ⟨pb,d,none⟩else some ⟨pb,d+i,none⟩) n cx']).run Tryz.prog w= .ok (.int .i64 (n:Int)) (w.setCells g (d+i) (u64s (x.drop i))):=by
 obtain⟨j,hj,hs⟩:=infoW;by_cases h0:n=0
 ·rw[List.drop_eq_nil_of_le (by omega),h0];exact run_copy_none (P:=Tryz.prog) w 52 52 ty 81 _ _ 0 cz' 0 cx' Tryz.underlying52 (by rw[hj];simp[hs]) rfl
 ·rw[if_neg (by omega),if_neg (by omega)];exact h (by omega)
def Ob(w:World)(k:Nat):Prop:=∃cu t,w.heap[k]?=some (.cells cu t (0,0))
theorem RowAt.ob{w:World}{g:Nat}{L:List Int}(h:RowAt w g L):Ob w g:=⟨_,_,h⟩
theorem Ob.lt{w:World}{k:Nat}(h:Ob w k):k<w.heap.size:=by
 obtain⟨_,_,h⟩:=h;exact blk_lt h
theorem Ob.only{w w':World}{g k:Nat}{L:List Int}(h:Ob w k)(ho:Only g w w')(hR:RowAt w' g L):Ob w' k:=by
 by_cases e:k=g
 ·subst e;exact hR.ob
 ·have hl:=h.lt;obtain⟨_,_,h⟩:=h;exact⟨_,_,(ho.block k hl e).trans h⟩
theorem neq_at(g d pb:Nat){w:World}(hR:Ob w g)(hob:Ob w pb): ∀w':World,w'.heap=w.heap→
 (binOp .neq 112 (.pointer (some ⟨g,d,none⟩)) (.pointer (some ⟨pb,d,none⟩))).run Tryz.prog w'= .ok (.bool (decide (g≠pb))) w':=by
 intro w' e;obtain⟨j,hj,hjs⟩:=infoW;obtain⟨_,_,hR⟩:=hR;obtain⟨_,_,hob⟩:=hob;by_cases h:g=pb
 ·subst h;rw[show decide (g≠g)=false from decide_eq_false (fun h=>h rfl)];exact Go.Lib.run_neq_ptr_same (w:=w') (⟨g,d,none⟩:Addr) Tryz.underlying112 hj
 ·rw[decide_eq_true h];exact run_neq_ptr_other (a:=⟨g,d,none⟩) (b:=⟨pb,d,none⟩) Tryz.underlying112 hj (by omega) (fun e=>h (congrArg Addr.block e)) (by rw[e];exact hR) (by rw[e];exact hob)
set_option maxRecDepth 100000 in
theorem addVW_is(g d cz cx pb c:Nat)(L x:List Int)(w:World)(hR:RowAt w g L)(hd:d+x.length≤L.length)(hL:L.length≤100000)(h0:0<x.length)(hx:Rd w ⟨pb,d,none⟩ x)(hob:Ob w pb)(hok:L64.Ok x)(hc:c≤1)(hcz:x.length≤cz)(hcx:x.length≤cx):
 Calls Tryz.prog 95 #[.slice (some ⟨g,d,none⟩) x.length cz,.slice (some ⟨pb,d,none⟩) x.length cx,.int .u64 (c:Int)] w fun e w'=>e= .returned (.int .u64 (L64.addK x [] c x.length:Int))∧RowAt w' g (L64.seg L d (L64.addT x [] c) 0 x.length)∧Only g w w':=by
 have hTl:(L64.addT x [] c).length=x.length:=L64.mk_len _ _;have e1:w.cell? ⟨pb,d,none⟩=some (.int .u64 (x.getD 0 0)):=hx.2 0 h0;rw[L64.getN hok 0]at e1;have HAd:=ak (fun w0=>addc_is (x.getD 0 0).toNat c 0 (by omega) w0);have c1:((x.length:Int)==0)=false:=beq_eq_false_iff_ne.2 (by omega);have h3:(0:Int)<(x.length:Int):=by omega
 have h4:0<x.length:=h0;have h5:(1:Int)≤(x.length:Int):=by omega
 have h6:1≤x.length:=h0;have h7:(x.length:Int)≤(cz:Int):=by omega
 have h8:(x.length:Int)≤(cx:Int):=by omega
 have HT0:=ak (show(L64.addT x [] c).getD 0 0=((((x.getD 0 0).toNat+c+0)%18446744073709551616:Nat):Int)from L64.mk_get _ h0);have HK1:=ak (show L64.addK x [] c 1=((x.getD 0 0).toNat+c+0)/18446744073709551616 from rfl);have HKl:=ak (L64.addK_le hok L64.ok_nil (c:=c) hc);have HTi:=ak (fun i (hi:i<x.length)=>show(L64.addT x [] c).getD i 0=((((x.getD i 0).toNat+(([]:List Int).getD i 0).toNat+L64.addK x [] c i)%18446744073709551616:Nat):Int)from L64.mk_get _ hi);have HKi:=ak (fun i=>show L64.addK x [] c (i+1)=_ from rfl);have HEnd:=ak (fun i w' (hi:i≤x.length) (hk:L64.addK x [] c i=0) (hRi:RowAt w' g (L64.seg L d (L64.addT x [] c) 0 i)) (hOi:Only g w w')=>(show L64.addK x [] c x.length=0∧(g=pb→RowAt w' g (L64.seg L d (L64.addT x [] c) 0 x.length))∧(g≠pb→(∀(cz' cx' n:Nat) (ty:TypeId),n=x.length-i→(Builtin.copy_ #[52,52] ty #[.slice (if cz=i then some ⟨g,d,none⟩else some ⟨g,d+i,none⟩) n cz',.slice (if cx=i then some ⟨pb,d,none⟩else some ⟨pb,d+i,none⟩) n cx']).run Tryz.prog w'= .ok (.int .i64 (n:Int)) (w'.setCells g (d+i) (u64s (x.drop i))))∧RowAt (w'.setCells g (d+i) (u64s (x.drop i))) g (L64.seg L d (L64.addT x [] c) 0 x.length)∧Only g w (w'.setCells g (d+i) (u64s (x.drop i))))from by
  have hst: ∀j,i≤j→j<x.length→(L64.addT x [] c).getD j 0=x.getD j 0:=fun j hj hl=>L64.addT_stay hok hk j hj hl
  have hdr:(L64.addT x [] c).drop i=x.drop i:=L64.drop_eq hTl (fun j hj hl=>hst j hj (by omega));refine⟨L64.addK_stay hok hk _ hi,fun e=>?_,fun e=>?_⟩
  ·subst e;have:=L64.seg_stay (L:=L) (T:=L64.addT x [] c) (d:=d) (i:=i) (by rw[hTl];exact hd) (by omega) (fun j hj hl=>by
    rw[hst j hj (by omega)];have h1:=hx.2 j (by omega);rw[hR.cell _ (show d+j<L.length by omega)]at h1;have h2:=Option.some.inj h1;injection h2 with _ h3;exact h3.symm)
   rw[hTl]at this;rw[←this];exact hRi
  ·have hl:=L64.seg_len (L:=L) (T:=L64.addT x [] c) (d:=d) (a:=0) (b:=i) (by rw[hTl];exact hd) (by omega) (Nat.zero_le _);have hdl:(x.drop i).length=x.length-i:=List.length_drop;obtain⟨r1,r2⟩:=hRi.lay (x.drop i) _ (d+i) (by rw[hl,hdl];omega);refine⟨fun cz' cx' n ty hn=>copyI hn hcz hcx hi (fun hn0=>copyW cz' cx' n ty 52 Tryz.underlying52 hRi (by rw[hl,hdl];omega) ⟨rfl,fun j hj=>?_⟩ (by rw[hdl,hn])),?_,hOi.trans r2⟩
   ·rw[hdl]at hj;have h1:=hx.2 (i+j) (by omega);have h2:=hOi.block pb hob.lt (fun h=>e h.symm);rw[World.cell?_of_block (a:=⟨pb,d+i+j,none⟩) h2,Nat.add_assoc,h1,List.getD_eq_getElem?_getD,List.getD_eq_getElem?_getD,List.getElem?_drop]
   ·rw[L64.seg_rest (by rw[hTl];exact hd) (by omega) hdr rfl,hTl]at r1;exact r1))
 have HSt:=ak (fun i (hi:i<x.length)=>L64.seg_up (L:=L) (d:=d) (a:=0) (T:=L64.addT x [] c) (b:=i) (by rw[hTl];exact hd) (by omega) (Nat.zero_le _) (L64.mk_get _ hi));have HLn:=ak (fun i (hi:i≤x.length)=>L64.seg_len (L:=L) (d:=d) (T:=L64.addT x [] c) (a:=0) (b:=i) (by rw[hTl];exact hd) (by omega) (Nat.zero_le _));have HRd:=ak (fun w' i (hi:i<x.length) (h1:RowAt w' g (L64.seg L d (L64.addT x [] c) 0 i)) (h2:Only g w w')=>seg_read (w':=w') hR (by rw[hTl];exact hd) (by omega) (Nat.zero_le _) hx (fun e=>hd) h1 h2 hob.lt i hi (fun _=>Or.inr (Nat.le_refl _)));have HR:=ak hR;have HD:=ak (And.intro hd (And.intro hL (And.intro h0 hc)));have HXr:=ak hob;have HOk:=ak hok;have HS0:=ak (L64.seg_nil L d (L64.addT x [] c) 0);generalize L64.addT x [] c=T at*;generalize hX:(x.getD 0 0).toNat=X at*;generalize hu:(((X+c+0)%18446744073709551616:Nat):Int)=u at*;generalize hv:(X+c+0)/18446744073709551616=v at*;have HV:=ak (show v≤1 by have:=HKl.out 1;rw[HK1.out]at this;exact this);clear hR hd hL h0 hx hc hob hok hX hu hv hTl
 go_enter Tryz.func95,Tryz.ntmps95
 go_wp2_with fail
 refine(HAd.out _).mono ?_;rintro e w2 ⟨rfl,hb⟩;have HR2:=ak (show RowAt w2 g (L64.seg L d T 0 0) by rw[HS0.out];exact HR.out.below hb);have HO2:=ak (Only.of g hb);have hr:=HR2.out.cell d (by rw[HS0.out];have:=HD.out;omega);have hz:=blk_frozen HR2.out d;have hst:=HSt.out 0 (by have:=HD.out;omega);have HR3:=ak (show RowAt (w2.setCell ⟨g,d,none⟩ (.int .u64 u)) g (L64.seg L d T 0 1) by rw[←hst,←HT0.out,HTi.out 0 (by have:=HD.out;omega)];exact HR2.out.set d _);have HO3:=ak (HO2.out.set d (.int .u64 u));have HN:=ak (fun w' (e:w'.heap=_)=>neq_at g d pb HR3.out.ob (HXr.out.only HO3.out HR3.out) w' e);clear hb HAd e1 hst;by_cases hv0:v=0
 ·have HF:=ak (HEnd.out 1 _ (by have:=HD.out;omega) (by rw[HK1.out,hv0]) HR3.out HO3.out);subst hv0
  go_wp2_with fail
  clear hr hz;generalize w2.setCell ⟨g,d,none⟩ (.int .u64 u)=w3 at*;by_cases hgp:g=pb
  ·have hn:=ak (fun w' e=>(HN.out w' e).trans (by rw[decide_eq_false (fun h=>h hgp)]));have HGP:=ak hgp;clear hgp
   go_region_held3 (fun w'=>(binOp .neq 112 (.pointer (some ⟨g,d,none⟩)) (.pointer (some ⟨pb,d,none⟩))).run Tryz.prog w'= .ok (.bool false) w') (first|exact hn.out _ rfl|go_keep) (fail)
   go_wp2_with fail
   go_ret
   exact⟨by rw[HF.out.1];rfl,HF.out.2.1 HGP.out,HO3.out.drew⟩
  ·have hn:=ak (fun w' e=>(HN.out w' e).trans (by rw[decide_eq_true hgp]));have HGP:=ak hgp;clear hgp
   go_region_held3 (fun w'=>(binOp .neq 112 (.pointer (some ⟨g,d,none⟩)) (.pointer (some ⟨pb,d,none⟩))).run Tryz.prog w'= .ok (.bool true) w') (first|exact hn.out _ rfl|go_keep) (fail)
   go_wp2_with fail
   go_still_tail 4,(by kernel_rfl)
   change wpList _ _ _ _ _ w3.drew.drew;have HF4:=ak (HEnd.out 1 w3.drew.drew (by have:=HD.out;omega) HK1.out HR3.out.drew.drew HO3.out.drew.drew);generalize w3.drew.drew=w4 at*;obtain⟨k0,_,k2⟩:=HF4.out;obtain⟨k3,k4⟩:=k2 HGP.out;have hcp:=fun ty=>k3 (cz-1) (cx-1) (x.length-1) ty rfl
   have HE:=ak (And.intro k0 k4);clear HF4 HF HEnd k0 k2 k3 k4;generalize w4.setCells g (d+1) (u64s (x.drop 1))=w5 at*;generalize (if cz=1 then some (⟨g,d,none⟩:Addr)else some ⟨g,d+1,none⟩)=A1 at*;generalize (if cx=1 then some (⟨pb,d,none⟩:Addr)else some ⟨pb,d+1,none⟩)=A2 at*
   go_wp2_with fail
   go_ret
   exact⟨by rw[HE.out.1];rfl,HE.out.2.1,HE.out.2.2⟩
 ·have hv1:v=1:=by have:=HV.out;omega
  subst hv1
  go_wp2_with fail
  clear hr hz
  go_loopg [9] (x.length) (fun kq v9 w'=>∃(i:Nat),v9= .int .i64 (i:Int)∧Aside0 (i+kq=x.length+1∧i≤x.length)∧Aside0 (L64.addK x [] c i=1)∧Aside0 (RowAt w' g (L64.seg L d T 0 i))∧Aside0 (Only g w w'))
  case atStart=>exact⟨1,rfl,⟨⟨Nat.add_comm _ _,HD.out.2.2.1⟩⟩,HK1,HR3,HO3⟩
  case round=>
   obtain⟨i,rfl,HI,HKe,HRi,HOi⟩:=hrel;clear HR HR2 HR3 HO2 HO3 HN;by_cases cc:i<x.length
   ·cases gk with
    |zero=>exact absurd HI.out (by omega)
    |succ k1=>
     have hx1:=HRd.out _ i cc HRi.out HOi.out;have hTi:=HTi.out i cc;have hst:=HSt.out i cc;have hKi:=HKi.out i;rw[L64.getN HOk.out i]at hx1;rw[←hTi]at hst;have hX:=L64.ok_getN HOk.out i;have e0:(([]:List Int).getD i 0).toNat=0:=rfl;rw[HKe.out,e0]at hTi;have hK2:L64.addK x [] c (i+1)=((x.getD i 0).toNat+0+1)/18446744073709551616:=by rw[L64.addK,HKe.out,e0]
     generalize (x.getD i 0).toNat=X at*;generalize T.getD i 0=u2 at*;have c0:decide ((i:Int)<(x.length:Int))=true:=decide_eq_true (by omega);have c2:decide (i<x.length)=true:=decide_eq_true cc;have i1:(0:Int)≤(i:Int):=by omega
     have i2:(i:Int)<(x.length:Int):=by omega
     have hr:=HRi.out.cell (d+i) (by rw[HLn.out i (by omega)];have:=HD.out;omega);have hz:=blk_frozen HRi.out (d+i);have hW1:IntKind.i64.wrap ((i:Int)+1)=((i+1:Nat):Int):=Go.IntWalk.i64_in _ ⟨by omega,by have:=HD.out;omega⟩;by_cases hX1:X=18446744073709551615
     ·subst hX1;have hu2:u2=0:=by rw[hTi];rfl
      subst hu2;have HST:=ak hst;have HK2:=ak hK2;clear hst hK2 hTi
      go_wp2_with fail
      go_roundg k1
      case measure=>omega
      case rel=>exact⟨i+1,(by first|rfl|(rw[w64_succ i (by have:=HD.out;omega)])),⟨by have:=HI.out;omega⟩,⟨HK2.out.trans rfl⟩,⟨by rw[←HST.out];exact HRi.out.set _ _⟩,⟨HOi.out.set _ _⟩⟩
     ·have hX2:((X:Int) != 18446744073709551615)=true:=bne_iff_ne.2 (by omega);have hX3:IntKind.u64.wrap ((X:Int)+1)=u2:=by rw[hTi,IntKind.wrap_u64];omega
      have HST:=ak hst;have HK2:=ak (show L64.addK x [] c (i+1)=0 by rw[hK2];omega);have HR3:=ak (show RowAt (wr.setCell ⟨g,d+i,none⟩ (.int .u64 u2)) g (L64.seg L d T 0 (i+1)) by rw[←hst];exact HRi.out.set _ _);have HO3:=ak (HOi.out.set (d+i) (.int .u64 u2));have HN:=ak (fun w' (e:w'.heap=_)=>neq_at g d pb HR3.out.ob (HXr.out.only HO3.out HR3.out) w' e);clear hst hK2 hTi
      go_wp2_with fail
      clear hr hz hx1;generalize wr.setCell ⟨g,d+i,none⟩ (.int .u64 u2)=w3 at*;by_cases hgp:g=pb
      ·have hn:=ak (fun w' e=>(HN.out w' e).trans (by rw[decide_eq_false (fun h=>h hgp)]));have HF:=ak (HEnd.out (i+1) w3.drew cc HK2.out HR3.out.drew HO3.out.drew);have HGP:=ak hgp;clear hgp
       go_region_held3 (fun w'=>(binOp .neq 112 (.pointer (some ⟨g,d,none⟩)) (.pointer (some ⟨pb,d,none⟩))).run Tryz.prog w'= .ok (.bool false) w') (first|exact hn.out _ rfl|go_keep) (fail)
       go_wp2_with fail
       go_ret
       exact⟨by rw[HF.out.1];rfl,HF.out.2.1 HGP.out,HO3.out.drew⟩
      ·have hn:=ak (fun w' e=>(HN.out w' e).trans (by rw[decide_eq_true hgp]));have HGP:=ak hgp;clear hgp
       go_region_held3 (fun w'=>(binOp .neq 112 (.pointer (some ⟨g,d,none⟩)) (.pointer (some ⟨pb,d,none⟩))).run Tryz.prog w'= .ok (.bool true) w') (first|exact hn.out _ rfl|go_keep) (fail)
       go_wp2_with fail
       have hl2:i+1≤x.length:=cc;generalize hi2:i+1=i2 at*;have h9:(i2:Int)≤(x.length:Int):=by omega
       have h10:(0:Int)≤(i2:Int):=by omega
       clear hi2
       go_still_tail 8,(by kernel_rfl)
       change wpList _ _ _ _ _ w3.drew.drew;obtain⟨k0,_,k2⟩:=HEnd.out i2 w3.drew.drew hl2 HK2.out HR3.out.drew.drew HO3.out.drew.drew;generalize w3.drew.drew=w4 at*;obtain⟨k3,k4⟩:=k2 HGP.out;have hcp:=fun ty=>k3 (cz-i2) (cx-i2) (x.length-i2) ty rfl
       have HE:=ak (And.intro k0 k4);clear HEnd k0 k2 k3 k4;generalize w4.setCells g (d+i2) (u64s (x.drop i2))=w5 at*;generalize (if cz=i2 then some (⟨g,d,none⟩:Addr)else some ⟨g,d+i2,none⟩)=A1 at*;generalize (if cx=i2 then some (⟨pb,d,none⟩:Addr)else some ⟨pb,d+i2,none⟩)=A2 at*
       go_wp2_with fail
       go_ret
       exact⟨by rw[HE.out.1];rfl,HE.out.2.1,HE.out.2.2⟩
   ·have hi:i=x.length:=by have:=HI.out;omega
    have HL:=ak (show L64.addK x [] c x.length=1 by rw[←hi];exact HKe.out);subst hi
    go_wp2_with fail
    go_ret
    exact⟨by rw[HL.out];rfl,HRi.out,HOi.out⟩
set_option maxRecDepth 100000 in
theorem subVW_is(g d cz cx pb c:Nat)(L x:List Int)(w:World)(hR:RowAt w g L)(hd:d+x.length≤L.length)(hL:L.length≤100000)(h0:0<x.length)(hx:Rd w ⟨pb,d,none⟩ x)(hob:Ob w pb)(hok:L64.Ok x)(hc:c≤1)(hcz:x.length≤cz)(hcx:x.length≤cx):
 Calls Tryz.prog 92 #[.slice (some ⟨g,d,none⟩) x.length cz,.slice (some ⟨pb,d,none⟩) x.length cx,.int .u64 (c:Int)] w fun e w'=>e= .returned (.int .u64 (L64.subK x [] c x.length:Int))∧RowAt w' g (L64.seg L d (L64.subT x [] c) 0 x.length)∧Only g w w':=by
 have hTl:(L64.subT x [] c).length=x.length:=L64.mk_len _ _;have e1:w.cell? ⟨pb,d,none⟩=some (.int .u64 (x.getD 0 0)):=hx.2 0 h0;rw[L64.getN hok 0]at e1;have HAd:=ak (fun w0=>subc_is (x.getD 0 0).toNat c 0 (by omega) w0);have c1:((x.length:Int)==0)=false:=beq_eq_false_iff_ne.2 (by omega);have h3:(0:Int)<(x.length:Int):=by omega
 have h4:0<x.length:=h0;have h5:(1:Int)≤(x.length:Int):=by omega
 have h6:1≤x.length:=h0;have h7:(x.length:Int)≤(cz:Int):=by omega
 have h8:(x.length:Int)≤(cx:Int):=by omega
 have HT0:=ak (show(L64.subT x [] c).getD 0 0=((((x.getD 0 0).toNat+18446744073709551616-c-0)%18446744073709551616:Nat):Int)from L64.mk_get _ h0);have HK1:=ak (show L64.subK x [] c 1=(if(x.getD 0 0).toNat<c+0 then 1 else 0)from by rw[L64.subK];simp[L64.subK]);have HKl:=ak (L64.subK_le x [] (c:=c) hc);have HTi:=ak (fun i (hi:i<x.length)=>show(L64.subT x [] c).getD i 0=((((x.getD i 0).toNat+18446744073709551616-(([]:List Int).getD i 0).toNat-L64.subK x [] c i)%18446744073709551616:Nat):Int)from L64.mk_get _ hi);have HKi:=ak (fun i=>show L64.subK x [] c (i+1)=_ from rfl);have HEnd:=ak (fun i w' (hi:i≤x.length) (hk:L64.subK x [] c i=0) (hRi:RowAt w' g (L64.seg L d (L64.subT x [] c) 0 i)) (hOi:Only g w w')=>(show L64.subK x [] c x.length=0∧(g=pb→RowAt w' g (L64.seg L d (L64.subT x [] c) 0 x.length))∧(g≠pb→(∀(cz' cx' n:Nat) (ty:TypeId),n=x.length-i→(Builtin.copy_ #[52,52] ty #[.slice (if cz=i then some ⟨g,d,none⟩else some ⟨g,d+i,none⟩) n cz',.slice (if cx=i then some ⟨pb,d,none⟩else some ⟨pb,d+i,none⟩) n cx']).run Tryz.prog w'= .ok (.int .i64 (n:Int)) (w'.setCells g (d+i) (u64s (x.drop i))))∧RowAt (w'.setCells g (d+i) (u64s (x.drop i))) g (L64.seg L d (L64.subT x [] c) 0 x.length)∧Only g w (w'.setCells g (d+i) (u64s (x.drop i))))from by
  have hst: ∀j,i≤j→j<x.length→(L64.subT x [] c).getD j 0=x.getD j 0:=fun j hj hl=>L64.subT_stay hok hk j hj hl
  have hdr:(L64.subT x [] c).drop i=x.drop i:=L64.drop_eq hTl (fun j hj hl=>hst j hj (by omega));refine⟨L64.subK_stay hok hk _ hi,fun e=>?_,fun e=>?_⟩
  ·subst e;have:=L64.seg_stay (L:=L) (T:=L64.subT x [] c) (d:=d) (i:=i) (by rw[hTl];exact hd) (by omega) (fun j hj hl=>by
    rw[hst j hj (by omega)];have h1:=hx.2 j (by omega);rw[hR.cell _ (show d+j<L.length by omega)]at h1;have h2:=Option.some.inj h1;injection h2 with _ h3;exact h3.symm)
   rw[hTl]at this;rw[←this];exact hRi
  ·have hl:=L64.seg_len (L:=L) (T:=L64.subT x [] c) (d:=d) (a:=0) (b:=i) (by rw[hTl];exact hd) (by omega) (Nat.zero_le _);have hdl:(x.drop i).length=x.length-i:=List.length_drop;obtain⟨r1,r2⟩:=hRi.lay (x.drop i) _ (d+i) (by rw[hl,hdl];omega);refine⟨fun cz' cx' n ty hn=>copyI hn hcz hcx hi (fun hn0=>copyW cz' cx' n ty 52 Tryz.underlying52 hRi (by rw[hl,hdl];omega) ⟨rfl,fun j hj=>?_⟩ (by rw[hdl,hn])),?_,hOi.trans r2⟩
   ·rw[hdl]at hj;have h1:=hx.2 (i+j) (by omega);have h2:=hOi.block pb hob.lt (fun h=>e h.symm);rw[World.cell?_of_block (a:=⟨pb,d+i+j,none⟩) h2,Nat.add_assoc,h1,List.getD_eq_getElem?_getD,List.getD_eq_getElem?_getD,List.getElem?_drop]
   ·rw[L64.seg_rest (by rw[hTl];exact hd) (by omega) hdr rfl,hTl]at r1;exact r1))
 have HSt:=ak (fun i (hi:i<x.length)=>L64.seg_up (L:=L) (d:=d) (a:=0) (T:=L64.subT x [] c) (b:=i) (by rw[hTl];exact hd) (by omega) (Nat.zero_le _) (L64.mk_get _ hi));have HLn:=ak (fun i (hi:i≤x.length)=>L64.seg_len (L:=L) (d:=d) (T:=L64.subT x [] c) (a:=0) (b:=i) (by rw[hTl];exact hd) (by omega) (Nat.zero_le _));have HRd:=ak (fun w' i (hi:i<x.length) (h1:RowAt w' g (L64.seg L d (L64.subT x [] c) 0 i)) (h2:Only g w w')=>seg_read (w':=w') hR (by rw[hTl];exact hd) (by omega) (Nat.zero_le _) hx (fun e=>hd) h1 h2 hob.lt i hi (fun _=>Or.inr (Nat.le_refl _)));have HR:=ak hR;have HD:=ak (And.intro hd (And.intro hL (And.intro h0 hc)));have HXr:=ak hob;have HOk:=ak hok;have HS0:=ak (L64.seg_nil L d (L64.subT x [] c) 0);generalize L64.subT x [] c=T at*;generalize hX:(x.getD 0 0).toNat=X at*;generalize hu:(((X+18446744073709551616-c-0)%18446744073709551616:Nat):Int)=u at*;generalize hv:(if X<c+0 then 1 else 0)=v at*;have HV:=ak (show v≤1 by have:=HKl.out 1;rw[HK1.out]at this;exact this);clear hR hd hL h0 hx hc hob hok hX hu hv hTl
 go_enter Tryz.func92,Tryz.ntmps92
 go_wp2_with fail
 refine(HAd.out _).mono ?_;rintro e w2 ⟨rfl,hb⟩;have HR2:=ak (show RowAt w2 g (L64.seg L d T 0 0) by rw[HS0.out];exact HR.out.below hb);have HO2:=ak (Only.of g hb);have hr:=HR2.out.cell d (by rw[HS0.out];have:=HD.out;omega);have hz:=blk_frozen HR2.out d;have hst:=HSt.out 0 (by have:=HD.out;omega);have HR3:=ak (show RowAt (w2.setCell ⟨g,d,none⟩ (.int .u64 u)) g (L64.seg L d T 0 1) by rw[←hst,←HT0.out,HTi.out 0 (by have:=HD.out;omega)];exact HR2.out.set d _);have HO3:=ak (HO2.out.set d (.int .u64 u));have HN:=ak (fun w' (e:w'.heap=_)=>neq_at g d pb HR3.out.ob (HXr.out.only HO3.out HR3.out) w' e);clear hb HAd e1 hst;by_cases hv0:v=0
 ·have HF:=ak (HEnd.out 1 _ (by have:=HD.out;omega) (by rw[HK1.out,hv0]) HR3.out HO3.out);subst hv0
  go_wp2_with fail
  clear hr hz;generalize w2.setCell ⟨g,d,none⟩ (.int .u64 u)=w3 at*;by_cases hgp:g=pb
  ·have hn:=ak (fun w' e=>(HN.out w' e).trans (by rw[decide_eq_false (fun h=>h hgp)]));have HGP:=ak hgp;clear hgp
   go_region_held3 (fun w'=>(binOp .neq 112 (.pointer (some ⟨g,d,none⟩)) (.pointer (some ⟨pb,d,none⟩))).run Tryz.prog w'= .ok (.bool false) w') (first|exact hn.out _ rfl|go_keep) (fail)
   go_wp2_with fail
   go_ret
   exact⟨by rw[HF.out.1];rfl,HF.out.2.1 HGP.out,HO3.out.drew⟩
  ·have hn:=ak (fun w' e=>(HN.out w' e).trans (by rw[decide_eq_true hgp]));have HGP:=ak hgp;clear hgp
   go_region_held3 (fun w'=>(binOp .neq 112 (.pointer (some ⟨g,d,none⟩)) (.pointer (some ⟨pb,d,none⟩))).run Tryz.prog w'= .ok (.bool true) w') (first|exact hn.out _ rfl|go_keep) (fail)
   go_wp2_with fail
   go_still_tail 4,(by kernel_rfl)
   change wpList _ _ _ _ _ w3.drew.drew;have HF4:=ak (HEnd.out 1 w3.drew.drew (by have:=HD.out;omega) HK1.out HR3.out.drew.drew HO3.out.drew.drew);generalize w3.drew.drew=w4 at*;obtain⟨k0,_,k2⟩:=HF4.out;obtain⟨k3,k4⟩:=k2 HGP.out;have hcp:=fun ty=>k3 (cz-1) (cx-1) (x.length-1) ty rfl
   have HE:=ak (And.intro k0 k4);clear HF4 HF HEnd k0 k2 k3 k4;generalize w4.setCells g (d+1) (u64s (x.drop 1))=w5 at*;generalize (if cz=1 then some (⟨g,d,none⟩:Addr)else some ⟨g,d+1,none⟩)=A1 at*;generalize (if cx=1 then some (⟨pb,d,none⟩:Addr)else some ⟨pb,d+1,none⟩)=A2 at*
   go_wp2_with fail
   go_ret
   exact⟨by rw[HE.out.1];rfl,HE.out.2.1,HE.out.2.2⟩
 ·have hv1:v=1:=by have:=HV.out;omega
  subst hv1
  go_wp2_with fail
  clear hr hz
  go_loopg [9] (x.length) (fun kq v9 w'=>∃(i:Nat),v9= .int .i64 (i:Int)∧Aside0 (i+kq=x.length+1∧i≤x.length)∧Aside0 (L64.subK x [] c i=1)∧Aside0 (RowAt w' g (L64.seg L d T 0 i))∧Aside0 (Only g w w'))
  case atStart=>exact⟨1,rfl,⟨⟨Nat.add_comm _ _,HD.out.2.2.1⟩⟩,HK1,HR3,HO3⟩
  case round=>
   obtain⟨i,rfl,HI,HKe,HRi,HOi⟩:=hrel;clear HR HR2 HR3 HO2 HO3 HN;by_cases cc:i<x.length
   ·cases gk with
    |zero=>exact absurd HI.out (by omega)
    |succ k1=>
     have hx1:=HRd.out _ i cc HRi.out HOi.out;have hTi:=HTi.out i cc;have hst:=HSt.out i cc;have hKi:=HKi.out i;rw[L64.getN HOk.out i]at hx1;rw[←hTi]at hst;have hX:=L64.ok_getN HOk.out i;have e0:(([]:List Int).getD i 0).toNat=0:=rfl;rw[HKe.out,e0]at hTi;have hK2:L64.subK x [] c (i+1)=(if(x.getD i 0).toNat<0+1 then 1 else 0):=by rw[L64.subK,HKe.out,e0]
     generalize (x.getD i 0).toNat=X at*;generalize T.getD i 0=u2 at*;have c0:decide ((i:Int)<(x.length:Int))=true:=decide_eq_true (by omega);have c2:decide (i<x.length)=true:=decide_eq_true cc;have i1:(0:Int)≤(i:Int):=by omega
     have i2:(i:Int)<(x.length:Int):=by omega
     have hr:=HRi.out.cell (d+i) (by rw[HLn.out i (by omega)];have:=HD.out;omega);have hz:=blk_frozen HRi.out (d+i);have hW1:IntKind.i64.wrap ((i:Int)+1)=((i+1:Nat):Int):=Go.IntWalk.i64_in _ ⟨by omega,by have:=HD.out;omega⟩;by_cases hX1:X=0
     ·subst hX1;have hu2:u2=18446744073709551615:=by rw[hTi];rfl
      subst hu2;have HST:=ak hst;have HK2:=ak hK2;clear hst hK2 hTi
      go_wp2_with fail
      go_roundg k1
      case measure=>omega
      case rel=>exact⟨i+1,(by first|rfl|(rw[w64_succ i (by have:=HD.out;omega)])),⟨by have:=HI.out;omega⟩,⟨HK2.out.trans rfl⟩,⟨by rw[←HST.out];exact HRi.out.set _ _⟩,⟨HOi.out.set _ _⟩⟩
     ·have hX2:((X:Int) != 0)=true:=bne_iff_ne.2 (by omega);have hX3:IntKind.u64.wrap ((X:Int)-1)=u2:=by rw[hTi,IntKind.wrap_u64];omega
      have HST:=ak hst;have HK2:=ak (show L64.subK x [] c (i+1)=0 by rw[hK2,if_neg (by omega)]);have HR3:=ak (show RowAt (wr.setCell ⟨g,d+i,none⟩ (.int .u64 u2)) g (L64.seg L d T 0 (i+1)) by rw[←hst];exact HRi.out.set _ _);have HO3:=ak (HOi.out.set (d+i) (.int .u64 u2));have HN:=ak (fun w' (e:w'.heap=_)=>neq_at g d pb HR3.out.ob (HXr.out.only HO3.out HR3.out) w' e);clear hst hK2 hTi
      go_wp2_with fail
      clear hr hz hx1;generalize wr.setCell ⟨g,d+i,none⟩ (.int .u64 u2)=w3 at*;by_cases hgp:g=pb
      ·have hn:=ak (fun w' e=>(HN.out w' e).trans (by rw[decide_eq_false (fun h=>h hgp)]));have HF:=ak (HEnd.out (i+1) w3.drew cc HK2.out HR3.out.drew HO3.out.drew);have HGP:=ak hgp;clear hgp
       go_region_held3 (fun w'=>(binOp .neq 112 (.pointer (some ⟨g,d,none⟩)) (.pointer (some ⟨pb,d,none⟩))).run Tryz.prog w'= .ok (.bool false) w') (first|exact hn.out _ rfl|go_keep) (fail)
       go_wp2_with fail
       go_ret
       exact⟨by rw[HF.out.1];rfl,HF.out.2.1 HGP.out,HO3.out.drew⟩
      ·have hn:=ak (fun w' e=>(HN.out w' e).trans (by rw[decide_eq_true hgp]));have HGP:=ak hgp;clear hgp
       go_region_held3 (fun w'=>(binOp .neq 112 (.pointer (some ⟨g,d,none⟩)) (.pointer (some ⟨pb,d,none⟩))).run Tryz.prog w'= .ok (.bool true) w') (first|exact hn.out _ rfl|go_keep) (fail)
       go_wp2_with fail
       have hl2:i+1≤x.length:=cc;generalize hi2:i+1=i2 at*;have h9:(i2:Int)≤(x.length:Int):=by omega
       have h10:(0:Int)≤(i2:Int):=by omega
       clear hi2
       go_still_tail 8,(by kernel_rfl)
       change wpList _ _ _ _ _ w3.drew.drew;obtain⟨k0,_,k2⟩:=HEnd.out i2 w3.drew.drew hl2 HK2.out HR3.out.drew.drew HO3.out.drew.drew;generalize w3.drew.drew=w4 at*;obtain⟨k3,k4⟩:=k2 HGP.out;have hcp:=fun ty=>k3 (cz-i2) (cx-i2) (x.length-i2) ty rfl
       have HE:=ak (And.intro k0 k4);clear HEnd k0 k2 k3 k4;generalize w4.setCells g (d+i2) (u64s (x.drop i2))=w5 at*;generalize (if cz=i2 then some (⟨g,d,none⟩:Addr)else some ⟨g,d+i2,none⟩)=A1 at*;generalize (if cx=i2 then some (⟨pb,d,none⟩:Addr)else some ⟨pb,d+i2,none⟩)=A2 at*
       go_wp2_with fail
       go_ret
       exact⟨by rw[HE.out.1];rfl,HE.out.2.1,HE.out.2.2⟩
   ·have hi:i=x.length:=by have:=HI.out;omega
    have HL:=ak (show L64.subK x [] c x.length=1 by rw[←hi];exact HKe.out);subst hi
    go_wp2_with fail
    go_ret
    exact⟨by rw[HL.out];rfl,HRi.out,HOi.out⟩
end Go.Proofs.YthlakefgobflnaaGreatDoor.G
