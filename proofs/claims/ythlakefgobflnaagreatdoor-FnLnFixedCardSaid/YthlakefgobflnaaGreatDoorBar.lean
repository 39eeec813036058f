/- CONTRACTS of spec_ParseWhole: each as the plain function beside it. (Began as print.sh's text for this seat; the turns are those of wip/tools/split.py.) WHAT THE REFERENCE SAYS OF A TEXT: NatOf, ParseWhole, Whole_String, OfDec. WHAT THE REFERENCE SAYS OF TEXTS: a whole number's text; lengths. NUMBERS AS LIMBS of base 256 (by wip/tools/bases.py, from Lm). NUMBERS AS LIMBS of base 4294967296 (by wip/tools/bases.py, from Lm). NUMBERS AS LIMBS of base 18446744073709551616 (by wip/tools/bases.py, from Lm). -/
import Derived.Test.YthlakefgobflnaaGreatDoorBaq
import Derived.Test.YthlakefgobflnaaGreatDoorBah
import Derived.Test.YthlakefgobflnaaGreatDoorBad
import Derived.Test.YthlakefgobflnaaGreatDoorBai
import Derived.WideShapes
import Derived.Test.YthlakefgobflnaaGreatDoorBaa
namespace Go.Proofs.YthlakefgobflnaaGreatDoor.S
open Go.RowKit Go.Proofs.YthlakefgobflnaaGreatDoorW.PrintWords Go.Proofs.YthlakefgobflnaaGreatDoorW.PrintLast Go.Proofs.YthlakefgobflnaaGreatDoorW.PrintMore
attribute [local go_sem] max2_int min2_int max_two min_two max_three min_three max_four min_four   -- for this text's walks alone
set_option linter.unusedVariables false
set_option linter.unusedSimpArgs false
mutual
def spec_ParseWhole.j0:Nat→ByteArray→Bool→Option (Bool×List Int×Bool)
 |0,_,_=>none
 |k+1,x0,x4=>if x0.toList=([]:List UInt8)then(spec_ParseWhole.j1 k x0 x4 false)else(if 0<(x0.size:Int)then(if(bt x0 0)=45 then(spec_ParseWhole.j1 k x0 x4 true)else(spec_ParseWhole.j1 k x0 x4 ((bt x0 0)==43)))else(none))
def spec_ParseWhole.j1:Nat→ByteArray→Bool→Bool→Option (Bool×List Int×Bool)
 |0,_,_,_=>none
 |k+1,x0,x4,x25=>if x25=true then(if 1≤(x0.size:Int)then((spec_NatOf.f k (x0.extract 1 x0.size)).bind fun bt229=>((spec_wholeOf.f x4 bt229.1).bind fun bt233=>(some (bt233.1,bt233.2,bt229.2))))else(none))else((spec_NatOf.f k x0).bind fun bt237=>((spec_wholeOf.f x4 bt237.1).bind fun bt241=>(some (bt241.1,bt241.2,bt237.2))))
end
def spec_ParseWhole.f(k:Nat)(a0:ByteArray):Option (Bool×List Int×Bool):=if a0.toList=([]:List UInt8)then(spec_ParseWhole.j0 k a0 false)else(if 0<(a0.size:Int)then(spec_ParseWhole.j0 k a0 ((bt a0 0)==45))else(none))
set_option maxHeartbeats 8000000 in
set_option maxRecDepth 100000 in
theorem spec_ParseWhole.calls(k:Nat)(a0:ByteArray)(r1:Bool)(r2:List Int)(r3:Bool)(w:World)(h:spec_ParseWhole.f k a0=some (r1,r2,r3)):
 Calls Tryz.prog 21 #[.string a0] w fun e w'=>∃v1_:Value,e= .returned (.tuple #[.agg #[.bool r1,v1_],.bool r3])∧Kd.V (Kd.int .u32) 40 w' w.heap.size (fun k_=>(w.heap.size≤k_)) v1_ r2∧Below w.heap.size w w':=by
 have hu32:=Tryz.underlying32;have HB:=ak (Below.refl w.heap.size w);have H:(if a0.toList=([]:List UInt8)then(spec_ParseWhole.j0 k a0 false)else(if 0<(a0.size:Int)then(spec_ParseWhole.j0 k a0 ((bt a0 0)==45))else(none)))=some (r1,r2,r3):=h;clear h;have HC2:=ak H;clear H
 go_enter Tryz.func21,Tryz.ntmps21
 go_upto_region 1 with(first|((with_reducible refine gate_dst (N:=2) rfl ?_);refine box_event ?hg (N:=2) ?hd (cs:=#[.bool false,.slice none 0 0]) (t:=32) ?hr ?_;(case hd=>rfl);(case hg=>rfl);(case hr=>first|(go_simp;done)|(go_simp;rfl));intro gb228 hg w3 hbox hb;have BK228:=ak (hbox);have GW228:=ak ((by rw[hg];exact(below_size (bw HB.out)):w.heap.size≤gb228));have GE228:=ak ((by rw[hg];exact(below_size (bw HB.out)):w.heap.size≤gb228));replace HB:=ak (below_step (bw HB.out) hb);clear hb hbox hg))
 (try simp only[Act.put,List.setIfInBounds_toArray,List.set_cons_zero,List.set_cons_succ])
 go_cut [4] (fun v4 wc=>∃(kq:Nat) (x4_1:Bool),v4= .bool x4_1∧Aside0 (spec_ParseWhole.j0 kq a0 x4_1=some (r1,r2,r3))∧Aside0 (kq≤k)∧Aside0 (wc.heap[gb228]?=some (.cells #[.bool false,(.slice none 0 0)] 32 (0,0)))∧Aside0 (Below w.heap.size w wc))
 case first=>
  have H:=HC2.out;clear HC2;by_cases c4:a0.toList=([]:List UInt8)
  ·rw[if_pos c4]at H;have c4b0:(a0.toList==([]:List UInt8))=true:=beq_iff_eq.mpr c4;have c4b1:(a0.toList != ([]:List UInt8))=false:=bne_eq_false_iff_eq.mpr c4;clear c4
   (first|rw[c4b0]|(simp only[i64_w,i32_w];rw[c4b0])|skip)
   have H':=ak H;clear H
   go_wp2
   go_meet
   case rel=>exact⟨_,(false),zr,H',⟨by first|omega|exact Nat.le_refl _⟩,⟨kb BK228.out⟩,⟨bw1 HB.out GE228.out⟩⟩
  ·rw[if_neg c4]at H;have c4b0:(a0.toList==([]:List UInt8))=false:=beq_eq_false_iff_ne.mpr c4;have c4b1:(a0.toList != ([]:List UInt8))=true:=bne_iff_ne.mpr c4
   (first|rw[c4b0]|(simp only[i64_w,i32_w];rw[c4b0])|skip)
   replace H:=gd H;obtain⟨c5,H⟩:=H;have c5b0:decide (0<(a0.size:Int))=true:=decide_eq_true c5;have c5b1:decide (0<a0.size)=true:=decide_eq_true (by omega);clear c5;have H':=ak H;clear H;have p6:0≤(0:Int):=(by omega);have q6:0<a0.size:=(by have:(0:Int)<(a0.size:Int):=of_decide_eq_true za;omega);have hx6: ∀h:0<a0.size,((a0[0]'h).toNat:Int)=bt a0 0:=bt_at a0 0
   clear p6;have qi6:(0<(a0.size:Int))=True:=eq_true (of_decide_eq_true za);replace q6:=eq_true q6
   go_wp2
   go_meet
   case rel=>exact⟨_,(((bt a0 0)==45)),zr,H',⟨by first|omega|exact Nat.le_refl _⟩,⟨kb BK228.out⟩,⟨bw1 HB.out GE228.out⟩⟩
 case rest=>
  clear HC2;obtain⟨kq,x4_1,rfl,HA,HJ1,BK228,HB⟩:=hcut;cases kq with
  |zero=>exact absurd HA.out (by simp[spec_ParseWhole.j0])
  |succ kj1=>
   have H:=HA.out;clear HA;simp only[spec_ParseWhole.j0]at H;have HC7:=ak H;clear H
   go_upto_region 2 with(fail)
   go_cut [25] (fun v25 wc=>∃(kq:Nat) (x25_6:Bool),v25= .bool x25_6∧Aside0 (spec_ParseWhole.j1 kq a0 x4_1 x25_6=some (r1,r2,r3))∧Aside0 (kq≤kj1)∧Aside0 (wc.heap[gb228]?=some (.cells #[.bool false,(.slice none 0 0)] 32 (0,0)))∧Aside0 (Below w.heap.size w wc))
   case first=>
    have H:=HC7.out;clear HC7;by_cases c8:a0.toList=([]:List UInt8)
    ·rw[if_pos c8]at H;have c8b0:(a0.toList==([]:List UInt8))=true:=beq_iff_eq.mpr c8;have c8b1:(a0.toList != ([]:List UInt8))=false:=bne_eq_false_iff_eq.mpr c8;clear c8
     (first|rw[c8b0]|(simp only[i64_w,i32_w];rw[c8b0])|skip)
     have H':=ak H;clear H
     go_wp2
     go_meet
     case rel=>exact⟨_,(false),zr,H',⟨by have:=HJ1.out;first|omega|exact Nat.le_refl _⟩,⟨kb BK228.out⟩,⟨bw1 HB.out GE228.out⟩⟩
    ·rw[if_neg c8]at H;have c8b0:(a0.toList==([]:List UInt8))=false:=beq_eq_false_iff_ne.mpr c8;have c8b1:(a0.toList != ([]:List UInt8))=true:=bne_iff_ne.mpr c8
     (first|rw[c8b0]|(simp only[i64_w,i32_w];rw[c8b0])|skip)
     replace H:=gd H;obtain⟨c9,H⟩:=H;have c9b0:decide (0<(a0.size:Int))=true:=decide_eq_true c9;have c9b1:decide (0<a0.size)=true:=decide_eq_true (by omega);clear c9;by_cases c11:(bt a0 0)=45
     ·rw[if_pos c11]at H;have c11b0:((bt a0 0)==45)=true:=beq_iff_eq.mpr c11;have c11b1:((bt a0 0) != 45)=false:=bne_eq_false_iff_eq.mpr c11;clear c11;have H':=ak H;clear H;have p10:0≤(0:Int):=(by omega);have q10:0<a0.size:=(by have:(0:Int)<(a0.size:Int):=of_decide_eq_true za;omega);have hx10: ∀h:0<a0.size,((a0[0]'h).toNat:Int)=bt a0 0:=bt_at a0 0
      clear p10;have qi10:(0<(a0.size:Int))=True:=eq_true (of_decide_eq_true za);replace q10:=eq_true q10
      go_wp2
      go_meet
      case rel=>exact⟨_,(true),zr,H',⟨by have:=HJ1.out;first|omega|exact Nat.le_refl _⟩,⟨kb BK228.out⟩,⟨bw1 HB.out GE228.out⟩⟩
     ·rw[if_neg c11]at H;have c11b0:((bt a0 0)==45)=false:=beq_eq_false_iff_ne.mpr c11;have c11b1:((bt a0 0) != 45)=true:=bne_iff_ne.mpr c11;have H':=ak H;clear H;have p10:0≤(0:Int):=(by omega);have q10:0<a0.size:=(by have:(0:Int)<(a0.size:Int):=of_decide_eq_true za;omega);have hx10: ∀h:0<a0.size,((a0[0]'h).toNat:Int)=bt a0 0:=bt_at a0 0
      clear p10;have qi10:(0<(a0.size:Int))=True:=eq_true (of_decide_eq_true za);replace q10:=eq_true q10;have p12:0≤(0:Int):=(by omega);have q12:0<a0.size:=(by have:(0:Int)<(a0.size:Int):=of_decide_eq_true za;omega);have hx12: ∀h:0<a0.size,((a0[0]'h).toNat:Int)=bt a0 0:=bt_at a0 0
      clear p12;have qi12:(0<(a0.size:Int))=True:=eq_true (of_decide_eq_true za);replace q12:=eq_true q12
      go_wp2
      go_meet
      case rel=>exact⟨_,(((bt a0 0)==43)),zr,H',⟨by have:=HJ1.out;first|omega|exact Nat.le_refl _⟩,⟨kb BK228.out⟩,⟨bw1 HB.out GE228.out⟩⟩
   case rest=>
    clear HC7;obtain⟨kq,x25_6,rfl,HA,HJ6,BK228,HB⟩:=hcut;cases kq with
    |zero=>exact absurd HA.out (by simp[spec_ParseWhole.j1])
    |succ kj6=>
     have H:=HA.out;clear HA;simp only[spec_ParseWhole.j1]at H;by_cases c13:x25_6=true
     ·subst c13;have H1:(if 1≤(a0.size:Int)then((spec_NatOf.f kj6 (a0.extract 1 a0.size)).bind fun bt229=>((spec_wholeOf.f x4_1 bt229.1).bind fun bt233=>(some (bt233.1,bt233.2,bt229.2))))else(none))=some (r1,r2,r3):=by rw[if_pos rfl]at H;exact H
      clear H;have H:=H1;clear H1;replace H:=gd H;obtain⟨c14,H⟩:=H;have c14b0:=eq_true c14;have c14b1:decide (1≤(a0.size:Int))=true:=decide_eq_true c14;clear c14;replace H:=Option.bind_eq_some_iff.mp H;obtain⟨⟨t229,t232⟩,A150,H⟩:=H;replace H:((spec_wholeOf.f x4_1 t229).bind fun bt233=>(some (bt233.1,bt233.2,t232)))=some (r1,r2,r3):=H;have A15:=ak A150;clear A150;replace H:=Option.bind_eq_some_iff.mp H;obtain⟨⟨t233,t234⟩,A160,H⟩:=H;replace H:(some (t233,t234,t232))=some (r1,r2,r3):=H;have A16:=ak A160;clear A160;simp only[Option.some.injEq,Prod.mk.injEq]at H;obtain⟨rfl,rfl,rfl⟩:=H
      go_wp2_with (first|((with_reducible refine gate_callee (f:=43) rfl ?_);refine goesL_ (some 30) rfl rfl Tryz.func43 (by kernel_rfl) rfl #[.string (a0.extract 1 a0.size)] rfl zm ?_;(with_reducible refine(spec_NatOf.calls kj6 (a0.extract 1 a0.size) t229 t232 _ A15.out).mono ?_);rintro e w17 ⟨v230,rfl,ho0,hb⟩;refine⟨_,rfl,?_⟩;have HO231:=ak (Kd.V_lower (Kd.V_mono (ok':=fun k_=>(w.heap.size≤k_)∧k_≠gb228) ho0 (fun k_ hk_=>⟨(Nat.le_trans (below_size (bw1 HB.out GE228.out)) hk_),(Kd.freshB (g:=gb228) (o:=.cells #[.bool false,.slice none 0 0] 32 (0,0)) (kb BK228.out) k_ hk_)⟩)) (below_size (bw1 HB.out GE228.out)));replace BK228:=ak (blk_below (g:=gb228) (o:=.cells #[.bool false,.slice none 0 0] 32 (0,0)) (kb BK228.out) hb);replace HB:=ak (below_step (bw1 HB.out GE228.out) hb);(try clear hb);(try clear hb2);(try clear hk);(try clear hi);(try clear ho0);obtain⟨Ao18,co18,eo18⟩:=Kd.V_slice HO231.out;subst eo18)|((with_reducible refine gate_callee (f:=44) rfl ?_);refine goesL_ (some 35) rfl rfl Tryz.func44 (by kernel_rfl) rfl #[.bool x4_1,.slice Ao18 t229.length co18] rfl zm ?_;(with_reducible refine(spec_wholeOf.calls x4_1 (fun k_=>((w.heap.size≤k_)∧k_≠gb228)) _ _ t229 t233 t234 _ ?side1 A16.out).mono ?_);(case side1=>exact HO231.out);rintro e w19 ⟨v235,rfl,ho0,hb⟩;refine⟨_,rfl,?_⟩;replace HO231:=ak (Kd.V_below (kv HO231.out) hb);have HO236:=ak (Kd.V_lower (Kd.V_mono (ok':=fun k_=>(w.heap.size≤k_)∧k_≠gb228) ho0 (fun k_ hk_=>⟨Or.elim hk_ (fun hs_=>hs_.1) (fun hn_=>(Nat.le_trans (below_size (bw1 HB.out GE228.out)) hn_)),Or.elim hk_ (fun hs_=>hs_.2) (fun hn_=>(Kd.freshB (g:=gb228) (o:=.cells #[.bool false,.slice none 0 0] 32 (0,0)) (kb BK228.out) k_ hn_))⟩)) (below_size (bw1 HB.out GE228.out)));replace BK228:=ak (blk_below (g:=gb228) (o:=.cells #[.bool false,.slice none 0 0] 32 (0,0)) (kb BK228.out) hb);replace HB:=ak (below_step (bw1 HB.out GE228.out) hb);(try clear hb);(try clear hb2);(try clear hk);(try clear hi);(try clear ho0);have hcz20_0:w19.cell? ⟨gb228,0,none⟩=some (.bool false):=(blk_cell BK228.out 0).trans rfl;have hcz20_1:w19.cell? ⟨gb228,1,none⟩=some (.slice none 0 0):=(blk_cell BK228.out 1).trans rfl;have hfz20_0:=blk_frozen BK228.out 0;have hfz20_1:=blk_frozen BK228.out 1;obtain⟨Ao21,co21,eo21⟩:=Kd.V_slice HO236.out;subst eo21))
      refine bodyPost_ret (results_ct rfl _ _ gb228 32 #[.bool t233,.slice Ao21 t234.length co21] (0,0) _ rfl (by(with_reducible repeat(first|refine blk_drewN ?_ _|refine blk_drew ?_|refine blk_alloc ?_ _));refine blk_put (cs:=#[.bool t233,.slice none 0 0]) ?_ 1 _ rfl;(with_reducible repeat(first|refine blk_drewN ?_ _|refine blk_drew ?_|refine blk_alloc ?_ _));refine blk_put (cs:=#[.bool false,.slice none 0 0]) ?_ 0 _ rfl;(with_reducible repeat(first|refine blk_drewN ?_ _|refine blk_drew ?_|refine blk_alloc ?_ _));exact BK228.out) Tryz.underlying32 rfl (by kernel_rfl)) rfl ?_;exact⟨_,by first|rfl|(simp[errW_none,errW_some]<;>rfl)|(simp[*,errW_none,errW_some]<;>rfl),by(with_reducible repeat(first|apply Kd.V_alloc|apply Kd.V_drewN|apply Kd.V_drew));exact Kd.V_mono (Kd.V_far (p:=⟨gb228,1,none⟩) (Kd.V_far (p:=⟨gb228,0,none⟩) (Kd.V_mono HO236.out (fun k_ hk=>(⟨hk,hk.2⟩:_∧k_≠gb228))) (fun _ hk=>hk.2) (.bool t233)) (fun _ hk=>hk.2) (.slice Ao21 t234.length co21)) (fun _ hk=>hk.1.1),bw1 HB.out GE228.out⟩
     ·replace c13:=Bool.eq_false_iff.mpr c13;subst c13;have H1:((spec_NatOf.f kj6 a0).bind fun bt237=>((spec_wholeOf.f x4_1 bt237.1).bind fun bt241=>(some (bt241.1,bt241.2,bt237.2))))=some (r1,r2,r3):=by rw[if_neg (show¬(false=true) by decide)]at H;exact H
      clear H;have H:=H1;clear H1;replace H:=Option.bind_eq_some_iff.mp H;obtain⟨⟨t237,t240⟩,A220,H⟩:=H;replace H:((spec_wholeOf.f x4_1 t237).bind fun bt241=>(some (bt241.1,bt241.2,t240)))=some (r1,r2,r3):=H;have A22:=ak A220;clear A220;replace H:=Option.bind_eq_some_iff.mp H;obtain⟨⟨t241,t242⟩,A230,H⟩:=H;replace H:(some (t241,t242,t240))=some (r1,r2,r3):=H;have A23:=ak A230;clear A230;simp only[Option.some.injEq,Prod.mk.injEq]at H;obtain⟨rfl,rfl,rfl⟩:=H
      go_wp2_with (first|((with_reducible refine gate_callee (f:=43) rfl ?_);refine goesL_ (some 30) rfl rfl Tryz.func43 (by kernel_rfl) rfl #[.string a0] rfl zm ?_;(with_reducible refine(spec_NatOf.calls kj6 a0 t237 t240 _ A22.out).mono ?_);rintro e w24 ⟨v238,rfl,ho0,hb⟩;refine⟨_,rfl,?_⟩;have HO239:=ak (Kd.V_lower (Kd.V_mono (ok':=fun k_=>(w.heap.size≤k_)∧k_≠gb228) ho0 (fun k_ hk_=>⟨(Nat.le_trans (below_size (bw1 HB.out GE228.out)) hk_),(Kd.freshB (g:=gb228) (o:=.cells #[.bool false,.slice none 0 0] 32 (0,0)) (kb BK228.out) k_ hk_)⟩)) (below_size (bw1 HB.out GE228.out)));replace BK228:=ak (blk_below (g:=gb228) (o:=.cells #[.bool false,.slice none 0 0] 32 (0,0)) (kb BK228.out) hb);replace HB:=ak (below_step (bw1 HB.out GE228.out) hb);(try clear hb);(try clear hb2);(try clear hk);(try clear hi);(try clear ho0);obtain⟨Ao25,co25,eo25⟩:=Kd.V_slice HO239.out;subst eo25)|((with_reducible refine gate_callee (f:=44) rfl ?_);refine goesL_ (some 35) rfl rfl Tryz.func44 (by kernel_rfl) rfl #[.bool x4_1,.slice Ao25 t237.length co25] rfl zm ?_;(with_reducible refine(spec_wholeOf.calls x4_1 (fun k_=>((w.heap.size≤k_)∧k_≠gb228)) _ _ t237 t241 t242 _ ?side1 A23.out).mono ?_);(case side1=>exact HO239.out);rintro e w26 ⟨v243,rfl,ho0,hb⟩;refine⟨_,rfl,?_⟩;replace HO239:=ak (Kd.V_below (kv HO239.out) hb);have HO244:=ak (Kd.V_lower (Kd.V_mono (ok':=fun k_=>(w.heap.size≤k_)∧k_≠gb228) ho0 (fun k_ hk_=>⟨Or.elim hk_ (fun hs_=>hs_.1) (fun hn_=>(Nat.le_trans (below_size (bw1 HB.out GE228.out)) hn_)),Or.elim hk_ (fun hs_=>hs_.2) (fun hn_=>(Kd.freshB (g:=gb228) (o:=.cells #[.bool false,.slice none 0 0] 32 (0,0)) (kb BK228.out) k_ hn_))⟩)) (below_size (bw1 HB.out GE228.out)));replace BK228:=ak (blk_below (g:=gb228) (o:=.cells #[.bool false,.slice none 0 0] 32 (0,0)) (kb BK228.out) hb);replace HB:=ak (below_step (bw1 HB.out GE228.out) hb);(try clear hb);(try clear hb2);(try clear hk);(try clear hi);(try clear ho0);have hcz27_0:w26.cell? ⟨gb228,0,none⟩=some (.bool false):=(blk_cell BK228.out 0).trans rfl;have hcz27_1:w26.cell? ⟨gb228,1,none⟩=some (.slice none 0 0):=(blk_cell BK228.out 1).trans rfl;have hfz27_0:=blk_frozen BK228.out 0;have hfz27_1:=blk_frozen BK228.out 1;obtain⟨Ao28,co28,eo28⟩:=Kd.V_slice HO244.out;subst eo28))
      refine bodyPost_ret (results_ct rfl _ _ gb228 32 #[.bool t241,.slice Ao28 t242.length co28] (0,0) _ rfl (by(with_reducible repeat(first|refine blk_drewN ?_ _|refine blk_drew ?_|refine blk_alloc ?_ _));refine blk_put (cs:=#[.bool t241,.slice none 0 0]) ?_ 1 _ rfl;(with_reducible repeat(first|refine blk_drewN ?_ _|refine blk_drew ?_|refine blk_alloc ?_ _));refine blk_put (cs:=#[.bool false,.slice none 0 0]) ?_ 0 _ rfl;(with_reducible repeat(first|refine blk_drewN ?_ _|refine blk_drew ?_|refine blk_alloc ?_ _));exact BK228.out) Tryz.underlying32 rfl (by kernel_rfl)) rfl ?_;exact⟨_,by first|rfl|(simp[errW_none,errW_some]<;>rfl)|(simp[*,errW_none,errW_some]<;>rfl),by(with_reducible repeat(first|apply Kd.V_alloc|apply Kd.V_drewN|apply Kd.V_drew));exact Kd.V_mono (Kd.V_far (p:=⟨gb228,1,none⟩) (Kd.V_far (p:=⟨gb228,0,none⟩) (Kd.V_mono HO244.out (fun k_ hk=>(⟨hk,hk.2⟩:_∧k_≠gb228))) (fun _ hk=>hk.2) (.bool t241)) (fun _ hk=>hk.2) (.slice Ao28 t242.length co28)) (fun _ hk=>hk.1.1),bw1 HB.out GE228.out⟩
end Go.Proofs.YthlakefgobflnaaGreatDoor.S
namespace Go.Proofs.YthlakefgobflnaaGreatDoor.Lm
open Go.RowKit Go.Proofs.YthlakefgobflnaaGreatDoorW.PrintWords Go.Proofs.YthlakefgobflnaaGreatDoorW.PrintMore Go.Proofs.YthlakefgobflnaaGreatDoor.S
set_option linter.unusedVariables false
end Go.Proofs.YthlakefgobflnaaGreatDoor.Lm
namespace Go.Proofs.YthlakefgobflnaaGreatDoor.Lm
open Go.RowKit Go.Proofs.YthlakefgobflnaaGreatDoorW.PrintWords Go.Proofs.YthlakefgobflnaaGreatDoorW.PrintMore Go.Proofs.YthlakefgobflnaaGreatDoor.S
set_option linter.unusedVariables false
def text(b:Bool)(n:Nat):ByteArray:=if b=true then(⟨#[45]⟩:ByteArray)++decimal n else decimal n
theorem bytes_eq{a b:ByteArray}(h:a.toList=b.toList):a=b:=by
 rw[ByteArray.toList_eq,ByteArray.toList_eq]at h;exact Go.WideShapes.bytes_inj h
end Go.Proofs.YthlakefgobflnaaGreatDoor.Lm
namespace Go.Proofs.YthlakefgobflnaaGreatDoor.L8
open Go.RowKit Go.Proofs.YthlakefgobflnaaGreatDoorW.PrintWords
set_option linter.unusedVariables false
def val:List Int→Nat
 | []=>0
 |x::xs=>x.toNat+256*val xs
end Go.Proofs.YthlakefgobflnaaGreatDoor.L8
namespace Go.Proofs.YthlakefgobflnaaGreatDoor.L32
open Go.RowKit Go.Proofs.YthlakefgobflnaaGreatDoorW.PrintWords
set_option linter.unusedVariables false
def lim(n:Nat):List Int:=if _h:n=0 then []else((n%4294967296:Nat):Int)::lim (n/4294967296)
termination_by n
decreasing_by omega
def val:List Int→Nat
 | []=>0
 |x::xs=>x.toNat+4294967296*val xs
def Ok(l:List Int):Prop:=∀x,x∈l→0≤x∧x<4294967296
theorem lim_zero:lim 0= []:=by rw[lim];simp
theorem lim_pos{n:Nat}(h:n≠0):lim n=((n%4294967296:Nat):Int)::lim (n/4294967296):=by rw[lim,dif_neg h]
theorem lim_eq_nil{n:Nat}:lim n= []↔n=0:=by
 constructor
 ·intro h;by_cases e:n=0
  ·exact e
  ·rw[lim_pos e]at h;cases h
 ·rintro rfl;exact lim_zero
theorem val_lim(n:Nat):val (lim n)=n:=by
 induction n using Nat.strongRecOn with
 |_ n ih=>
  by_cases h:n=0
  ·subst h;rw[lim_zero];rfl
  ·rw[lim_pos h,val,ih _ (by omega),Int.toNat_natCast];omega
theorem ok_lim(n:Nat):Ok (lim n):=by
 induction n using Nat.strongRecOn with
 |_ n ih=>
  by_cases h:n=0
  ·subst h;rw[lim_zero];intro x hx;cases hx
  ·rw[lim_pos h];intro x hx;rcases List.mem_cons.1 hx with rfl|hx
   ·omega
   ·exact ih _ (by omega) x hx
theorem len_zero{n:Nat}:((lim n).length:Int)=0↔n=0:=by
 rw[←lim_eq_nil,←List.length_eq_zero_iff];omega
theorem len_lim(n i:Nat):i<(lim n).length↔n/4294967296^i≠0:=by
 induction i generalizing n with
 |zero=>
  rw[Nat.pow_zero,Nat.div_one,ne_eq,←lim_eq_nil,←List.length_eq_zero_iff];omega
 |succ i ih=>
  by_cases h:n=0
  ·subst h;simp[lim_zero]
  ·rw[lim_pos h,List.length_cons,Nat.add_lt_add_iff_right,ih,Nat.pow_succ,Nat.mul_comm,←Nat.div_div_eq_div_mul]
theorem len_le{n m:Nat}(h:n<4294967296^m):(lim n).length≤m:=by
 have h1:=len_lim n m;have h2:n/4294967296^m=0:=Nat.div_eq_of_lt h;rcases Nat.lt_or_ge m (lim n).length with h3|h3
 ·exact absurd h2 (h1.1 h3)
 ·exact h3
theorem val_append(a b:List Int):val (a++b)=val a+4294967296^a.length*val b:=by
 induction a with
 |nil=>simp[val]
 |cons x xs ih=>
  have e:4294967296^xs.length*4294967296*val b=4294967296*(4294967296^xs.length*val b):=by rw[Nat.mul_comm (4294967296^xs.length),Nat.mul_assoc]
  rw[List.cons_append,val,val,ih,List.length_cons,Nat.pow_succ,e];omega
theorem val_lt{l:List Int}(h:Ok l):val l<4294967296^l.length:=by
 induction l with
 |nil=>simp[val]
 |cons x xs ih=>
  have hx:=h x (by simp);have:=ih (fun y hy=>h y (by simp[hy]));rw[val,List.length_cons,Nat.pow_succ];omega
theorem ok_append{a b:List Int}(h:Ok a)(h':Ok b):Ok (a++b):=fun x hx=>by
 rcases List.mem_append.1 hx with hx|hx
 ·exact h x hx
 ·exact h' x hx
theorem ok_nil:Ok []:=fun x hx=>by cases hx
theorem ok_one{x:Int}(h0:0≤x)(h1:x<4294967296):Ok [x]:=fun y hy=>by
 rcases List.mem_singleton.1 hy with rfl;exact⟨h0,h1⟩
theorem ok_snoc{a:List Int}{x:Int}(h:Ok a)(h0:0≤x)(h1:x<4294967296):Ok (a++ [x]):=ok_append h (ok_one h0 h1)
theorem val_snoc(a:List Int)(x:Int):val (a++ [x])=val a+4294967296^a.length*x.toNat:=by rw[val_append];simp[val]
theorem lim_val{l:List Int}(h:Ok l)(hl: ∀x,l.getLast?=some x→x≠0):l=lim (val l):=by
 induction l with
 |nil=>rw[val,lim_zero]
 |cons x xs ih=>
  have hx:=h x (by simp);have hxs:Ok xs:=fun y hy=>h y (by simp[hy])
  have hnz:val (x::xs)≠0:=by
   cases xs with
   |nil=>
    have:=hl x (by simp);rw[val,val];omega
   |cons y ys=>
    have hi:=ih hxs (fun z hz=>hl z (by rw[List.getLast?_cons_cons];exact hz));intro h0;have h1:val (y::ys)=0:=by rw[val]at h0;omega
    rw[h1,lim_zero]at hi;cases hi
  rw[lim_pos hnz];have h1:val (x::xs)%4294967296=x.toNat:=by rw[val];omega
  have h2:val (x::xs)/4294967296=val xs:=by rw[val];omega
  rw[h1,h2,←ih hxs (fun z hz=>?_)]
  ·congr 1;omega
  ·cases xs with
   |nil=>cases hz
   |cons y ys=>exact hl z (by rw[List.getLast?_cons_cons];exact hz)
theorem ok_set{l:List Int}(h:Ok l)(i:Nat){v:Int}(h0:0≤v)(h1:v<4294967296):Ok (l.set i v):=fun x hx=>by
 rcases List.mem_or_eq_of_mem_set hx with hx|rfl
 ·exact h x hx
 ·exact⟨h0,h1⟩
theorem ok_get{l:List Int}(h:Ok l)(i:Nat):0≤l.getD i 0∧l.getD i 0<4294967296:=by
 rcases Nat.lt_or_ge i l.length with hi|hi
 ·rw[List.getD_eq_getElem?_getD,List.getElem?_eq_getElem hi];exact h _ (List.getElem_mem hi)
 ·rw[List.getD_eq_getElem?_getD,List.getElem?_eq_none hi];simp
theorem val_split(l:List Int)(i:Nat):val l=val (l.take i)+4294967296^(min i l.length)*val (l.drop i):=by
 have h:=val_append (l.take i) (l.drop i);rw[List.take_append_drop,List.length_take]at h;exact h
theorem val_drop{l:List Int}{i:Nat}(h:i<l.length):val (l.drop i)=(l.getD i 0).toNat+4294967296*val (l.drop (i+1)):=by
 rw[List.drop_eq_getElem_cons h,val,List.getD_eq_getElem?_getD,List.getElem?_eq_getElem h];rfl
theorem val_drop_nil{l:List Int}{i:Nat}(h:l.length≤i):val (l.drop i)=0:=by rw[List.drop_eq_nil_of_le h];rfl
end Go.Proofs.YthlakefgobflnaaGreatDoor.L32
namespace Go.Proofs.YthlakefgobflnaaGreatDoor.L64
open Go.RowKit Go.Proofs.YthlakefgobflnaaGreatDoorW.PrintWords
set_option linter.unusedVariables false
def lim(n:Nat):List Int:=if _h:n=0 then []else((n%18446744073709551616:Nat):Int)::lim (n/18446744073709551616)
termination_by n
decreasing_by omega
def val:List Int→Nat
 | []=>0
 |x::xs=>x.toNat+18446744073709551616*val xs
def Ok(l:List Int):Prop:=∀x,x∈l→0≤x∧x<18446744073709551616
theorem lim_zero:lim 0= []:=by rw[lim];simp
theorem lim_pos{n:Nat}(h:n≠0):lim n=((n%18446744073709551616:Nat):Int)::lim (n/18446744073709551616):=by rw[lim,dif_neg h]
theorem lim_eq_nil{n:Nat}:lim n= []↔n=0:=by
 constructor
 ·intro h;by_cases e:n=0
  ·exact e
  ·rw[lim_pos e]at h;cases h
 ·rintro rfl;exact lim_zero
theorem val_lim(n:Nat):val (lim n)=n:=by
 induction n using Nat.strongRecOn with
 |_ n ih=>
  by_cases h:n=0
  ·subst h;rw[lim_zero];rfl
  ·rw[lim_pos h,val,ih _ (by omega),Int.toNat_natCast];omega
theorem ok_lim(n:Nat):Ok (lim n):=by
 induction n using Nat.strongRecOn with
 |_ n ih=>
  by_cases h:n=0
  ·subst h;rw[lim_zero];intro x hx;cases hx
  ·rw[lim_pos h];intro x hx;rcases List.mem_cons.1 hx with rfl|hx
   ·omega
   ·exact ih _ (by omega) x hx
theorem len_zero{n:Nat}:((lim n).length:Int)=0↔n=0:=by
 rw[←lim_eq_nil,←List.length_eq_zero_iff];omega
theorem lim_get(n i:Nat):(lim n).getD i 0=((n/18446744073709551616^i%18446744073709551616:Nat):Int):=by
 induction i generalizing n with
 |zero=>
  by_cases h:n=0
  ·subst h;simp[lim_zero]
  ·rw[lim_pos h];simp
 |succ i ih=>
  by_cases h:n=0
  ·subst h;simp[lim_zero]
  ·rw[lim_pos h,List.getD_cons_succ,ih,Nat.pow_succ,Nat.mul_comm,←Nat.div_div_eq_div_mul]
theorem len_lim(n i:Nat):i<(lim n).length↔n/18446744073709551616^i≠0:=by
 induction i generalizing n with
 |zero=>
  rw[Nat.pow_zero,Nat.div_one,ne_eq,←lim_eq_nil,←List.length_eq_zero_iff];omega
 |succ i ih=>
  by_cases h:n=0
  ·subst h;simp[lim_zero]
  ·rw[lim_pos h,List.length_cons,Nat.add_lt_add_iff_right,ih,Nat.pow_succ,Nat.mul_comm,←Nat.div_div_eq_div_mul]
theorem len_le{n m:Nat}(h:n<18446744073709551616^m):(lim n).length≤m:=by
 have h1:=len_lim n m;have h2:n/18446744073709551616^m=0:=Nat.div_eq_of_lt h;rcases Nat.lt_or_ge m (lim n).length with h3|h3
 ·exact absurd h2 (h1.1 h3)
 ·exact h3
theorem lt_of_len{n m:Nat}(h:(lim n).length≤m):n<18446744073709551616^m:=by
 have h1:=len_lim n m;rcases Nat.lt_or_ge n (18446744073709551616^m)with h2|h2
 ·exact h2
 ·have:n/18446744073709551616^m≠0:=by
   have:=(Nat.le_div_iff_mul_le (Nat.pow_pos (by omega))).2 (show 1*18446744073709551616^m≤n by omega);omega
  have:=h1.2 this;omega
theorem rd_lim(n:Nat)(i:Nat):rd (lim n) (i:Int)=((n/18446744073709551616^i%18446744073709551616:Nat):Int):=by
 unfold rd;rw[Int.toNat_natCast];exact lim_get n i
theorem val_append(a b:List Int):val (a++b)=val a+18446744073709551616^a.length*val b:=by
 induction a with
 |nil=>simp[val]
 |cons x xs ih=>
  have e:18446744073709551616^xs.length*18446744073709551616*val b=18446744073709551616*(18446744073709551616^xs.length*val b):=by rw[Nat.mul_comm (18446744073709551616^xs.length),Nat.mul_assoc]
  rw[List.cons_append,val,val,ih,List.length_cons,Nat.pow_succ,e];omega
theorem val_lt{l:List Int}(h:Ok l):val l<18446744073709551616^l.length:=by
 induction l with
 |nil=>simp[val]
 |cons x xs ih=>
  have hx:=h x (by simp);have:=ih (fun y hy=>h y (by simp[hy]));rw[val,List.length_cons,Nat.pow_succ];omega
theorem ok_append{a b:List Int}(h:Ok a)(h':Ok b):Ok (a++b):=fun x hx=>by
 rcases List.mem_append.1 hx with hx|hx
 ·exact h x hx
 ·exact h' x hx
theorem ok_nil:Ok []:=fun x hx=>by cases hx
theorem ok_one{x:Int}(h0:0≤x)(h1:x<18446744073709551616):Ok [x]:=fun y hy=>by
 rcases List.mem_singleton.1 hy with rfl;exact⟨h0,h1⟩
theorem ok_snoc{a:List Int}{x:Int}(h:Ok a)(h0:0≤x)(h1:x<18446744073709551616):Ok (a++ [x]):=ok_append h (ok_one h0 h1)
theorem val_snoc(a:List Int)(x:Int):val (a++ [x])=val a+18446744073709551616^a.length*x.toNat:=by rw[val_append];simp[val]
theorem val_zeros(n:Nat):val (List.replicate n 0)=0:=by
 induction n with
 |zero=>rfl
 |succ n ih=>rw[List.replicate_succ,val,ih];rfl
theorem ok_zeros(n:Nat):Ok (List.replicate n 0):=fun x hx=>by
 rw[List.eq_of_mem_replicate hx];omega
theorem lim_val{l:List Int}(h:Ok l)(hl: ∀x,l.getLast?=some x→x≠0):l=lim (val l):=by
 induction l with
 |nil=>rw[val,lim_zero]
 |cons x xs ih=>
  have hx:=h x (by simp);have hxs:Ok xs:=fun y hy=>h y (by simp[hy])
  have hnz:val (x::xs)≠0:=by
   cases xs with
   |nil=>
    have:=hl x (by simp);rw[val,val];omega
   |cons y ys=>
    have hi:=ih hxs (fun z hz=>hl z (by rw[List.getLast?_cons_cons];exact hz));intro h0;have h1:val (y::ys)=0:=by rw[val]at h0;omega
    rw[h1,lim_zero]at hi;cases hi
  rw[lim_pos hnz];have h1:val (x::xs)%18446744073709551616=x.toNat:=by rw[val];omega
  have h2:val (x::xs)/18446744073709551616=val xs:=by rw[val];omega
  rw[h1,h2,←ih hxs (fun z hz=>?_)]
  ·congr 1;omega
  ·cases xs with
   |nil=>cases hz
   |cons y ys=>exact hl z (by rw[List.getLast?_cons_cons];exact hz)
theorem val_set{l:List Int}{i:Nat}(h:i<l.length)(hl:Ok l)(v:Int):val (l.set i v)+18446744073709551616^i*(l.getD i 0).toNat=val l+18446744073709551616^i*v.toNat:=by
 induction l generalizing i with
 |nil=>simp at h
 |cons x xs ih=>
  cases i with
  |zero=>simp[val];omega
  |succ i=>
   have:=ih (i:=i) (by simpa using h) (fun y hy=>hl y (by simp[hy]));rw[List.set_cons_succ,val,val,List.getD_cons_succ,Nat.pow_succ];have e1:18446744073709551616^i*18446744073709551616*(xs.getD i 0).toNat=18446744073709551616*(18446744073709551616^i*(xs.getD i 0).toNat):=by rw[Nat.mul_comm (18446744073709551616^i),Nat.mul_assoc]
   have e2:18446744073709551616^i*18446744073709551616*v.toNat=18446744073709551616*(18446744073709551616^i*v.toNat):=by rw[Nat.mul_comm (18446744073709551616^i),Nat.mul_assoc]
   rw[e1,e2];omega
theorem ok_set{l:List Int}(h:Ok l)(i:Nat){v:Int}(h0:0≤v)(h1:v<18446744073709551616):Ok (l.set i v):=fun x hx=>by
 rcases List.mem_or_eq_of_mem_set hx with hx|rfl
 ·exact h x hx
 ·exact⟨h0,h1⟩
theorem ok_get{l:List Int}(h:Ok l)(i:Nat):0≤l.getD i 0∧l.getD i 0<18446744073709551616:=by
 rcases Nat.lt_or_ge i l.length with hi|hi
 ·rw[List.getD_eq_getElem?_getD,List.getElem?_eq_getElem hi];exact h _ (List.getElem_mem hi)
 ·rw[List.getD_eq_getElem?_getD,List.getElem?_eq_none hi];simp
theorem val_split(l:List Int)(i:Nat):val l=val (l.take i)+18446744073709551616^(min i l.length)*val (l.drop i):=by
 have h:=val_append (l.take i) (l.drop i);rw[List.take_append_drop,List.length_take]at h;exact h
theorem val_drop{l:List Int}{i:Nat}(h:i<l.length):val (l.drop i)=(l.getD i 0).toNat+18446744073709551616*val (l.drop (i+1)):=by
 rw[List.drop_eq_getElem_cons h,val,List.getD_eq_getElem?_getD,List.getElem?_eq_getElem h];rfl
theorem val_drop_nil{l:List Int}{i:Nat}(h:l.length≤i):val (l.drop i)=0:=by rw[List.drop_eq_nil_of_le h];rfl
end Go.Proofs.YthlakefgobflnaaGreatDoor.L64
