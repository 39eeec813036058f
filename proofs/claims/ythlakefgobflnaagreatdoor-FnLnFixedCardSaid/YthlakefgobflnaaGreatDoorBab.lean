/- CONTRACTS of spec_natTrim, spec_NatMul: each as the plain function beside it. (Began as print.sh's text for this seat; the turns are those of wip/tools/split.py.) CONTRACTS of spec_NatFrom, spec_NatPow: each as the plain function beside it. (Began as print.sh's text for this seat; the turns are those of wip/tools/split.py.) -/
import Derived.Test.YthlakefgobflnaaGreatDoorBaa
namespace Go.Proofs.YthlakefgobflnaaGreatDoor.S
open Go.RowKit Go.Proofs.YthlakefgobflnaaGreatDoorW.PrintWords Go.Proofs.YthlakefgobflnaaGreatDoorW.PrintLast Go.Proofs.YthlakefgobflnaaGreatDoorW.PrintMore
attribute [local go_sem] max2_int min2_int max_two min_two max_three min_three max_four min_four   -- for this text's walks alone
set_option linter.unusedVariables false
set_option linter.unusedSimpArgs false
def spec_natTrim.l0:Nat→List Int→Option (List Int)
 |0,_=>none
 |k+1,x0=>if(x0.length:Int)>0 then(if 0≤(wrap64 ((x0.length:Int)-1))then(if(wrap64 ((x0.length:Int)-1))<(x0.length:Int)then(if(rd x0 (wrap64 ((x0.length:Int)-1)))=0 then(if(wrap64 ((x0.length:Int)-1))≤(x0.length:Int)then(spec_natTrim.l0 k (x0.take ((wrap64 ((x0.length:Int)-1)):Int).toNat))else(none))else(some x0))else(none))else(none))else(some x0)
def spec_natTrim.f(k:Nat)(l0:List Int):Option (List Int):=spec_natTrim.l0 k l0
set_option maxHeartbeats 8000000 in
set_option maxRecDepth 100000 in
theorem spec_natTrim.calls(k:Nat)(P0_:Nat→Prop)(A0:Option Addr)(c0:Nat)(l0:List Int)(r:List Int)(w:World)(hs0:Kd.V (Kd.int .u32) 40 w w.heap.size (fun k_=>P0_ k_) (.slice A0 l0.length c0) l0)(h:spec_natTrim.f k l0=some r):
 Calls Tryz.prog 32 #[.slice A0 l0.length c0] w fun e w'=>∃v0_:Value,e= .returned (v0_)∧Kd.V (Kd.int .u32) 40 w' w.heap.size (fun k_=>(P0_ k_∨w.heap.size≤k_)) v0_ r∧Below w.heap.size w w':=by
 have HO0:=ak (show Kd.V (Kd.int .u32) 40 w w.heap.size (fun k_=>(P0_ k_∨w.heap.size≤k_)) (.slice A0 l0.length c0) l0 from Kd.V_mono hs0 (fun k_ hk=>.inl hk));have HB:=ak (Below.refl w.heap.size w);have H:(spec_natTrim.l0 k l0)=some r:=h;clear h;have H':=ak H;clear H
 go_enter Tryz.func32,Tryz.ntmps32
 go_wp2
 go_loopg [0] k (fun kq v0 w'=>∃(x0_1:List Int),Aside0 (spec_natTrim.l0 kq x0_1=some r)∧Aside0 (kq≤k)∧Aside0 (Kd.V (Kd.int .u32) 40 w' w.heap.size (fun k_=>(P0_ k_∨w.heap.size≤k_)) v0 x0_1)∧Aside0 (Below w.heap.size w w'))
 case atStart=>exact⟨(l0),H',⟨Nat.le_refl _⟩,⟨kv HO0.out⟩,⟨bw HB.out⟩⟩
 case round=>
  clear H';obtain⟨x0_1,HA,HK1,HO_0,HB⟩:=hrel;cases gk with
  |zero=>exact absurd HA.out (by simp[spec_natTrim.l0])
  |succ k1=>
   have H:=HA.out;clear HA;simp only[spec_natTrim.l0]at H;by_cases c2:(x0_1.length:Int)>0
   ·rw[if_pos c2]at H;have c2b0:decide (0<(x0_1.length:Int))=true:=decide_eq_true c2;have c2b1:decide (0<x0_1.length)=true:=decide_eq_true (by omega);clear c2;obtain⟨ji3,hji3⟩: ∃j_:Int,(wrap64 ((x0_1.length:Int)-1))=j_:=⟨_,rfl⟩
    replace H:(if 0≤(ji3)then(if(ji3)<(x0_1.length:Int)then(if(rd x0_1 (ji3))=0 then(if(ji3)≤(x0_1.length:Int)then(spec_natTrim.l0 k1 (x0_1.take ((ji3):Int).toNat))else(none))else(some x0_1))else(none))else(none))=some r:=by first|(rw[hji3]at H;exact H)|(simp only[hji3]at H⊢;exact H)
    have hji3w:(IntKind.i64.wrap ((x0_1.length:Int)-1))=ji3:=(i64_w _).trans hji3;replace H:=gdt H;obtain⟨c4b0,H⟩:=H;replace H:=gdt H;obtain⟨c5b0,H⟩:=H;by_cases c6:(rd x0_1 (ji3))=0
    ·rw[if_pos c6]at H;have c6b0:((rd x0_1 (ji3))==0)=true:=beq_iff_eq.mpr c6;have c6b1:((rd x0_1 (ji3)) != 0)=false:=bne_eq_false_iff_eq.mpr c6;clear c6;have c7b0:=eq_true (of_decide_eq_true za:0≤(ji3));replace H:=gd H;obtain⟨c8,H⟩:=H;have c8b0:=eq_true c8;have c8b1:decide ((ji3)≤(x0_1.length:Int))=true:=decide_eq_true c8;clear c8;obtain⟨y105,hy105⟩: ∃y_:List Int,y_=(x0_1.take ((ji3):Int).toNat):=⟨_,rfl⟩
     replace H:(spec_natTrim.l0 k1 y105)=some r:=zh hy105 H;have Ny105:=ak hy105;clear hy105;have H':=ak H;clear H;obtain⟨Ao9,co9,eo9⟩:=Kd.V_slice HO_0.out;subst eo9;have p104:0≤((ji3):Int):=of_decide_eq_true za;have q104:(ji3)<(x0_1.length:Int):=of_decide_eq_true za;obtain⟨ad104,e104,hx104_0⟩:=Kd.at_int (Kd.V_reads' HO_0.out).2.2 (ji3) p104 q104;cases e104;replace p104:=eq_true p104;replace q104:=eq_true q104;have q10:((ji3):Int)≤((x0_1.length:Int):Int):=of_decide_eq_true za;obtain⟨i010,hi010,_,hsz10,_⟩:=info_parts info40;have hroom10:x0_1.length≤co9:=(Kd.V_reads' HO_0.out).2.1;have hC10:Kd.F (Kd.int .u32) _ _ (some ad104) x0_1.length x0_1:=(Kd.V_at (base:=w.heap.size) HO_0.out).2.2;have hcut10:=cut_to (P:=Tryz.prog) 24 40 .i64 Tryz.underlying24 hi010 (some ad104) x0_1.length co9 (ji3) (of_decide_eq_true za) q10 hroom10;have hr10:=Kd.F_take (m:=((ji3):Int).toNat) hC10 (by omega);have hy10:y105.length=((ji3):Int).toNat:=(by rw[Ny105.out,List.length_take];omega);rw[←Ny105.out]at hr10;rw[←hy10]at hcut10;have HO109:=ak (show Kd.V (Kd.int .u32) 40 _ w.heap.size _ (.slice (some ad104) y105.length co9) y105 from Kd.V_mk (by omega) hr10);have HC109:=ak (show y105.length≤co9 from by omega);clear hr10 hC10 hroom10 hi010 hsz10;have KY10:=ak hy10;clear hy10;replace q10:=eq_true q10
     go_wp2
     go_roundg k1
     case measure=>have:=HK1.out;omega
     case rel=>exact⟨(y105),H',⟨by have:=HK1.out;omega⟩,⟨kv HO109.out⟩,⟨bw HB.out⟩⟩
    ·rw[if_neg c6]at H;have c6b0:((rd x0_1 (ji3))==0)=false:=beq_eq_false_iff_ne.mpr c6;have c6b1:((rd x0_1 (ji3)) != 0)=true:=bne_iff_ne.mpr c6;obtain rfl:=Option.some.inj H;obtain⟨Ao11,co11,eo11⟩:=Kd.V_slice HO_0.out;subst eo11;have p104:0≤((ji3):Int):=of_decide_eq_true za;have q104:(ji3)<(x0_1.length:Int):=of_decide_eq_true za;obtain⟨ad104,e104,hx104_0⟩:=Kd.at_int (Kd.V_reads' HO_0.out).2.2 (ji3) p104 q104;cases e104;replace p104:=eq_true p104;replace q104:=eq_true q104
     go_wp2
     go_ret
     exact⟨_,by first|rfl|(simp[errW_none,errW_some]<;>rfl)|(simp only[←hji3];first|rfl|(simp[errW_none,errW_some]<;>rfl))|(simp[*,errW_none,errW_some]<;>rfl),kv HO_0.out,bw HB.out⟩
   ·rw[if_neg c2]at H;have c2b0:decide (0<(x0_1.length:Int))=false:=decide_eq_false c2;have c2b1:decide (0<x0_1.length)=false:=decide_eq_false (by omega);clear c2;obtain rfl:=Option.some.inj H;obtain⟨Ao12,co12,eo12⟩:=Kd.V_slice HO_0.out;subst eo12
    go_wp2
    go_ret
    exact⟨_,by first|rfl|(simp[errW_none,errW_some]<;>rfl)|(simp[*,errW_none,errW_some]<;>rfl),kv HO_0.out,bw HB.out⟩
mutual
def spec_NatMul.l0:Nat→List Int→List Int→List Int→Int→Int→Option (List Int)
 |0,_,_,_,_,_=>none
 |k+1,x1,x5,x17,x18,x19=>if x19<x18 then(if 0≤x19 then(if x19<(x17.length:Int)then(spec_NatMul.l1 k x1 x5 x19 (rd x17 x19) 0 x17 x18 x19 x1 (x1.length:Int) 0)else(none))else(none))else((spec_natTrim.f k x5).bind fun t113=>(some t113))
def spec_NatMul.l1:Nat→List Int→List Int→Int→Int→Int→List Int→Int→Int→List Int→Int→Int→Option (List Int)
 |0,_,_,_,_,_,_,_,_,_,_,_=>none
 |k+1,x1,x5,x6,x7,x8,x17,x18,x19,x24,x25,x26=>if x26<x25 then(if 0≤x26 then(if x26<(x24.length:Int)then(if 0≤(wrap64 (x6+x26))then(if(wrap64 (x6+x26))<(x5.length:Int)then(spec_NatMul.l1 k x1 (x5.set ((wrap64 (x6+x26)):Int).toNat ((Int.tmod (IntKind.u64.wrap (x8+(IntKind.u64.wrap ((IntKind.u64.wrap (rd x5 (wrap64 (x6+x26))))+(IntKind.u64.wrap ((IntKind.u64.wrap (x7))*(IntKind.u64.wrap (rd x24 x26)))))))) 1000000000)%4294967296)) x6 x7 (IntKind.u64.wrap (Int.tdiv (IntKind.u64.wrap (x8+(IntKind.u64.wrap ((IntKind.u64.wrap (rd x5 (wrap64 (x6+x26))))+(IntKind.u64.wrap ((IntKind.u64.wrap (x7))*(IntKind.u64.wrap (rd x24 x26)))))))) 1000000000)) x17 x18 x19 x24 x25 (wrap64 (x26+1)))else(none))else(none))else(none))else(none))else(if 0≤(wrap64 (x6+(x1.length:Int)))then(if(wrap64 (x6+(x1.length:Int)))<(x5.length:Int)then(spec_NatMul.l0 k x1 (x5.set ((wrap64 (x6+(x1.length:Int))):Int).toNat ((x8)%4294967296)) x17 x18 (wrap64 (x19+1)))else(none))else(none))
end
def spec_NatMul.f(k:Nat)(l0:List Int)(l1:List Int):Option (List Int):=if 0≤(wrap64 ((l0.length:Int)+(l1.length:Int)))then(if(wrap64 ((l0.length:Int)+(l1.length:Int)):Int).toNat≤70368744177664 then(spec_NatMul.l0 k l1 (List.replicate (wrap64 ((l0.length:Int)+(l1.length:Int)):Int).toNat 0) l0 (l0.length:Int) 0)else(none))else(none)
set_option maxHeartbeats 8000000 in
set_option maxRecDepth 100000 in
theorem spec_NatMul.calls(k:Nat)(A0:Option Addr)(c0:Nat)(l0:List Int)(A1:Option Addr)(c1:Nat)(l1:List Int)(r:List Int)(w:World)(hr0:Kd.C (Kd.int .u32) w A0 l0.length l0)(hc0:l0.length≤c0)(hr1:Kd.C (Kd.int .u32) w A1 l1.length l1)(hc1:l1.length≤c1)(h:spec_NatMul.f k l0 l1=some r):
 Calls Tryz.prog 29 #[.slice A0 l0.length c0,.slice A1 l1.length c1] w fun e w'=>∃v0_:Value,e= .returned (v0_)∧Kd.V (Kd.int .u32) 40 w' w.heap.size (fun k_=>(w.heap.size≤k_)) v0_ r∧Below w.heap.size w w':=by
 have HR0:=ak hr0;have HC0:=ak hc0;clear hr0 hc0;have HR1:=ak hr1;have HC1:=ak hc1;clear hr1 hc1;have HB:=ak (Below.refl w.heap.size w);have H:(if 0≤(wrap64 ((l0.length:Int)+(l1.length:Int)))then(if(wrap64 ((l0.length:Int)+(l1.length:Int)):Int).toNat≤70368744177664 then(spec_NatMul.l0 k l1 (List.replicate (wrap64 ((l0.length:Int)+(l1.length:Int)):Int).toNat 0) l0 (l0.length:Int) 0)else(none))else(none))=some r:=h;clear h;obtain⟨ji3,hji3⟩: ∃j_:Int,(wrap64 ((l0.length:Int)+(l1.length:Int)))=j_:=⟨_,rfl⟩
 replace H:(if 0≤(ji3)then(if(ji3:Int).toNat≤70368744177664 then(spec_NatMul.l0 k l1 (List.replicate (ji3:Int).toNat 0) l0 (l0.length:Int) 0)else(none))else(none))=some r:=by first|(rw[hji3]at H;exact H)|(simp only[hji3]at H⊢;exact H)
 have hji3w:(IntKind.i64.wrap ((l0.length:Int)+(l1.length:Int)))=ji3:=(i64_w _).trans hji3;replace H:=gd H;obtain⟨c4,H⟩:=H;have c4b0:=eq_true c4;have c4b1:decide (0≤(ji3))=true:=decide_eq_true c4;clear c4;replace H:=gd H;obtain⟨c5,H⟩:=H;have c5b0:=eq_true c5;have c5b1:decide ((ji3:Int).toNat≤70368744177664)=true:=decide_eq_true c5;clear c5;obtain⟨y110,hy110⟩: ∃y_:List Int,y_=(List.replicate (ji3:Int).toNat 0):=⟨_,rfl⟩
 replace H:(spec_NatMul.l0 k l1 y110 l0 (l0.length:Int) 0)=some r:=zh hy110 H;have Ny110:=ak hy110;clear hy110;have H':=ak H;clear H
 go_enter Tryz.func29,Tryz.ntmps29
 go_wp2_with (first|((with_reducible refine gate_dst (N:=16) rfl ?_);refine Kd.R_make (Kd.int .u32) _ 40 rfl (N:=16) rfl 24 _ _ rfl ji3 rfl rfl Tryz.underlying24 (.int .u32 0) 4 info40 rfl (by decide) (by omega) 0 (ok:=fun _=>True) (okp:=fun _=>True) rfl (fun _ hk=>hk) trivial (of_decide_eq_true za) (Nat.le_trans (Nat.mul_le_mul_right _ (of_decide_eq_true za:ji3.toNat≤70368744177664)) (by omega)) (Below.refl _ _) (Nat.le_refl _) ?_;intro v111 w6 ho7 hb hg_ hnew_;clear hg_ hnew_;(first|rw[←Ny110.out]at ho7|(simp only[Int.reduceToNat]at ho7;rw[←Ny110.out]at ho7));have HO112:=ak (Kd.R_lower (Kd.R_newM (M:=fun k_=>(w.heap.size≤k_)) ho7 (below_size (bw HB.out)) (fun k_ h_=>h_)) (below_size (bw HB.out)));replace HB:=ak (below_step (bw HB.out) hb);clear hb ho7))
 go_loopg [19] k (fun kq v19 w'=>∃(x5_1:List Int) (x19_1:Int),v19= .int .i64 x19_1∧Aside0 (spec_NatMul.l0 kq l1 x5_1 l0 (l0.length:Int) x19_1=some r)∧Aside0 (kq≤k)∧Aside0 (Kd.R (Kd.int .u32) 40 w' w.heap.size (fun k_=>(w.heap.size≤k_)) v111 x5_1)∧Aside0 (Below w.heap.size w w'))
 case atStart=>exact⟨(y110),(0),zr,H',⟨Nat.le_refl _⟩,⟨by(with_reducible repeat(first|apply Kd.R_alloc|apply Kd.R_drewN|apply Kd.R_drew));exact Kd.R_mono HO112.out (fun _ hk=>hk.1)⟩,⟨bw HB.out⟩⟩
 case round=>
  clear H';try clear c1
  try clear c4b0
  try clear c4b1
  try clear c5b0
  try clear c5b1
  obtain⟨x5_1,x19_1,rfl,HA,HK1,HO_5,HB⟩:=hrel;cases gk with
  |zero=>exact absurd HA.out (by simp[spec_NatMul.l0])
  |succ k1=>
   have H:=HA.out;clear HA;simp only[spec_NatMul.l0]at H;by_cases c8:x19_1<(l0.length:Int)
   ·rw[if_pos c8]at H;have c8b0:decide (x19_1<(l0.length:Int))=true:=decide_eq_true c8;clear c8;replace H:=gdt H;obtain⟨c9b0,H⟩:=H;replace H:=gdt H;obtain⟨c10b0,H⟩:=H;have H':=ak H;clear H;have p116:0≤(x19_1:Int):=of_decide_eq_true za;have q116:x19_1<(l0.length:Int):=of_decide_eq_true za;obtain⟨ad116,e116,hx116_0⟩:=Kd.at_int HR0.out x19_1 p116 q116;cases e116;replace hx116_0:=(HB.out.cell (World.block_lt_of_cell? w _ hx116_0)).trans hx116_0;replace p116:=eq_true p116;replace q116:=eq_true q116
    go_wp2
    go_loopg [8,26] k1 (fun kq v8 v26 w'=>∃(x5_2:List Int) (x8_2:Int) (x26_2:Int),v8= .int .u64 x8_2∧v26= .int .i64 x26_2∧Aside0 (spec_NatMul.l1 kq l1 x5_2 x19_1 (rd l0 x19_1) x8_2 l0 (l0.length:Int) x19_1 l1 (l1.length:Int) x26_2=some r)∧Aside0 (kq≤k1)∧Aside0 (Kd.R (Kd.int .u32) 40 w' w.heap.size (fun k_=>(w.heap.size≤k_)) v111 x5_2)∧Aside0 (Below w.heap.size w w'))
    case atStart=>exact⟨(x5_1),(0),(0),zr,zr,H',⟨Nat.le_refl _⟩,⟨kr HO_5.out⟩,⟨bw HB.out⟩⟩
    case round=>
     clear H';try clear c1
     try clear c4b0
     try clear c4b1
     try clear c5b0
     try clear c5b1
     try clear c8b0
     try clear c9b0
     try clear c10b0
     try clear hx116_0
     try clear p116
     try clear q116
     obtain⟨x5_2,x8_2,x26_2,rfl,rfl,HA,HK2,HO_5,HB⟩:=hrel;cases gk with
     |zero=>exact absurd HA.out (by simp[spec_NatMul.l1])
     |succ k2=>
      have H:=HA.out;clear HA;simp only[spec_NatMul.l1]at H;by_cases c11:x26_2<(l1.length:Int)
      ·rw[if_pos c11]at H;have c11b0:decide (x26_2<(l1.length:Int))=true:=decide_eq_true c11;clear c11;replace H:=gdt H;obtain⟨c12b0,H⟩:=H;replace H:=gdt H;obtain⟨c13b0,H⟩:=H;obtain⟨ji14,hji14⟩: ∃j_:Int,(wrap64 (x19_1+x26_2))=j_:=⟨_,rfl⟩
       replace H:(if 0≤(ji14)then(if(ji14)<(x5_2.length:Int)then(spec_NatMul.l1 k2 l1 (x5_2.set ((ji14):Int).toNat ((Int.tmod (IntKind.u64.wrap (x8_2+(IntKind.u64.wrap ((IntKind.u64.wrap (rd x5_2 (ji14)))+(IntKind.u64.wrap ((IntKind.u64.wrap ((rd l0 x19_1)))*(IntKind.u64.wrap (rd l1 x26_2)))))))) 1000000000)%4294967296)) x19_1 (rd l0 x19_1) (IntKind.u64.wrap (Int.tdiv (IntKind.u64.wrap (x8_2+(IntKind.u64.wrap ((IntKind.u64.wrap (rd x5_2 (ji14)))+(IntKind.u64.wrap ((IntKind.u64.wrap ((rd l0 x19_1)))*(IntKind.u64.wrap (rd l1 x26_2)))))))) 1000000000)) l0 (l0.length:Int) x19_1 l1 (l1.length:Int) (wrap64 (x26_2+1)))else(none))else(none))=some r:=by first|(rw[hji14]at H;exact H)|(simp only[hji14]at H⊢;exact H)
       have hji14w:(IntKind.i64.wrap (x19_1+x26_2))=ji14:=(i64_w _).trans hji14;replace H:=gdt H;obtain⟨c15b0,H⟩:=H;replace H:=gdt H;obtain⟨c16b0,H⟩:=H;obtain⟨y119,hy119⟩: ∃y_:List Int,y_=(x5_2.set ((ji14):Int).toNat ((Int.tmod (IntKind.u64.wrap (x8_2+(IntKind.u64.wrap ((IntKind.u64.wrap (rd x5_2 (ji14)))+(IntKind.u64.wrap ((IntKind.u64.wrap ((rd l0 x19_1)))*(IntKind.u64.wrap (rd l1 x26_2)))))))) 1000000000)%4294967296)):=⟨_,rfl⟩
       replace H:(spec_NatMul.l1 k2 l1 y119 x19_1 (rd l0 x19_1) (IntKind.u64.wrap (Int.tdiv (IntKind.u64.wrap (x8_2+(IntKind.u64.wrap ((IntKind.u64.wrap (rd x5_2 (ji14)))+(IntKind.u64.wrap ((IntKind.u64.wrap ((rd l0 x19_1)))*(IntKind.u64.wrap (rd l1 x26_2)))))))) 1000000000)) l0 (l0.length:Int) x19_1 l1 (l1.length:Int) (wrap64 (x26_2+1)))=some r:=zh hy119 H;have Ny119:=ak hy119;clear hy119;have H':=ak H;clear H;have p117:0≤(x26_2:Int):=of_decide_eq_true za;have q117:x26_2<(l1.length:Int):=of_decide_eq_true za;obtain⟨ad117,e117,hx117_0⟩:=Kd.at_int HR1.out x26_2 p117 q117;cases e117;replace hx117_0:=(HB.out.cell (World.block_lt_of_cell? w _ hx117_0)).trans hx117_0;replace p117:=eq_true p117;replace q117:=eq_true q117;obtain⟨Ao18,co18,eo18⟩:=Kd.R_slice HO_5.out;subst eo18;have p118:0≤((ji14):Int):=of_decide_eq_true za;have q118:(ji14)<(x5_2.length:Int):=of_decide_eq_true za;obtain⟨ad118,e118,hx118_0⟩:=Kd.at_int (Kd.R_reads' HO_5.out).2.2 (ji14) p118 q118;cases e118;replace p118:=eq_true p118;replace q118:=eq_true q118;have p17:0≤((ji14):Int):=of_decide_eq_true za;have q17:((ji14):Int)<((x5_2.length:Int):Int):=of_decide_eq_true za;obtain⟨go17,co17,eo17,gb17,gl17,cl17,HG17⟩:=Kd.R_form HO_5.out (by omega)
       (first|cases eo17|(injection eo17 with ea_ en_ ec_;(first|subst ea_|(injection ea_ with ea_;subst ea_));subst ec_;clear en_))
       have GB17:=ak gb17;have GG17:=ak HG17;clear gb17 gl17 HG17
       (first|simp only[add_plain]at hx118_0|skip)
       obtain⟨hx17_0,hf17_0⟩:=Kd.R_celln 0 HO_5.out ((ji14):Int) p17 q17;replace p17:=eq_true p17;replace q17:=eq_true q17;have HP19:=Kd.R_putg HO_5.out ((ji14):Int) ((Int.tmod (IntKind.u64.wrap (x8_2+(IntKind.u64.wrap ((IntKind.u64.wrap (rd x5_2 (ji14)))+(IntKind.u64.wrap ((IntKind.u64.wrap ((rd l0 x19_1)))*(IntKind.u64.wrap (rd l1 x26_2)))))))) 1000000000)%4294967296)
       go_wp2_with (first|((with_reducible refine gate_store (t:=40) (p:=53) rfl ?_);refine store_event (t:=40) (p:=53) (v:=?vo_w20) (w1:=(wr.setCell ⟨go17,((ji14):Int).toNat,none⟩ (.int .u32 ((Int.tmod (IntKind.u64.wrap (x8_2+(IntKind.u64.wrap ((IntKind.u64.wrap (rd x5_2 (ji14)))+(IntKind.u64.wrap ((IntKind.u64.wrap ((rd l0 x19_1)))*(IntKind.u64.wrap (rd l1 x26_2)))))))) 1000000000)%4294967296)))) ?hg ?ho ?hn ?hr ?_;(case ho=>rfl);(case hg=>rfl);(case hn=>rfl);(case hr=>first|(go_simp;done)|(go_simp;rfl));intro w20 hw;have hg:wr.grownBy w20 (some go17):=(by rw[hw];exact HP19.2);have hp_:Kd.R (Kd.int .u32) 40 w20 w.heap.size (fun k_=>(w.heap.size≤k_)) (.slice (some ⟨go17,0,none⟩) x5_2.length co18) y119:=(by rw[hw,Ny119.out];exact HP19.1);clear HP19;replace HO_5:=ak (hp_);replace HB:=ak ((by rw[hw];exact below_set (HB.out) GB17.out:Below w.heap.size w w20));clear hg hw hp_))
       go_roundg k2
       case measure=>have:=HK1.out;have:=HK2.out;omega
       case rel=>exact⟨(y119),(IntKind.u64.wrap (Int.tdiv (IntKind.u64.wrap (x8_2+(IntKind.u64.wrap ((IntKind.u64.wrap (rd x5_2 (ji14)))+(IntKind.u64.wrap ((IntKind.u64.wrap ((rd l0 x19_1)))*(IntKind.u64.wrap (rd l1 x26_2)))))))) 1000000000)),(wrap64 (x26_2+1)),(by first|rfl|(simp;done)|(simp only[←hji14]<;>(first|rfl|simp))|(simp[*];done)),zr,H',⟨by have:=HK1.out;have:=HK2.out;omega⟩,⟨kr HO_5.out⟩,⟨bw HB.out⟩⟩
      ·rw[if_neg c11]at H;have c11b0:decide (x26_2<(l1.length:Int))=false:=decide_eq_false c11;clear c11;obtain⟨ji21,hji21⟩: ∃j_:Int,(wrap64 (x19_1+(l1.length:Int)))=j_:=⟨_,rfl⟩
       replace H:(if 0≤(ji21)then(if(ji21)<(x5_2.length:Int)then(spec_NatMul.l0 k2 l1 (x5_2.set ((ji21):Int).toNat ((x8_2)%4294967296)) l0 (l0.length:Int) (wrap64 (x19_1+1)))else(none))else(none))=some r:=by first|(rw[hji21]at H;exact H)|(simp only[hji21]at H⊢;exact H)
       have hji21w:(IntKind.i64.wrap (x19_1+(l1.length:Int)))=ji21:=(i64_w _).trans hji21;replace H:=gdt H;obtain⟨c22b0,H⟩:=H;replace H:=gdt H;obtain⟨c23b0,H⟩:=H;obtain⟨y120,hy120⟩: ∃y_:List Int,y_=(x5_2.set ((ji21):Int).toNat ((x8_2)%4294967296)):=⟨_,rfl⟩
       replace H:(spec_NatMul.l0 k2 l1 y120 l0 (l0.length:Int) (wrap64 (x19_1+1)))=some r:=zh hy120 H;have Ny120:=ak hy120;clear hy120;have H':=ak H;clear H;have p24:0≤((ji21):Int):=of_decide_eq_true za;have q24:((ji21):Int)<((x5_2.length:Int):Int):=of_decide_eq_true za;obtain⟨go24,co24,eo24,gb24,gl24,cl24,HG24⟩:=Kd.R_form HO_5.out (by omega)
       (first|cases eo24|(injection eo24 with ea_ en_ ec_;(first|subst ea_|(injection ea_ with ea_;subst ea_));subst ec_;clear en_))
       have GB24:=ak gb24;have GG24:=ak HG24;clear gb24 gl24 HG24;obtain⟨hx24_0,hf24_0⟩:=Kd.R_celln 0 HO_5.out ((ji21):Int) p24 q24;replace p24:=eq_true p24;replace q24:=eq_true q24;have HP25:=Kd.R_putg HO_5.out ((ji21):Int) ((x8_2)%4294967296)
       go_wp2_with (first|((with_reducible refine gate_store (t:=40) (p:=64) rfl ?_);refine store_event (t:=40) (p:=64) (v:=?vo_w26) (w1:=(wr.setCell ⟨go24,((ji21):Int).toNat,none⟩ (.int .u32 ((x8_2)%4294967296)))) ?hg ?ho ?hn ?hr ?_;(case ho=>rfl);(case hg=>rfl);(case hn=>rfl);(case hr=>first|(go_simp;done)|(go_simp;rfl));intro w26 hw;have hg:wr.grownBy w26 (some go24):=(by rw[hw];exact HP25.2);have hp_:Kd.R (Kd.int .u32) 40 w26 w.heap.size (fun k_=>(w.heap.size≤k_)) (.slice (some ⟨go24,0,none⟩) x5_2.length co24) y120:=(by rw[hw,Ny120.out];exact HP25.1);clear HP25;replace HO_5:=ak (hp_);replace HB:=ak ((by rw[hw];exact below_set (HB.out) GB24.out:Below w.heap.size w w26));clear hg hw hp_))
       go_roundg k2
       case measure=>have:=HK1.out;have:=HK2.out;omega
       case rel=>exact⟨(y120),(wrap64 (x19_1+1)),zr,H',⟨by have:=HK1.out;have:=HK2.out;omega⟩,⟨kr HO_5.out⟩,⟨bw HB.out⟩⟩
   ·rw[if_neg c8]at H;have c8b0:decide (x19_1<(l0.length:Int))=false:=decide_eq_false c8;clear c8;replace H:=Option.bind_eq_some_iff.mp H;obtain⟨t113,A270,H⟩:=H;replace H:(some t113)=some r:=H;have A27:=ak A270;clear A270;obtain rfl:=Option.some.inj H;obtain⟨Ao28,co28,eo28⟩:=Kd.R_slice HO_5.out;subst eo28
    go_wp2_with (first|((with_reducible refine gate_callee (f:=32) rfl ?_);refine goesL_ (some 67) rfl rfl Tryz.func32 (by kernel_rfl) rfl #[.slice Ao28 x5_1.length co28] rfl zm ?_;(with_reducible refine(spec_natTrim.calls k1 (fun k_=>some k_=(.slice Ao28 x5_1.length co28:Value).ownBlock) _ _ x5_1 t113 _ ?side1 A27.out).mono ?_);(case side1=>exact Kd.R_V (Kd.R_tight rfl (HO_5.out)));rintro e w29 ⟨v114,rfl,ho0,hb⟩;refine⟨_,rfl,?_⟩;have HO115:=ak (Kd.V_lower (Kd.V_mono (ok':=fun k_=>(w.heap.size≤k_)) ho0 (fun k_ hk_=>Or.elim hk_ (fun hs_=>((HO_5.out).1 k_ hs_.symm)) (fun hn_=>(Nat.le_trans (below_size (bw HB.out)) hn_)))) (below_size (bw HB.out)));replace HO_5:=ak (Kd.R_below (kr HO_5.out) hb);replace HB:=ak (below_step (bw HB.out) hb);(try clear hb);(try clear hb2);(try clear hk);(try clear hi);(try clear ho0)))
    go_ret
    exact⟨_,by first|rfl|(simp[errW_none,errW_some]<;>rfl)|(simp only[←hji3];first|rfl|(simp[errW_none,errW_some]<;>rfl))|(simp[*,errW_none,errW_some]<;>rfl),kv HO115.out,bw HB.out⟩
end Go.Proofs.YthlakefgobflnaaGreatDoor.S
namespace Go.Proofs.YthlakefgobflnaaGreatDoor.S
open Go.RowKit Go.Proofs.YthlakefgobflnaaGreatDoorW.PrintWords Go.Proofs.YthlakefgobflnaaGreatDoorW.PrintLast Go.Proofs.YthlakefgobflnaaGreatDoorW.PrintMore
attribute [local go_sem] max2_int min2_int max_two min_two max_three min_three max_four min_four   -- for this text's walks alone
set_option linter.unusedVariables false
set_option linter.unusedSimpArgs false
def spec_NatFrom.l0:Nat→Int→List Int→Option (List Int)
 |0,_,_=>none
 |k+1,x0,x3=>if x0>0 then(if x3.length<35184372088832 then(spec_NatFrom.l0 k (IntKind.u64.wrap (Int.tdiv x0 1000000000)) (x3++ [(Int.tmod x0 1000000000)%4294967296]))else(none))else(some x3)
def spec_NatFrom.f(k:Nat)(a0:Int):Option (List Int):=spec_NatFrom.l0 k a0 ([]:List Int)
set_option maxHeartbeats 8000000 in
set_option maxRecDepth 100000 in
theorem spec_NatFrom.calls(k:Nat)(a0:Int)(r:List Int)(w:World)(h:spec_NatFrom.f k a0=some r):
 Calls Tryz.prog 28 #[.int .u64 a0] w fun e w'=>∃v0_:Value,e= .returned (v0_)∧Kd.R (Kd.int .u32) 40 w' w.heap.size (fun _=>True) v0_ r∧Below w.heap.size w w':=by
 have HB:=ak (Below.refl w.heap.size w);have H:(spec_NatFrom.l0 k a0 ([]:List Int))=some r:=h;clear h;have H':=ak H;clear H
 go_enter Tryz.func28,Tryz.ntmps28
 go_wp2
 go_loopg [0,3] k (fun kq v0 v3 w'=>∃(x0_1:Int) (x3_1:List Int),v0= .int .u64 x0_1∧Aside0 (spec_NatFrom.l0 kq x0_1 x3_1=some r)∧Aside0 (kq≤k)∧Aside0 (Kd.R (Kd.int .u32) 40 w' w.heap.size (fun _=>True) v3 x3_1)∧Aside0 (Below w.heap.size w w'))
 case atStart=>exact⟨(a0),(([]:List Int)),zr,H',⟨Nat.le_refl _⟩,⟨zn⟩,⟨bw HB.out⟩⟩
 case round=>
  clear H';obtain⟨x0_1,x3_1,rfl,HA,HK1,HO_3,HB⟩:=hrel;cases gk with
  |zero=>exact absurd HA.out (by simp[spec_NatFrom.l0])
  |succ k1=>
   have H:=HA.out;clear HA;simp only[spec_NatFrom.l0]at H;by_cases c2:x0_1>0
   ·rw[if_pos c2]at H;have c2b0:decide (0<x0_1)=true:=decide_eq_true c2;clear c2;replace H:=gd H;obtain⟨c3,H⟩:=H;have LMc3:=ak c3;clear c3;obtain⟨y101,hy101⟩: ∃y_:List Int,y_=(x3_1++ [(Int.tmod x0_1 1000000000)%4294967296]):=⟨_,rfl⟩
    replace H:(spec_NatFrom.l0 k1 (IntKind.u64.wrap (Int.tdiv x0_1 1000000000)) y101)=some r:=zh hy101 H;have Ny101:=ak hy101;clear hy101;have H':=ak H;clear H
    go_wp2_with (first|((with_reducible refine gate_builtin (b:=.append) (xs:=#[.tmp 8,.tmp 12]) rfl ?_);at_builtin;refine Kd.R_append (Kd.int .u32) (w0:=w) w.heap.size rfl (.tmp 8) (.tmp 12) 24 40 (.int .u32 0) 4 rfl Tryz.underlying24 info40 rfl (by decide) (by omega) u3 x3_1 ((Int.tmod x0_1 1000000000)%4294967296) [.int .u32 ((Int.tmod x0_1 1000000000)%4294967296)] (fun _=>True) (fun _=>False) rfl rfl ?aP (fun _ hk=>hk.elim) ?aF ?aO ?aB ?aS ?aL ?_;(case aP=>exact rfl);(case aB=>exact(bw HB.out));(case aF=>exact(fun _ _=>trivial));(case aO=>exact(kr HO_3.out));(case aS=>exact(below_size (bw HB.out)));(case aL=>have:=LMc3.out;omega);intro v102 w4 ho hb hg hat;rw[←Ny101.out]at ho;replace HB:=ak (hb);have HO103:=ak (ho);clear HO_3;clear ho hb hg hat))
    go_roundg k1
    case measure=>have:=HK1.out;omega
    case rel=>exact⟨(IntKind.u64.wrap (Int.tdiv x0_1 1000000000)),(y101),zr,H',⟨by have:=HK1.out;omega⟩,⟨kr HO103.out⟩,⟨bw HB.out⟩⟩
   ·rw[if_neg c2]at H;have c2b0:decide (0<x0_1)=false:=decide_eq_false c2;clear c2;obtain rfl:=Option.some.inj H
    go_wp2
    go_ret
    exact⟨_,by first|rfl|(simp[errW_none,errW_some]<;>rfl)|(simp[*,errW_none,errW_some]<;>rfl),kr HO_3.out,bw HB.out⟩
end Go.Proofs.YthlakefgobflnaaGreatDoor.S
