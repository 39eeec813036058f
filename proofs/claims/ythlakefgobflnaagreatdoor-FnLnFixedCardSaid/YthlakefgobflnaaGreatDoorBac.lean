/- CONTRACTS of spec_NatAdd: each as the plain function beside it. (Began as print.sh's text for this seat; the turns are those of wip/tools/split.py.) WHAT THE REFERENCE's NUMBERS ANSWER: NatFrom, NatAdd, of numbers kept as limbs ('lim n'). CONTRACTS of spec_WholeOf: each as the plain function beside it. (Began as print.sh's text for this seat; the turns are those of wip/tools/split.py.) CONTRACTS of spec_Pow10, spec_wholeFrom, spec_one, spec_rounds: each as the plain function beside it. (Began as print.sh's text for this seat; the turns are those of wip/tools/split.py.) -/
import Derived.Test.YthlakefgobflnaaGreatDoorBaa
import Derived.Test.YthlakefgobflnaaGreatDoorBab
namespace Go.Proofs.YthlakefgobflnaaGreatDoor.S
open Go.RowKit Go.Proofs.YthlakefgobflnaaGreatDoorW.PrintWords Go.Proofs.YthlakefgobflnaaGreatDoorW.PrintLast Go.Proofs.YthlakefgobflnaaGreatDoorW.PrintMore
attribute [local go_sem] max2_int min2_int max_two min_two max_three min_three max_four min_four   -- for this text's walks alone
set_option linter.unusedVariables false
set_option linter.unusedSimpArgs false
mutual
def spec_NatAdd.l0:Nat→List Int→List Int→List Int→Int→Int→Option (List Int)
 |0,_,_,_,_,_=>none
 |k+1,x0,x1,x5,x6,x7=>if x7<(x0.length:Int)then(spec_NatAdd.j1 k x0 x1 x5 x6 x7 true)else(if x7<(x1.length:Int)then(spec_NatAdd.j1 k x0 x1 x5 x6 x7 true)else(spec_NatAdd.j1 k x0 x1 x5 x6 x7 (decide (x6>0))))
def spec_NatAdd.j1:Nat→List Int→List Int→List Int→Int→Int→Bool→Option (List Int)
 |0,_,_,_,_,_,_=>none
 |k+1,x0,x1,x5,x6,x7,x21=>if x21=true then(if x7<(x0.length:Int)then(if 0≤x7 then(if x7<(x1.length:Int)then(if x5.length<35184372088832 then(spec_NatAdd.l0 k x0 x1 (x5++ [((x6+(rd x0 x7)+(rd x1 x7))%4294967296)%1000000000]) (((x6+(rd x0 x7)+(rd x1 x7))%4294967296)/1000000000) (wrap64 (x7+1)))else(none))else(if x5.length<35184372088832 then(spec_NatAdd.l0 k x0 x1 (x5++ [((x6+(rd x0 x7))%4294967296)%1000000000]) (((x6+(rd x0 x7))%4294967296)/1000000000) (wrap64 (x7+1)))else(none)))else(none))else(if x7<(x1.length:Int)then(if 0≤x7 then(if x5.length<35184372088832 then(spec_NatAdd.l0 k x0 x1 (x5++ [((x6+(rd x1 x7))%4294967296)%1000000000]) (((x6+(rd x1 x7))%4294967296)/1000000000) (wrap64 (x7+1)))else(none))else(none))else(if x5.length<35184372088832 then(spec_NatAdd.l0 k x0 x1 (x5++ [Int.tmod x6 1000000000]) ((Int.tdiv x6 1000000000)%4294967296) (wrap64 (x7+1)))else(none))))else(some x5)
end
def spec_NatAdd.f(k:Nat)(l0:List Int)(l1:List Int):Option (List Int):=spec_NatAdd.l0 k l0 l1 ([]:List Int) 0 0
set_option maxHeartbeats 8000000 in
set_option maxRecDepth 100000 in
theorem spec_NatAdd.calls(k:Nat)(A0:Option Addr)(c0:Nat)(l0:List Int)(A1:Option Addr)(c1:Nat)(l1:List Int)(r:List Int)(w:World)(hr0:Kd.C (Kd.int .u32) w A0 l0.length l0)(hc0:l0.length≤c0)(hr1:Kd.C (Kd.int .u32) w A1 l1.length l1)(hc1:l1.length≤c1)(h:spec_NatAdd.f k l0 l1=some r):
 Calls Tryz.prog 5 #[.slice A0 l0.length c0,.slice A1 l1.length c1] w fun e w'=>∃v0_:Value,e= .returned (v0_)∧Kd.R (Kd.int .u32) 40 w' w.heap.size (fun _=>True) v0_ r∧Below w.heap.size w w':=by
 have HR0:=ak hr0;have HC0:=ak hc0;clear hr0 hc0;have HR1:=ak hr1;have HC1:=ak hc1;clear hr1 hc1;have HB:=ak (Below.refl w.heap.size w);have H:(spec_NatAdd.l0 k l0 l1 ([]:List Int) 0 0)=some r:=h;clear h;have H':=ak H;clear H
 go_enter Tryz.func5,Tryz.ntmps5
 go_wp2
 go_loopg [5,6,7] k (fun kq v5 v6 v7 w'=>∃(x5_1:List Int) (x6_1:Int) (x7_1:Int),v6= .int .u32 x6_1∧v7= .int .i64 x7_1∧Aside0 (spec_NatAdd.l0 kq l0 l1 x5_1 x6_1 x7_1=some r)∧Aside0 (kq≤k)∧Aside0 (Kd.R (Kd.int .u32) 40 w' w.heap.size (fun _=>True) v5 x5_1)∧Aside0 (Below w.heap.size w w'))
 case atStart=>exact⟨(([]:List Int)),(0),(0),zr,zr,H',⟨Nat.le_refl _⟩,⟨zn⟩,⟨bw HB.out⟩⟩
 case round=>
  clear H';try clear c1
  obtain⟨x5_1,x6_1,x7_1,rfl,rfl,HA,HK1,HO_5,HB⟩:=hrel;cases gk with
  |zero=>exact absurd HA.out (by simp[spec_NatAdd.l0])
  |succ k1=>
   have H:=HA.out;clear HA;simp only[spec_NatAdd.l0]at H;have HC3:=ak H;clear H
   go_upto_region 4 with(fail)
   go_cut [21] (fun v21 wc=>∃(kq:Nat) (x21_2:Bool),v21= .bool x21_2∧Aside0 (spec_NatAdd.j1 kq l0 l1 x5_1 x6_1 x7_1 x21_2=some r)∧Aside0 (kq≤k1)∧Aside0 (Kd.R (Kd.int .u32) 40 wc w.heap.size (fun _=>True) u5 x5_1)∧Aside0 (Below w.heap.size w wc))
   case first=>
    have H:=HC3.out;clear HC3;by_cases c4:x7_1<(l0.length:Int)
    ·rw[if_pos c4]at H;have c4b0:decide (x7_1<(l0.length:Int))=true:=decide_eq_true c4;clear c4
     (first|rw[c4b0]|(simp only[i64_w,i32_w];rw[c4b0])|skip)
     have H':=ak H;clear H
     go_wp2
     go_meet
     case rel=>exact⟨_,(true),zr,H',⟨by have:=HK1.out;first|omega|exact Nat.le_refl _⟩,⟨kr HO_5.out⟩,⟨bw HB.out⟩⟩
    ·rw[if_neg c4]at H;have c4b0:decide (x7_1<(l0.length:Int))=false:=decide_eq_false c4;clear c4
     (first|rw[c4b0]|(simp only[i64_w,i32_w];rw[c4b0])|skip)
     by_cases c5:x7_1<(l1.length:Int)
     ·rw[if_pos c5]at H;have c5b0:decide (x7_1<(l1.length:Int))=true:=decide_eq_true c5;clear c5;have H':=ak H;clear H
      go_wp2
      go_meet
      case rel=>exact⟨_,(true),zr,H',⟨by have:=HK1.out;first|omega|exact Nat.le_refl _⟩,⟨kr HO_5.out⟩,⟨bw HB.out⟩⟩
     ·rw[if_neg c5]at H;have c5b0:decide (x7_1<(l1.length:Int))=false:=decide_eq_false c5;clear c5;have H':=ak H;clear H
      go_wp2
      go_meet
      case rel=>exact⟨_,(decide (x6_1>0)),zr,H',⟨by have:=HK1.out;first|omega|exact Nat.le_refl _⟩,⟨kr HO_5.out⟩,⟨bw HB.out⟩⟩
   case rest=>
    clear HC3;try clear c1
    obtain⟨kq,x21_2,rfl,HA,HJ2,HO_5,HB⟩:=hcut;cases kq with
    |zero=>exact absurd HA.out (by simp[spec_NatAdd.j1])
    |succ kj2=>
     have H:=HA.out;clear HA;simp only[spec_NatAdd.j1]at H;by_cases c6:x21_2=true
     ·subst c6;have H1:(if x7_1<(l0.length:Int)then(if 0≤x7_1 then(if x7_1<(l1.length:Int)then(if x5_1.length<35184372088832 then(spec_NatAdd.l0 kj2 l0 l1 (x5_1++ [((x6_1+(rd l0 x7_1)+(rd l1 x7_1))%4294967296)%1000000000]) (((x6_1+(rd l0 x7_1)+(rd l1 x7_1))%4294967296)/1000000000) (wrap64 (x7_1+1)))else(none))else(if x5_1.length<35184372088832 then(spec_NatAdd.l0 kj2 l0 l1 (x5_1++ [((x6_1+(rd l0 x7_1))%4294967296)%1000000000]) (((x6_1+(rd l0 x7_1))%4294967296)/1000000000) (wrap64 (x7_1+1)))else(none)))else(none))else(if x7_1<(l1.length:Int)then(if 0≤x7_1 then(if x5_1.length<35184372088832 then(spec_NatAdd.l0 kj2 l0 l1 (x5_1++ [((x6_1+(rd l1 x7_1))%4294967296)%1000000000]) (((x6_1+(rd l1 x7_1))%4294967296)/1000000000) (wrap64 (x7_1+1)))else(none))else(none))else(if x5_1.length<35184372088832 then(spec_NatAdd.l0 kj2 l0 l1 (x5_1++ [Int.tmod x6_1 1000000000]) ((Int.tdiv x6_1 1000000000)%4294967296) (wrap64 (x7_1+1)))else(none))))=some r:=by rw[if_pos rfl]at H;exact H
      clear H;have H:=H1;clear H1;by_cases c7:x7_1<(l0.length:Int)
      ·rw[if_pos c7]at H;have c7b0:decide (x7_1<(l0.length:Int))=true:=decide_eq_true c7;clear c7;replace H:=gdt H;obtain⟨c8b0,H⟩:=H;by_cases c9:x7_1<(l1.length:Int)
       ·rw[if_pos c9]at H;have c9b0:decide (x7_1<(l1.length:Int))=true:=decide_eq_true c9;clear c9;replace H:=gd H;obtain⟨c10,H⟩:=H;have LMc10:=ak c10;clear c10;obtain⟨y288,hy288⟩: ∃y_:List Int,y_=(x5_1++ [((x6_1+(rd l0 x7_1)+(rd l1 x7_1))%4294967296)%1000000000]):=⟨_,rfl⟩
        replace H:(spec_NatAdd.l0 kj2 l0 l1 y288 (((x6_1+(rd l0 x7_1)+(rd l1 x7_1))%4294967296)/1000000000) (wrap64 (x7_1+1)))=some r:=zh hy288 H;have Ny288:=ak hy288;clear hy288;have H':=ak H;clear H;have p286:0≤(x7_1:Int):=of_decide_eq_true za;have q286:x7_1<(l0.length:Int):=of_decide_eq_true za;obtain⟨ad286,e286,hx286_0⟩:=Kd.at_int HR0.out x7_1 p286 q286;cases e286;replace hx286_0:=(HB.out.cell (World.block_lt_of_cell? w _ hx286_0)).trans hx286_0;replace p286:=eq_true p286;replace q286:=eq_true q286;have p287:0≤(x7_1:Int):=of_decide_eq_true za;have q287:x7_1<(l1.length:Int):=of_decide_eq_true za;obtain⟨ad287,e287,hx287_0⟩:=Kd.at_int HR1.out x7_1 p287 q287;cases e287;replace hx287_0:=(HB.out.cell (World.block_lt_of_cell? w _ hx287_0)).trans hx287_0;replace p287:=eq_true p287;replace q287:=eq_true q287
        go_wp2_with (first|((with_reducible refine gate_builtin (b:=.append) (xs:=#[.tmp 44,.tmp 47]) rfl ?_);(try(refine gate_guard (by rfl) ?_;dsimp only));at_builtin;refine Kd.R_append (Kd.int .u32) (w0:=w) w.heap.size rfl (.tmp 44) (.tmp 47) 24 40 (.int .u32 0) 4 rfl Tryz.underlying24 info40 rfl (by decide) (by omega) u5 x5_1 (((x6_1+(rd l0 x7_1)+(rd l1 x7_1))%4294967296)%1000000000) [.int .u32 (((x6_1+(rd l0 x7_1)+(rd l1 x7_1))%4294967296)%1000000000)] (fun _=>True) (fun _=>False) rfl rfl ?aP (fun _ hk=>hk.elim) ?aF ?aO ?aB ?aS ?aL ?_;(case aP=>exact rfl);(case aB=>exact(bw HB.out));(case aF=>exact(fun _ _=>trivial));(case aO=>exact(kr HO_5.out));(case aS=>exact(below_size (bw HB.out)));(case aL=>have:=LMc10.out;omega);intro v289 w11 ho hb hg hat;rw[←Ny288.out]at ho;replace HB:=ak (hb);have HO290:=ak (ho);clear HO_5;clear ho hb hg hat))
        go_roundg kj2
        case measure=>have:=HK1.out;have:=HJ2.out;omega
        case rel=>exact⟨(y288),(((x6_1+(rd l0 x7_1)+(rd l1 x7_1))%4294967296)/1000000000),(wrap64 (x7_1+1)),zr,zr,H',⟨by have:=HK1.out;have:=HJ2.out;omega⟩,⟨kr HO290.out⟩,⟨bw HB.out⟩⟩
       ·rw[if_neg c9]at H;have c9b0:decide (x7_1<(l1.length:Int))=false:=decide_eq_false c9;clear c9;replace H:=gd H;obtain⟨c12,H⟩:=H;have LMc12:=ak c12;clear c12;obtain⟨y291,hy291⟩: ∃y_:List Int,y_=(x5_1++ [((x6_1+(rd l0 x7_1))%4294967296)%1000000000]):=⟨_,rfl⟩
        replace H:(spec_NatAdd.l0 kj2 l0 l1 y291 (((x6_1+(rd l0 x7_1))%4294967296)/1000000000) (wrap64 (x7_1+1)))=some r:=zh hy291 H;have Ny291:=ak hy291;clear hy291;have H':=ak H;clear H;have p286:0≤(x7_1:Int):=of_decide_eq_true za;have q286:x7_1<(l0.length:Int):=of_decide_eq_true za;obtain⟨ad286,e286,hx286_0⟩:=Kd.at_int HR0.out x7_1 p286 q286;cases e286;replace hx286_0:=(HB.out.cell (World.block_lt_of_cell? w _ hx286_0)).trans hx286_0;replace p286:=eq_true p286;replace q286:=eq_true q286
        go_wp2_with (first|((with_reducible refine gate_builtin (b:=.append) (xs:=#[.tmp 44,.tmp 47]) rfl ?_);(try(refine gate_guard (by rfl) ?_;dsimp only));at_builtin;refine Kd.R_append (Kd.int .u32) (w0:=w) w.heap.size rfl (.tmp 44) (.tmp 47) 24 40 (.int .u32 0) 4 rfl Tryz.underlying24 info40 rfl (by decide) (by omega) u5 x5_1 (((x6_1+(rd l0 x7_1))%4294967296)%1000000000) [.int .u32 (((x6_1+(rd l0 x7_1))%4294967296)%1000000000)] (fun _=>True) (fun _=>False) rfl rfl ?aP (fun _ hk=>hk.elim) ?aF ?aO ?aB ?aS ?aL ?_;(case aP=>exact rfl);(case aB=>exact(bw HB.out));(case aF=>exact(fun _ _=>trivial));(case aO=>exact(kr HO_5.out));(case aS=>exact(below_size (bw HB.out)));(case aL=>have:=LMc12.out;omega);intro v292 w13 ho hb hg hat;rw[←Ny291.out]at ho;replace HB:=ak (hb);have HO293:=ak (ho);clear HO_5;clear ho hb hg hat))
        go_roundg kj2
        case measure=>have:=HK1.out;have:=HJ2.out;omega
        case rel=>exact⟨(y291),(((x6_1+(rd l0 x7_1))%4294967296)/1000000000),(wrap64 (x7_1+1)),zr,zr,H',⟨by have:=HK1.out;have:=HJ2.out;omega⟩,⟨kr HO293.out⟩,⟨bw HB.out⟩⟩
      ·rw[if_neg c7]at H;have c7b0:decide (x7_1<(l0.length:Int))=false:=decide_eq_false c7;clear c7;by_cases c14:x7_1<(l1.length:Int)
       ·rw[if_pos c14]at H;have c14b0:decide (x7_1<(l1.length:Int))=true:=decide_eq_true c14;clear c14;replace H:=gdt H;obtain⟨c15b0,H⟩:=H;replace H:=gd H;obtain⟨c16,H⟩:=H;have LMc16:=ak c16;clear c16;obtain⟨y295,hy295⟩: ∃y_:List Int,y_=(x5_1++ [((x6_1+(rd l1 x7_1))%4294967296)%1000000000]):=⟨_,rfl⟩
        replace H:(spec_NatAdd.l0 kj2 l0 l1 y295 (((x6_1+(rd l1 x7_1))%4294967296)/1000000000) (wrap64 (x7_1+1)))=some r:=zh hy295 H;have Ny295:=ak hy295;clear hy295;have H':=ak H;clear H;have p294:0≤(x7_1:Int):=of_decide_eq_true za;have q294:x7_1<(l1.length:Int):=of_decide_eq_true za;obtain⟨ad294,e294,hx294_0⟩:=Kd.at_int HR1.out x7_1 p294 q294;cases e294;replace hx294_0:=(HB.out.cell (World.block_lt_of_cell? w _ hx294_0)).trans hx294_0;replace p294:=eq_true p294;replace q294:=eq_true q294
        go_wp2_with (first|((with_reducible refine gate_builtin (b:=.append) (xs:=#[.tmp 44,.tmp 47]) rfl ?_);(try(refine gate_guard (by rfl) ?_;dsimp only));at_builtin;refine Kd.R_append (Kd.int .u32) (w0:=w) w.heap.size rfl (.tmp 44) (.tmp 47) 24 40 (.int .u32 0) 4 rfl Tryz.underlying24 info40 rfl (by decide) (by omega) u5 x5_1 (((x6_1+(rd l1 x7_1))%4294967296)%1000000000) [.int .u32 (((x6_1+(rd l1 x7_1))%4294967296)%1000000000)] (fun _=>True) (fun _=>False) rfl rfl ?aP (fun _ hk=>hk.elim) ?aF ?aO ?aB ?aS ?aL ?_;(case aP=>exact rfl);(case aB=>exact(bw HB.out));(case aF=>exact(fun _ _=>trivial));(case aO=>exact(kr HO_5.out));(case aS=>exact(below_size (bw HB.out)));(case aL=>have:=LMc16.out;omega);intro v296 w17 ho hb hg hat;rw[←Ny295.out]at ho;replace HB:=ak (hb);have HO297:=ak (ho);clear HO_5;clear ho hb hg hat))
        go_roundg kj2
        case measure=>have:=HK1.out;have:=HJ2.out;omega
        case rel=>exact⟨(y295),(((x6_1+(rd l1 x7_1))%4294967296)/1000000000),(wrap64 (x7_1+1)),zr,zr,H',⟨by have:=HK1.out;have:=HJ2.out;omega⟩,⟨kr HO297.out⟩,⟨bw HB.out⟩⟩
       ·rw[if_neg c14]at H;have c14b0:decide (x7_1<(l1.length:Int))=false:=decide_eq_false c14;clear c14;replace H:=gd H;obtain⟨c18,H⟩:=H;have LMc18:=ak c18;clear c18;obtain⟨y298,hy298⟩: ∃y_:List Int,y_=(x5_1++ [Int.tmod x6_1 1000000000]):=⟨_,rfl⟩
        replace H:(spec_NatAdd.l0 kj2 l0 l1 y298 ((Int.tdiv x6_1 1000000000)%4294967296) (wrap64 (x7_1+1)))=some r:=zh hy298 H;have Ny298:=ak hy298;clear hy298;have H':=ak H;clear H
        go_wp2_with (first|((with_reducible refine gate_builtin (b:=.append) (xs:=#[.tmp 44,.tmp 47]) rfl ?_);(try(refine gate_guard (by rfl) ?_;dsimp only));at_builtin;refine Kd.R_append (Kd.int .u32) (w0:=w) w.heap.size rfl (.tmp 44) (.tmp 47) 24 40 (.int .u32 0) 4 rfl Tryz.underlying24 info40 rfl (by decide) (by omega) u5 x5_1 (Int.tmod x6_1 1000000000) [.int .u32 (Int.tmod x6_1 1000000000)] (fun _=>True) (fun _=>False) rfl rfl ?aP (fun _ hk=>hk.elim) ?aF ?aO ?aB ?aS ?aL ?_;(case aP=>exact rfl);(case aB=>exact(bw HB.out));(case aF=>exact(fun _ _=>trivial));(case aO=>exact(kr HO_5.out));(case aS=>exact(below_size (bw HB.out)));(case aL=>have:=LMc18.out;omega);intro v299 w19 ho hb hg hat;rw[←Ny298.out]at ho;replace HB:=ak (hb);have HO300:=ak (ho);clear HO_5;clear ho hb hg hat))
        go_roundg kj2
        case measure=>have:=HK1.out;have:=HJ2.out;omega
        case rel=>exact⟨(y298),((Int.tdiv x6_1 1000000000)%4294967296),(wrap64 (x7_1+1)),zr,zr,H',⟨by have:=HK1.out;have:=HJ2.out;omega⟩,⟨kr HO300.out⟩,⟨bw HB.out⟩⟩
     ·replace c6:=Bool.eq_false_iff.mpr c6;subst c6;have H1:(some x5_1)=some r:=by rw[if_neg (show¬(false=true) by decide)]at H;exact H
      clear H;have H:=H1;clear H1;obtain rfl:=Option.some.inj H
      go_wp2
      go_ret
      exact⟨_,by first|rfl|(simp[errW_none,errW_some]<;>rfl)|(simp[*,errW_none,errW_some]<;>rfl),kr HO_5.out,bw HB.out⟩
end Go.Proofs.YthlakefgobflnaaGreatDoor.S
namespace Go.Proofs.YthlakefgobflnaaGreatDoor.Lm
open Go.RowKit Go.Proofs.YthlakefgobflnaaGreatDoorW.PrintWords Go.Proofs.YthlakefgobflnaaGreatDoor.S
set_option linter.unusedVariables false
theorem natFrom_loop(n:Nat): ∀out:List Int,n<18446744073709551616→out.length+(lim n).length<35184372088832→Ev (fun k=>spec_NatFrom.l0 k (n:Int) out) (out++lim n):=by
 induction n using Nat.strongRecOn with
 |_ n ih=>
  intro out hn hl;refine Ev.step ?_;simp only[spec_NatFrom.l0];by_cases h:n=0
  ·subst h;refine Ev.neg (by omega) ?_;rw[lim_zero,List.append_nil];exact Ev.pure _
  ·rw[lim_pos h,List.length_cons]at hl;refine Ev.pos (by omega) (Ev.pos (by omega) ?_);have e1:IntKind.u64.wrap (Int.tdiv (n:Int) 1000000000)=((n/1000000000:Nat):Int):=by
    rw[Int.tdiv_eq_ediv_of_nonneg (by omega),wu64 (by omega) (by omega)];omega
   have e2:(Int.tmod (n:Int) 1000000000)%4294967296=((n%1000000000:Nat):Int):=by
    rw[Int.tmod_eq_emod_of_nonneg (by omega)];omega
   rw[e1,e2,snoc_lim h];exact ih (n/1000000000) (by omega) _ (by omega) (by rw[List.length_append,List.length_singleton];omega)
theorem natFrom(n:Nat)(hn:n<18446744073709551616):Ev (fun k=>spec_NatFrom.f k (n:Int)) (lim n):=by
 have h:=natFrom_loop n [] hn (by have:=len_le (n:=n) (m:=3) (by omega);simp;omega);rwa[List.nil_append]at h
theorem natAdd_loop(a b:Nat)(s:Nat): ∀(i c:Nat) (out:List Int),c≤1→c+a/1000000000^i+b/1000000000^i=s→i+(lim s).length<35184372088832→out.length=i→
 Ev (fun k=>spec_NatAdd.l0 k (lim a) (lim b) out (c:Int) (i:Int)) (out++lim s):=by
 induction s using Nat.strongRecOn with
 |_ s ih=>
  intro i c out hc hs hl hi;refine Ev.step ?_;simp only[spec_NatAdd.l0];have ha:=len_i a i;have hb:=len_i b i;have ra:=rd_lim a i;have rb:=rd_lim b i;have sa:=pow_succ_div a i;have sb:=pow_succ_div b i;have ih':=fun(x:Nat) (hx:x<s) (out2:List Int) (c2:Nat)=>ih x hx (i+1) c2 out2
  rw[sa,sb]at ih';generalize a/1000000000^i=A at*;generalize b/1000000000^i=B at*
  have next: ∀ {x y:Int} {z:Int},x=((s%1000000000:Nat):Int)→y=((s/1000000000-A/1000000000-B/1000000000:Nat):Int)→z=(i:Int)→
   s≠0→Ev (fun k=>spec_NatAdd.l0 k (lim a) (lim b) (out++ [x]) y (wrap64 (z+1))) (out++lim s):=by
   intro x y z hx hy hz hs0;subst hx;subst hy;subst hz;rw[lim_pos hs0,List.length_cons]at hl;rw[w64 (by omega) (by omega),snoc_lim hs0];exact ih' (s/1000000000) (by omega) _ _ (by omega) (by omega) (by omega) (by rw[List.length_append,List.length_singleton,hi])
  have hll:s≠0→out.length<35184372088832:=by omega
  by_cases h1:A≠0
  ·refine Ev.pos (ha.2 h1) (Ev.step ?_);simp only[spec_NatAdd.j1];have hs0:s≠0:=by omega
   refine Ev.pos trivial (Ev.pos (ha.2 h1) (Ev.pos (by omega) ?_));by_cases h2:B≠0
   ·refine Ev.pos (hb.2 h2) (Ev.pos (hll hs0) ?_);rw[ra,rb];exact next (by omega) (by omega) rfl hs0
   ·refine Ev.neg (fun h=>h2 (hb.1 h)) (Ev.pos (hll hs0) ?_);rw[ra];exact next (by omega) (by omega) rfl hs0
  ·refine Ev.neg (fun h=>h1 (ha.1 h)) ?_;by_cases h2:B≠0
   ·refine Ev.pos (hb.2 h2) (Ev.step ?_);simp only[spec_NatAdd.j1];have hs0:s≠0:=by omega
    refine Ev.pos trivial (Ev.neg (fun h=>h1 (ha.1 h)) (Ev.pos (hb.2 h2) (Ev.pos (by omega) (Ev.pos (hll hs0) ?_))));rw[rb];exact next (by omega) (by omega) rfl hs0
   ·refine Ev.neg (fun h=>h2 (hb.1 h)) (Ev.step ?_);simp only[spec_NatAdd.j1];by_cases hc0:c=0
    ·refine Ev.neg (by simp;omega) ?_;have:s=0:=by omega
     rw[this,lim_zero,List.append_nil];exact Ev.pure _
    ·have hs0:s≠0:=by omega
     refine Ev.pos (by simp;omega) (Ev.neg (fun h=>h1 (ha.1 h)) (Ev.neg (fun h=>h2 (hb.1 h)) (Ev.pos (hll hs0) ?_)));refine next ?_ ?_ rfl hs0
     ·rw[Int.tmod_eq_emod_of_nonneg (by omega)];omega
     ·rw[Int.tdiv_eq_ediv_of_nonneg (by omega)];omega
theorem natAdd(a b:Nat)(h:(lim (a+b)).length<35184372088832):Ev (fun k=>spec_NatAdd.f k (lim a) (lim b)) (lim (a+b)):=by
 have:=natAdd_loop a b (a+b) 0 0 [] (by omega) (by simp) (by omega) rfl;rw[List.nil_append]at this;exact this
end Go.Proofs.YthlakefgobflnaaGreatDoor.Lm
namespace Go.Proofs.YthlakefgobflnaaGreatDoor.S
open Go.RowKit Go.Proofs.YthlakefgobflnaaGreatDoorW.PrintWords Go.Proofs.YthlakefgobflnaaGreatDoorW.PrintLast Go.Proofs.YthlakefgobflnaaGreatDoorW.PrintMore
attribute [local go_sem] max2_int min2_int max_two min_two max_three min_three max_four min_four   -- for this text's walks alone
set_option linter.unusedVariables false
set_option linter.unusedSimpArgs false
end Go.Proofs.YthlakefgobflnaaGreatDoor.S
namespace Go.Proofs.YthlakefgobflnaaGreatDoor.S
open Go.RowKit Go.Proofs.YthlakefgobflnaaGreatDoorW.PrintWords Go.Proofs.YthlakefgobflnaaGreatDoorW.PrintLast Go.Proofs.YthlakefgobflnaaGreatDoorW.PrintMore
attribute [local go_sem] max2_int min2_int max_two min_two max_three min_three max_four min_four   -- for this text's walks alone
set_option linter.unusedVariables false
set_option linter.unusedSimpArgs false
def spec_Pow10.l0:Nat→Int→List Int→Int→Int→Option (List Int)
 |0,_,_,_,_=>none
 |k+1,x0,x3,x4,x5=>if x5<(Int.tmod x0 9)then(spec_Pow10.l0 k x0 x3 ((x4*10)%4294967296) (wrap64 (x5+1)))else(if 0≤(wrap64 (Int.tdiv x0 9))then(if(wrap64 (Int.tdiv x0 9))<(x3.length:Int)then(some (x3.set ((wrap64 (Int.tdiv x0 9)):Int).toNat x4))else(none))else(none))
def spec_Pow10.f(k:Nat)(a0:Int):Option (List Int):=if a0<0 then(some ([]:List Int))else(if 0≤(wrap64 ((wrap64 (Int.tdiv a0 9))+1))then(if(wrap64 ((wrap64 (Int.tdiv a0 9))+1):Int).toNat≤70368744177664 then(spec_Pow10.l0 k a0 (List.replicate (wrap64 ((wrap64 (Int.tdiv a0 9))+1):Int).toNat 0) 1 0)else(none))else(none))
set_option maxHeartbeats 8000000 in
set_option maxRecDepth 100000 in
theorem spec_Pow10.calls(k:Nat)(a0:Int)(r:List Int)(w:World)(h:spec_Pow10.f k a0=some r):
 Calls Tryz.prog 70 #[.int .i64 a0] w fun e w'=>∃v0_:Value,e= .returned (v0_)∧Kd.R (Kd.int .u32) 40 w' w.heap.size (fun _=>True) v0_ r∧Below w.heap.size w w':=by
 have HB:=ak (Below.refl w.heap.size w);have H:(if a0<0 then(some ([]:List Int))else(if 0≤(wrap64 ((wrap64 (Int.tdiv a0 9))+1))then(if(wrap64 ((wrap64 (Int.tdiv a0 9))+1):Int).toNat≤70368744177664 then(spec_Pow10.l0 k a0 (List.replicate (wrap64 ((wrap64 (Int.tdiv a0 9))+1):Int).toNat 0) 1 0)else(none))else(none)))=some r:=h;clear h;by_cases c2:a0<0
 ·rw[if_pos c2]at H;have c2b0:decide (a0<0)=true:=decide_eq_true c2;clear c2;obtain rfl:=Option.some.inj H
  go_enter Tryz.func70,Tryz.ntmps70
  go_wp2
  go_ret
  exact⟨_,by first|rfl|(simp[errW_none,errW_some]<;>rfl)|(simp[*,errW_none,errW_some]<;>rfl),zn,bw HB.out⟩
 ·rw[if_neg c2]at H;have c2b0:decide (a0<0)=false:=decide_eq_false c2;clear c2;obtain⟨ji3,hji3⟩: ∃j_:Int,(wrap64 ((wrap64 (Int.tdiv a0 9))+1))=j_:=⟨_,rfl⟩
  replace H:(if 0≤(ji3)then(if(ji3:Int).toNat≤70368744177664 then(spec_Pow10.l0 k a0 (List.replicate (ji3:Int).toNat 0) 1 0)else(none))else(none))=some r:=by first|(rw[hji3]at H;exact H)|(simp only[hji3]at H⊢;exact H)
  have hji3w:(IntKind.i64.wrap ((wrap64 (Int.tdiv a0 9))+1))=ji3:=(i64_w _).trans hji3;replace H:=gd H;obtain⟨c4,H⟩:=H;have c4b0:=eq_true c4;have c4b1:decide (0≤(ji3))=true:=decide_eq_true c4;clear c4;replace H:=gd H;obtain⟨c5,H⟩:=H;have c5b0:=eq_true c5;have c5b1:decide ((ji3:Int).toNat≤70368744177664)=true:=decide_eq_true c5;clear c5;obtain⟨y431,hy431⟩: ∃y_:List Int,y_=(List.replicate (ji3:Int).toNat 0):=⟨_,rfl⟩
  replace H:(spec_Pow10.l0 k a0 y431 1 0)=some r:=zh hy431 H;have Ny431:=ak hy431;clear hy431;have H':=ak H;clear H
  go_enter Tryz.func70,Tryz.ntmps70
  go_wp2_with (first|((with_reducible refine gate_dst (N:=11) rfl ?_);refine Kd.R_make (Kd.int .u32) _ 40 rfl (N:=11) rfl 24 _ _ rfl ji3 rfl rfl Tryz.underlying24 (.int .u32 0) 4 info40 rfl (by decide) (by omega) 0 (ok:=fun _=>True) (okp:=fun _=>True) rfl (fun _ hk=>hk) trivial (of_decide_eq_true za) (Nat.le_trans (Nat.mul_le_mul_right _ (of_decide_eq_true za:ji3.toNat≤70368744177664)) (by omega)) (Below.refl _ _) (Nat.le_refl _) ?_;intro v432 w6 ho7 hb hg_ hnew_;clear hg_ hnew_;(first|rw[←Ny431.out]at ho7|(simp only[Int.reduceToNat]at ho7;rw[←Ny431.out]at ho7));have HO433:=ak (Kd.R_lower ho7 (below_size (bw HB.out)));replace HB:=ak (below_step (bw HB.out) hb);clear hb ho7))
  go_loopg [4,5] k (fun kq v4 v5 w'=>∃(x4_1:Int) (x5_1:Int),v4= .int .u32 x4_1∧v5= .int .i64 x5_1∧Aside0 (spec_Pow10.l0 kq a0 y431 x4_1 x5_1=some r)∧Aside0 (kq≤k)∧Aside0 (Kd.R (Kd.int .u32) 40 w' w.heap.size (fun _=>True) v432 y431)∧Aside0 (Below w.heap.size w w'))
  case atStart=>exact⟨(1),(0),zr,zr,H',⟨Nat.le_refl _⟩,⟨kr HO433.out⟩,⟨bw HB.out⟩⟩
  case round=>
   clear H';try clear c2b0
   try clear c4b0
   try clear c4b1
   try clear c5b0
   try clear c5b1
   obtain⟨x4_1,x5_1,rfl,rfl,HA,HK1,HO_3,HB⟩:=hrel;cases gk with
   |zero=>exact absurd HA.out (by simp[spec_Pow10.l0])
   |succ k1=>
    have H:=HA.out;clear HA;simp only[spec_Pow10.l0]at H;by_cases c8:x5_1<(Int.tmod a0 9)
    ·rw[if_pos c8]at H;have c8b0:decide (x5_1<(Int.tmod a0 9))=true:=decide_eq_true c8;clear c8;have H':=ak H;clear H
     go_wp2
     go_roundg k1
     case measure=>have:=HK1.out;omega
     case rel=>exact⟨((x4_1*10)%4294967296),(wrap64 (x5_1+1)),zr,zr,H',⟨by have:=HK1.out;omega⟩,⟨kr HO_3.out⟩,⟨bw HB.out⟩⟩
    ·rw[if_neg c8]at H;have c8b0:decide (x5_1<(Int.tmod a0 9))=false:=decide_eq_false c8;clear c8;obtain⟨ji9,hji9⟩: ∃j_:Int,(wrap64 (Int.tdiv a0 9))=j_:=⟨_,rfl⟩
     replace H:(if 0≤(ji9)then(if(ji9)<(y431.length:Int)then(some (y431.set ((ji9):Int).toNat x4_1))else(none))else(none))=some r:=by first|(rw[hji9]at H;exact H)|(simp only[hji9]at H⊢;exact H)
     have hji9w:(IntKind.i64.wrap (Int.tdiv a0 9))=ji9:=(i64_w _).trans hji9;replace H:=gdt H;obtain⟨c10b0,H⟩:=H;replace H:=gdt H;obtain⟨c11b0,H⟩:=H;obtain⟨y434,hy434⟩: ∃y_:List Int,y_=(y431.set ((ji9):Int).toNat x4_1):=⟨_,rfl⟩
     replace H:(some y434)=some r:=zh hy434 H;have Ny434:=ak hy434;clear hy434;obtain rfl:=Option.some.inj H;have p12:0≤((ji9):Int):=of_decide_eq_true za;have q12:((ji9):Int)<((y431.length:Int):Int):=of_decide_eq_true za;obtain⟨go12,co12,eo12,gb12,gl12,cl12,HG12⟩:=Kd.R_form HO_3.out (by omega)
     (first|cases eo12|(injection eo12 with ea_ en_ ec_;(first|subst ea_|(injection ea_ with ea_;subst ea_));subst ec_;clear en_))
     have GB12:=ak gb12;have GG12:=ak HG12;clear gb12 gl12 HG12;obtain⟨hx12_0,hf12_0⟩:=Kd.R_celln 0 HO_3.out ((ji9):Int) p12 q12;replace p12:=eq_true p12;replace q12:=eq_true q12;have HP13:=Kd.R_putg HO_3.out ((ji9):Int) x4_1
     go_wp2_with (first|((with_reducible refine gate_store (t:=40) (p:=24) rfl ?_);refine store_event (t:=40) (p:=24) (v:=?vo_w14) (w1:=(wr.setCell ⟨go12,((ji9):Int).toNat,none⟩ (.int .u32 x4_1))) ?hg ?ho ?hn ?hr ?_;(case ho=>rfl);(case hg=>rfl);(case hn=>rfl);(case hr=>first|(go_simp;done)|(go_simp;rfl));intro w14 hw;have hg:wr.grownBy w14 (some go12):=(by rw[hw];exact HP13.2);have hp_:Kd.R (Kd.int .u32) 40 w14 w.heap.size (fun _=>True) (.slice (some ⟨go12,0,none⟩) y431.length co12) y434:=(by rw[hw,Ny434.out];exact HP13.1);clear HP13;replace HO_3:=ak (hp_);replace HB:=ak ((by rw[hw];exact below_set (HB.out) GB12.out:Below w.heap.size w w14));clear hg hw hp_))
     go_ret
     exact⟨_,by first|rfl|(simp[errW_none,errW_some]<;>rfl)|(simp only[←hji3,←hji9];first|rfl|(simp[errW_none,errW_some]<;>rfl))|(simp[*,errW_none,errW_some]<;>rfl),kr HO_3.out,bw HB.out⟩
def spec_one.f:Option (List Int):=some (([1]:List Int))
set_option maxHeartbeats 8000000 in
set_option maxRecDepth 100000 in
theorem spec_one.calls(r:List Int)(w:World)(h:spec_one.f=some r):
 Calls Tryz.prog 74 #[] w fun e w'=>∃v0_:Value,e= .returned (v0_)∧Kd.R (Kd.int .u32) 40 w' w.heap.size (fun _=>True) v0_ r∧Below w.heap.size w w':=by
 have HB:=ak (Below.refl w.heap.size w);have H:(some (([1]:List Int)))=some r:=h;clear h;obtain⟨y657,hy657⟩: ∃y_:List Int,y_=(([1]:List Int)):=⟨_,rfl⟩
 replace H:(some y657)=some r:=zh hy657 H;have Ny657:=ak hy657;clear hy657;obtain rfl:=Option.some.inj H
 go_enter Tryz.func74,Tryz.ntmps74
 go_wp2_with (first|((with_reducible refine gate_dst (N:=1) rfl ?_);refine Kd.R_lit (Kd.int .u32) _ 40 ?hg (N:=1) ?hd (xs:=([1]:List Int)) (inner:= [.int .u32 1]) (ok:=fun _=>True) (okp:=fun _=>True) ?hr ?hp (fun _ hk=>hk) trivial (Below.refl _ _) (Nat.le_refl _) (by simp) ?_;(case hd=>rfl);(case hg=>rfl);(case hr=>first|(go_simp;done)|(go_simp;rfl));(case hp=>exact(Reps.one (show Kd.M (Kd.int .u32) _ _ _ 1 [.int .u32 1]from rfl) (Reps.none _ _)));intro v658 w1 ho2 hb hg_ hnew_;clear hg_ hnew_;(first|rw[←Ny657.out]at ho2|(simp only[Int.reduceToNat]at ho2;rw[←Ny657.out]at ho2));have HO659:=ak (Kd.R_lower ho2 (below_size (bw HB.out)));replace HB:=ak (below_step (bw HB.out) hb);clear hb ho2))
 go_ret
 exact⟨_,by first|rfl|(simp[errW_none,errW_some]<;>rfl)|(simp[*,errW_none,errW_some]<;>rfl),kr HO659.out,bw HB.out⟩
def spec_rounds.f(a0:Int)(a1:Bool)(a2:Int)(a3:Bool):Option (Bool):=if a0=1 then(some true)else(if a0=2 then(some a1)else(if a0=3 then(some (!a1))else(if a0=4 then(some (decide (a2≥0)))else(if a0=5 then(if a2>0 then(some true)else(if a2=0 then(some a3)else(some false)))else(if a0=6 then(some (decide (a2>0)))else(some false))))))
set_option maxHeartbeats 8000000 in
set_option maxRecDepth 100000 in
theorem spec_rounds.calls(a0:Int)(a1:Bool)(a2:Int)(a3:Bool)(r:Bool)(w:World)(h:spec_rounds.f a0 a1 a2 a3=some r):
 Calls Tryz.prog 73 #[.int .i64 a0,.bool a1,.int .i64 a2,.bool a3] w fun e w'=>e= .returned (.bool r)∧Drawn0 w w':=by
 have H:(if a0=1 then(some true)else(if a0=2 then(some a1)else(if a0=3 then(some (!a1))else(if a0=4 then(some (decide (a2≥0)))else(if a0=5 then(if a2>0 then(some true)else(if a2=0 then(some a3)else(some false)))else(if a0=6 then(some (decide (a2>0)))else(some false)))))))=some r:=h;clear h;by_cases c5:a0=1
 ·rw[if_pos c5]at H;have c5b0:(a0==1)=true:=beq_iff_eq.mpr c5;have c5b1:(a0 != 1)=false:=bne_eq_false_iff_eq.mpr c5;clear c5;obtain rfl:=Option.some.inj H
  go_enter Tryz.func73,Tryz.ntmps73
  go_wp2
  go_ret
  exact⟨zr,zd⟩
 ·rw[if_neg c5]at H;have c5b0:(a0==1)=false:=beq_eq_false_iff_ne.mpr c5;have c5b1:(a0 != 1)=true:=bne_iff_ne.mpr c5;by_cases c6:a0=2
  ·rw[if_pos c6]at H;have c6b0:(a0==2)=true:=beq_iff_eq.mpr c6;have c6b1:(a0 != 2)=false:=bne_eq_false_iff_eq.mpr c6;clear c6;obtain rfl:=Option.some.inj H
   go_enter Tryz.func73,Tryz.ntmps73
   go_wp2
   go_ret
   exact⟨zr,zd⟩
  ·rw[if_neg c6]at H;have c6b0:(a0==2)=false:=beq_eq_false_iff_ne.mpr c6;have c6b1:(a0 != 2)=true:=bne_iff_ne.mpr c6;by_cases c7:a0=3
   ·rw[if_pos c7]at H;have c7b0:(a0==3)=true:=beq_iff_eq.mpr c7;have c7b1:(a0 != 3)=false:=bne_eq_false_iff_eq.mpr c7;clear c7;obtain rfl:=Option.some.inj H
    go_enter Tryz.func73,Tryz.ntmps73
    go_wp2
    go_ret
    exact⟨zr,zd⟩
   ·rw[if_neg c7]at H;have c7b0:(a0==3)=false:=beq_eq_false_iff_ne.mpr c7;have c7b1:(a0 != 3)=true:=bne_iff_ne.mpr c7;by_cases c8:a0=4
    ·rw[if_pos c8]at H;have c8b0:(a0==4)=true:=beq_iff_eq.mpr c8;have c8b1:(a0 != 4)=false:=bne_eq_false_iff_eq.mpr c8;clear c8;obtain rfl:=Option.some.inj H
     go_enter Tryz.func73,Tryz.ntmps73
     go_wp2
     go_ret
     exact⟨zr,zd⟩
    ·rw[if_neg c8]at H;have c8b0:(a0==4)=false:=beq_eq_false_iff_ne.mpr c8;have c8b1:(a0 != 4)=true:=bne_iff_ne.mpr c8;by_cases c9:a0=5
     ·rw[if_pos c9]at H;have c9b0:(a0==5)=true:=beq_iff_eq.mpr c9;have c9b1:(a0 != 5)=false:=bne_eq_false_iff_eq.mpr c9;clear c9;by_cases c10:a2>0
      ·rw[if_pos c10]at H;have c10b0:decide (0<a2)=true:=decide_eq_true c10;clear c10;obtain rfl:=Option.some.inj H
       go_enter Tryz.func73,Tryz.ntmps73
       go_wp2
       go_ret
       exact⟨zr,zd⟩
      ·rw[if_neg c10]at H;have c10b0:decide (0<a2)=false:=decide_eq_false c10;clear c10;by_cases c11:a2=0
       ·rw[if_pos c11]at H;have c11b0:(a2==0)=true:=beq_iff_eq.mpr c11;have c11b1:(a2 != 0)=false:=bne_eq_false_iff_eq.mpr c11;clear c11;obtain rfl:=Option.some.inj H
        go_enter Tryz.func73,Tryz.ntmps73
        go_wp2
        go_ret
        exact⟨zr,zd⟩
       ·rw[if_neg c11]at H;have c11b0:(a2==0)=false:=beq_eq_false_iff_ne.mpr c11;have c11b1:(a2 != 0)=true:=bne_iff_ne.mpr c11;obtain rfl:=Option.some.inj H
        go_enter Tryz.func73,Tryz.ntmps73
        go_wp2
        go_ret
        exact⟨zr,zd⟩
     ·rw[if_neg c9]at H;have c9b0:(a0==5)=false:=beq_eq_false_iff_ne.mpr c9;have c9b1:(a0 != 5)=true:=bne_iff_ne.mpr c9;by_cases c12:a0=6
      ·rw[if_pos c12]at H;have c12b0:(a0==6)=true:=beq_iff_eq.mpr c12;have c12b1:(a0 != 6)=false:=bne_eq_false_iff_eq.mpr c12;clear c12;obtain rfl:=Option.some.inj H
       go_enter Tryz.func73,Tryz.ntmps73
       go_wp2
       go_ret
       exact⟨zr,zd⟩
      ·rw[if_neg c12]at H;have c12b0:(a0==6)=false:=beq_eq_false_iff_ne.mpr c12;have c12b1:(a0 != 6)=true:=bne_iff_ne.mpr c12;obtain rfl:=Option.some.inj H
       go_enter Tryz.func73,Tryz.ntmps73
       go_wp2
       go_ret
       exact⟨zr,zd⟩
end Go.Proofs.YthlakefgobflnaaGreatDoor.S
