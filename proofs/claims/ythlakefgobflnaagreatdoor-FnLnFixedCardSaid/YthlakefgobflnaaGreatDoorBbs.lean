/- CONTRACTS: impl_ZzWhole2. (Began as print.sh's text over a scratch copy; turned by wip/tools/transplant.py and by hand.) -/
import Derived.Test.YthlakefgobflnaaGreatDoorBaa
import Derived.Test.YthlakefgobflnaaGreatDoorBag
import Derived.Test.YthlakefgobflnaaGreatDoorBas
import Derived.Test.YthlakefgobflnaaGreatDoorBbr
namespace Go.Proofs.YthlakefgobflnaaGreatDoor.S
open Go.Proofs.YthlakefgobflnaaGreatDoor.G Go.RowKit Go.Proofs.YthlakefgobflnaaGreatDoorW.PrintWords Go.Proofs.YthlakefgobflnaaGreatDoorW.PrintLast Go.Proofs.YthlakefgobflnaaGreatDoorW.PrintMore
attribute [local go_sem] max2_int min2_int max_two min_two max_three min_three max_four min_four
set_option linter.unusedVariables false
set_option linter.unusedSimpArgs false
set_option maxHeartbeats 8000000 in
set_option maxRecDepth 100000 in
theorem impl_whole.callsO(k:Nat)(a0:ByteArray)(r1:List Int)(w:World)(h:impl_whole.f k a0=some (r1,false))(hok:L64.Ok r1)(hlen:r1.length≤100000):
 Calls Tryz.prog 15 #[.string a0] w fun e w'=>∃g v r,e= .returned (.tuple #[.pointer (some ⟨g,0,none⟩),.bool true])∧w.heap.size≤g∧w'.heap[g]?=some (.cells #[.bool false,v] 55 (0,0))∧Opd w' v r (L64.lim (L64.val r1))∧(∀k,r=some k→w.heap.size≤k)∧Below w.heap.size w w':=by
 have HNm:=ak (And.intro hok hlen);clear hok hlen;have HB:=ak (Below.refl w.heap.size w);have H:(if(a0.size:Int)>0 then(if 0<(a0.size:Int)then(impl_whole.j0 k a0 ((bt a0 0)==45))else(none))else(impl_whole.j0 k a0 false))=some (r1,false):=h;clear h;have HC2:=ak H;clear H
 go_enter Tryz.func15,Tryz.ntmps15
 go_upto_region 1 with(fail)
 go_cut [4] (fun v4 wc=>∃(kq:Nat) (x4_1:Bool),v4= .bool x4_1∧Aside0 (impl_whole.j0 kq a0 x4_1=some (r1,false))∧Aside0 (kq≤k)∧Aside0 (Below w.heap.size w wc))
 case first=>
  have H:=HC2.out;clear HC2;by_cases c3:(a0.size:Int)>0
  ·rw[if_pos c3]at H;have c3b0:decide (0<(a0.size:Int))=true:=decide_eq_true c3;have c3b1:decide (0<a0.size)=true:=decide_eq_true (by omega);clear c3
   (first|rw[c3b0]|(simp only[i64_w,i32_w];rw[c3b0])|skip)
   replace H:=gd H;obtain⟨c4,H⟩:=H;have c4b0:decide (0<(a0.size:Int))=true:=decide_eq_true c4;have c4b1:decide (0<a0.size)=true:=decide_eq_true (by omega);clear c4;have H':=ak H;clear H;have p5:0≤(0:Int):=(by omega);have q5:0<a0.size:=(by have:(0:Int)<(a0.size:Int):=of_decide_eq_true za;omega);have hx5: ∀h:0<a0.size,((a0[0]'h).toNat:Int)=bt a0 0:=bt_at a0 0
   clear p5;have qi5:(0<(a0.size:Int))=True:=eq_true (of_decide_eq_true za);replace q5:=eq_true q5
   go_wp2
   go_meet
   case rel=>exact⟨_,(((bt a0 0)==45)),zr,H',⟨by first|omega|exact Nat.le_refl _⟩,⟨bw HB.out⟩⟩
  ·rw[if_neg c3]at H;have c3b0:decide (0<(a0.size:Int))=false:=decide_eq_false c3;have c3b1:decide (0<a0.size)=false:=decide_eq_false (by omega);clear c3
   (first|rw[c3b0]|(simp only[i64_w,i32_w];rw[c3b0])|skip)
   have H':=ak H;clear H
   go_wp2
   go_meet
   case rel=>exact⟨_,(false),zr,H',⟨by first|omega|exact Nat.le_refl _⟩,⟨bw HB.out⟩⟩
 case rest=>
  clear HC2;obtain⟨kq,x4_1,rfl,HA,HJ1,HB⟩:=hcut;cases kq with
  |zero=>exact absurd HA.out (by simp[impl_whole.j0])
  |succ kj1=>
   have H:=HA.out;clear HA;simp only[impl_whole.j0]at H;have HC6:=ak H;clear H
   go_upto_if 21 with(fail)
   go_cut [0] (fun v0 wc=>∃(kq:Nat) (x0_5:ByteArray),v0= .string x0_5∧Aside0 (impl_whole.j1 kq x0_5 x4_1=some (r1,false))∧Aside0 (kq≤kj1)∧Aside0 (Below w.heap.size w wc))
   case first=>
    have H:=HC6.out;clear HC6;by_cases c7:x4_1=true
    ·subst c7;have H1:(if 1≤(a0.size:Int)then(impl_whole.j1 kj1 (a0.extract 1 a0.size) true)else(none))=some (r1,false):=by rw[if_pos rfl]at H;exact H
     clear H;have H:=H1;clear H1;replace H:=gd H;obtain⟨c8,H⟩:=H;have c8b0:=eq_true c8;have c8b1:decide (1≤(a0.size:Int))=true:=decide_eq_true c8;clear c8;have H':=ak H;clear H
     go_wp2
     go_meet
     case rel=>exact⟨_,(a0.extract 1 a0.size),zr,H',⟨by have:=HJ1.out;first|omega|exact Nat.le_refl _⟩,⟨bw HB.out⟩⟩
    ·replace c7:=Bool.eq_false_iff.mpr c7;subst c7;have H1:(impl_whole.j1 kj1 a0 false)=some (r1,false):=by rw[if_neg (show¬(false=true) by decide)]at H;exact H
     clear H;have H:=H1;clear H1;have H':=ak H;clear H
     go_wp2
     go_meet
     case rel=>exact⟨_,(a0),zr,H',⟨by have:=HJ1.out;first|omega|exact Nat.le_refl _⟩,⟨bw HB.out⟩⟩
   case rest=>
    clear HC6;obtain⟨kq,x0_5,rfl,HA,HJ5,HB⟩:=hcut;cases kq with
    |zero=>exact absurd HA.out (by simp[impl_whole.j1])
    |succ kj5=>
     have H:=HA.out;clear HA;simp only[impl_whole.j1]at H;have HC9:=ak H;clear H
     go_upto_region 4 with(fail)
     go_cut [44] (fun v44 wc=>∃(kq:Nat) (x44_8:Bool),v44= .bool x44_8∧Aside0 (impl_whole.j2 kq x0_5 x4_1 x44_8=some (r1,false))∧Aside0 (kq≤kj5)∧Aside0 (Below w.heap.size w wc))
     case first=>
      have H:=HC9.out;clear HC9;by_cases c10:(x0_5.size:Int)=0
      ·rw[if_pos c10]at H;have c10b0:((x0_5.size:Int)==0)=true:=beq_iff_eq.mpr c10;have c10b1:((x0_5.size:Int) != 0)=false:=bne_eq_false_iff_eq.mpr c10;clear c10
       (first|rw[c10b0]|(simp only[i64_w,i32_w];rw[c10b0])|skip)
       have H':=ak H;clear H
       go_wp2
       go_meet
       case rel=>exact⟨_,(true),zr,H',⟨by have:=HJ1.out;have:=HJ5.out;first|omega|exact Nat.le_refl _⟩,⟨bw HB.out⟩⟩
      ·rw[if_neg c10]at H;have c10b0:((x0_5.size:Int)==0)=false:=beq_eq_false_iff_ne.mpr c10;have c10b1:((x0_5.size:Int) != 0)=true:=bne_iff_ne.mpr c10
       (first|rw[c10b0]|(simp only[i64_w,i32_w];rw[c10b0])|skip)
       by_cases c11:(x0_5.size:Int)>400
       ·rw[if_pos c11]at H;have c11b0:decide (400<(x0_5.size:Int))=true:=decide_eq_true c11;have c11b1:decide (400<x0_5.size)=true:=decide_eq_true (by omega);clear c11;have H':=ak H;clear H
        go_wp2
        go_meet
        case rel=>exact⟨_,(true),zr,H',⟨by have:=HJ1.out;have:=HJ5.out;first|omega|exact Nat.le_refl _⟩,⟨bw HB.out⟩⟩
       ·rw[if_neg c11]at H;have c11b0:decide (400<(x0_5.size:Int))=false:=decide_eq_false c11;have c11b1:decide (400<x0_5.size)=false:=decide_eq_false (by omega);clear c11;replace H:=gd H;obtain⟨c12,H⟩:=H;have c12b0:decide (0<(x0_5.size:Int))=true:=decide_eq_true c12;have c12b1:decide (0<x0_5.size)=true:=decide_eq_true (by omega);clear c12;by_cases c14:(bt x0_5 0)=48
        ·rw[if_pos c14]at H;have c14b0:((bt x0_5 0)==48)=true:=beq_iff_eq.mpr c14;have c14b1:((bt x0_5 0) != 48)=false:=bne_eq_false_iff_eq.mpr c14;clear c14;by_cases c15:(x0_5.size:Int)>1
         ·rw[if_pos c15]at H;have c15b0:decide (1<(x0_5.size:Int))=true:=decide_eq_true c15;have c15b1:decide (1<x0_5.size)=true:=decide_eq_true (by omega);clear c15;have H':=ak H;clear H;have p13:0≤(0:Int):=(by omega);have q13:0<x0_5.size:=(by have:(0:Int)<(x0_5.size:Int):=of_decide_eq_true za;omega);have hx13: ∀h:0<x0_5.size,((x0_5[0]'h).toNat:Int)=bt x0_5 0:=bt_at x0_5 0
          clear p13;have qi13:(0<(x0_5.size:Int))=True:=eq_true (of_decide_eq_true za);replace q13:=eq_true q13
          go_wp2
          go_meet
          case rel=>exact⟨_,(true),zr,H',⟨by have:=HJ1.out;have:=HJ5.out;first|omega|exact Nat.le_refl _⟩,⟨bw HB.out⟩⟩
         ·rw[if_neg c15]at H;have c15b0:decide (1<(x0_5.size:Int))=false:=decide_eq_false c15;have c15b1:decide (1<x0_5.size)=false:=decide_eq_false (by omega);clear c15;have H':=ak H;clear H;have p13:0≤(0:Int):=(by omega);have q13:0<x0_5.size:=(by have:(0:Int)<(x0_5.size:Int):=of_decide_eq_true za;omega);have hx13: ∀h:0<x0_5.size,((x0_5[0]'h).toNat:Int)=bt x0_5 0:=bt_at x0_5 0
          clear p13;have qi13:(0<(x0_5.size:Int))=True:=eq_true (of_decide_eq_true za);replace q13:=eq_true q13
          go_wp2
          go_meet
          case rel=>exact⟨_,(x4_1),zr,H',⟨by have:=HJ1.out;have:=HJ5.out;first|omega|exact Nat.le_refl _⟩,⟨bw HB.out⟩⟩
        ·rw[if_neg c14]at H;have c14b0:((bt x0_5 0)==48)=false:=beq_eq_false_iff_ne.mpr c14;have c14b1:((bt x0_5 0) != 48)=true:=bne_iff_ne.mpr c14;have H':=ak H;clear H;have p13:0≤(0:Int):=(by omega);have q13:0<x0_5.size:=(by have:(0:Int)<(x0_5.size:Int):=of_decide_eq_true za;omega);have hx13: ∀h:0<x0_5.size,((x0_5[0]'h).toNat:Int)=bt x0_5 0:=bt_at x0_5 0
         clear p13;have qi13:(0<(x0_5.size:Int))=True:=eq_true (of_decide_eq_true za);replace q13:=eq_true q13
         go_wp2
         go_meet
         case rel=>exact⟨_,(false),zr,H',⟨by have:=HJ1.out;have:=HJ5.out;first|omega|exact Nat.le_refl _⟩,⟨bw HB.out⟩⟩
     case rest=>
      clear HC9;obtain⟨kq,x44_8,rfl,HA,HJ8,HB⟩:=hcut;cases kq with
      |zero=>exact absurd HA.out (by simp[impl_whole.j2])
      |succ kj8=>
       have H:=HA.out;clear HA;simp only[impl_whole.j2]at H;by_cases c16:x44_8=true
       ·subst c16;rw[if_pos rfl]at H;exact absurd H (by simp)
       ·replace c16:=Bool.eq_false_iff.mpr c16;subst c16;have H1:(impl_whole.l0 kj8 x0_5 x4_1 ([]:List Int) 0)=some (r1,false):=by rw[if_neg (show¬(false=true) by decide)]at H;exact H
        clear H;have H:=H1;clear H1;have H':=ak H;clear H
        go_wp2
        go_loopg [5,6] kj8 (fun kq v5 v6 w'=>∃(x5_4:List Int) (x6_4:Int),v6= .int .i64 x6_4∧Aside0 (impl_whole.l0 kq x0_5 x4_1 x5_4 x6_4=some (r1,false))∧Aside0 (kq≤kj8)∧Aside0 (Kd.R (Kd.int .u64) 73 w' w.heap.size (fun _=>True) v5 x5_4)∧Aside0 (Below w.heap.size w w'))
        case atStart=>exact⟨(([]:List Int)),(0),zr,H',⟨Nat.le_refl _⟩,⟨zn⟩,⟨bw HB.out⟩⟩
        case round=>
         clear H';try clear c16
         obtain⟨x5_4,x6_4,rfl,HA,HK4,HO_5,HB⟩:=hrel;cases gk with
         |zero=>exact absurd HA.out (by simp[impl_whole.l0])
         |succ k4=>
          have H:=HA.out;clear HA;simp only[impl_whole.l0]at H;by_cases c17:x6_4<(x0_5.size:Int)
          ·rw[if_pos c17]at H;have c17b0:decide (x6_4<(x0_5.size:Int))=true:=decide_eq_true c17;clear c17;have H':=ak H;clear H
           go_wp2
           go_loopg [6,7,8] k4 (fun kq v6 v7 v8 w'=>∃(x6_5:Int) (x7_5:Int) (x8_5:Int),v6= .int .i64 x6_5∧v7= .int .u64 x7_5∧v8= .int .u64 x8_5∧Aside0 (impl_whole.l1 kq x0_5 x4_1 x5_4 x6_5 x7_5 x8_5=some (r1,false))∧Aside0 (kq≤k4)∧Aside0 (Kd.R (Kd.int .u64) 73 w' w.heap.size (fun _=>True) u5 x5_4)∧Aside0 (Below w.heap.size w w'))
           case atStart=>exact⟨(x6_4),(0),(1),zr,zr,zr,H',⟨Nat.le_refl _⟩,⟨kr HO_5.out⟩,⟨bw HB.out⟩⟩
           case round=>
            clear H';try clear c16
            try clear c17b0
            obtain⟨x6_5,x7_5,x8_5,rfl,rfl,rfl,HA,HK5,HO_5,HB⟩:=hrel;cases gk with
            |zero=>exact absurd HA.out (by simp[impl_whole.l1])
            |succ k5=>
             have H:=HA.out;clear HA;simp only[impl_whole.l1]at H;have HC18:=ak H;clear H
             go_upto_region 10 with(fail)
             go_cut [56] (fun v56 wc=>∃(kq:Nat) (x56_17:Bool),v56= .bool x56_17∧Aside0 (impl_whole.j5 kq x0_5 x4_1 x5_4 x6_5 x7_5 x8_5 x56_17=some (r1,false))∧Aside0 (kq≤k5)∧Aside0 (Kd.R (Kd.int .u64) 73 wc w.heap.size (fun _=>True) u5 x5_4)∧Aside0 (Below w.heap.size w wc))
             case first=>
              have H:=HC18.out;clear HC18;by_cases c19:x6_5<(x0_5.size:Int)
              ·rw[if_pos c19]at H;have c19b0:decide (x6_5<(x0_5.size:Int))=true:=decide_eq_true c19;clear c19
               (first|rw[c19b0]|(simp only[i64_w,i32_w];rw[c19b0])|skip)
               have H':=ak H;clear H
               go_wp2
               go_meet
               case rel=>exact⟨_,(decide (x8_5<1000000000)),zr,H',⟨by have:=HJ1.out;have:=HJ5.out;have:=HJ8.out;have:=HK4.out;have:=HK5.out;first|omega|exact Nat.le_refl _⟩,⟨kr HO_5.out⟩,⟨bw HB.out⟩⟩
              ·rw[if_neg c19]at H;have c19b0:decide (x6_5<(x0_5.size:Int))=false:=decide_eq_false c19;clear c19
               (first|rw[c19b0]|(simp only[i64_w,i32_w];rw[c19b0])|skip)
               have H':=ak H;clear H
               go_wp2
               go_meet
               case rel=>exact⟨_,(false),zr,H',⟨by have:=HJ1.out;have:=HJ5.out;have:=HJ8.out;have:=HK4.out;have:=HK5.out;first|omega|exact Nat.le_refl _⟩,⟨kr HO_5.out⟩,⟨bw HB.out⟩⟩
             case rest=>
              clear HC18;try clear c16
              try clear c17b0
              obtain⟨kq,x56_17,rfl,HA,HJ17,HO_5,HB⟩:=hcut;cases kq with
              |zero=>exact absurd HA.out (by simp[impl_whole.j5])
              |succ kj17=>
               have H:=HA.out;clear HA;simp only[impl_whole.j5]at H;by_cases c20:x56_17=true
               ·subst c20;have H1:(if 0≤x6_5 then(if x6_5<(x0_5.size:Int)then(if(bt x0_5 x6_5)<48 then(none)else(if(bt x0_5 x6_5)>57 then(none)else(impl_whole.l1 kj17 x0_5 x4_1 x5_4 (wrap64 (x6_5+1)) (IntKind.u64.wrap ((IntKind.u64.wrap (x7_5*10))+(((bt x0_5 x6_5)-48)%256))) (IntKind.u64.wrap (x8_5*10)))))else(none))else(none))=some (r1,false):=by rw[if_pos rfl]at H;exact H
                clear H;have H:=H1;clear H1;replace H:=gdt H;obtain⟨c21b0,H⟩:=H;replace H:=gdt H;obtain⟨c22b0,H⟩:=H;by_cases c24:(bt x0_5 x6_5)<48
                ·rw[if_pos c24]at H;exact absurd H (by simp)
                ·rw[if_neg c24]at H;have c24b0:decide ((bt x0_5 x6_5)<48)=false:=decide_eq_false c24;clear c24;by_cases c26:(bt x0_5 x6_5)>57
                 ·rw[if_pos c26]at H;exact absurd H (by simp)
                 ·rw[if_neg c26]at H;have c26b0:decide (57<(bt x0_5 x6_5))=false:=decide_eq_false c26;clear c26;have H':=ak H;clear H;have p23:0≤(x6_5:Int):=of_decide_eq_true za;have q23:x6_5<(x0_5.size:Int):=of_decide_eq_true za;have hx23:=bt_at x0_5 x6_5;replace p23:=eq_true p23;replace q23:=eq_true q23;have p25:0≤(x6_5:Int):=of_decide_eq_true za;have q25:x6_5<(x0_5.size:Int):=of_decide_eq_true za;have hx25:=bt_at x0_5 x6_5;replace p25:=eq_true p25;replace q25:=eq_true q25;have p27:0≤(x6_5:Int):=of_decide_eq_true za;have q27:x6_5<(x0_5.size:Int):=of_decide_eq_true za;have hx27:=bt_at x0_5 x6_5;replace p27:=eq_true p27;replace q27:=eq_true q27
                  go_wp2
                  go_roundg kj17
                  case measure=>have:=HJ1.out;have:=HJ5.out;have:=HJ8.out;have:=HK4.out;have:=HK5.out;have:=HJ17.out;omega
                  case rel=>exact⟨(wrap64 (x6_5+1)),(IntKind.u64.wrap ((IntKind.u64.wrap (x7_5*10))+(((bt x0_5 x6_5)-48)%256))),(IntKind.u64.wrap (x8_5*10)),zr,zr,zr,H',⟨by have:=HJ1.out;have:=HJ5.out;have:=HJ8.out;have:=HK4.out;have:=HK5.out;have:=HJ17.out;omega⟩,⟨kr HO_5.out⟩,⟨bw HB.out⟩⟩
               ·replace c20:=Bool.eq_false_iff.mpr c20;subst c20;have H1:(impl_whole.l2 kj17 x0_5 x4_1 x5_4 x6_5 x7_5 x8_5 (x5_4.length:Int) 0)=some (r1,false):=by rw[if_neg (show¬(false=true) by decide)]at H;exact H
                clear H;have H:=H1;clear H1;have H':=ak H;clear H;obtain⟨Ao28,co28,eo28⟩:=Kd.R_slice HO_5.out;subst eo28
                go_wp2
                go_loopg [7,81] kj17 (fun kq v7 v81 w'=>∃(x5_7:List Int) (x7_7:Int) (x81_7:Int),v7= .int .u64 x7_7∧v81= .int .i64 x81_7∧Aside0 (impl_whole.l2 kq x0_5 x4_1 x5_7 x6_5 x7_7 x8_5 (x5_4.length:Int) x81_7=some (r1,false))∧Aside0 (kq≤kj17)∧Aside0 (Kd.R (Kd.int .u64) 73 w' w.heap.size (fun _=>True) (.slice Ao28 x5_4.length co28) x5_7)∧Aside0 (Below w.heap.size w w'))
                case atStart=>exact⟨(x5_4),(x7_5),(0),zr,zr,H',⟨Nat.le_refl _⟩,⟨kr HO_5.out⟩,⟨bw HB.out⟩⟩
                case round=>
                 clear H';try clear c16
                 try clear c17b0
                 try clear c20
                 obtain⟨x5_7,x7_7,x81_7,rfl,rfl,HA,HK7,HO_5,HB⟩:=hrel;have hl5_7:=(Kd.R_reads' HO_5.out).1;rw[hl5_7]at HO_5
                 (try simp only[hl5_7])
                 cases gk with
                 |zero=>exact absurd HA.out (by simp[impl_whole.l2])
                 |succ k7=>
                  have H:=HA.out;clear HA;simp only[impl_whole.l2]at H;by_cases c29:x81_7<(x5_4.length:Int)
                  ·rw[if_pos c29]at H;have c29b0:decide (x81_7<(x5_4.length:Int))=true:=decide_eq_true c29;clear c29;replace H:=gdt H;obtain⟨c30b0,H⟩:=H;replace H:=gdt H;obtain⟨c31b0,H⟩:=H;obtain⟨y102,hy102⟩: ∃y_:List Int,y_=(x5_7.set (x81_7:Int).toNat (Go.bits .and .u64 (IntKind.u64.wrap (x7_7+(IntKind.u64.wrap ((rd x5_7 x81_7)*x8_5)))) 4294967295)):=⟨_,rfl⟩
                   replace H:(impl_whole.l2 k7 x0_5 x4_1 y102 x6_5 ((IntKind.u64.wrap (x7_7+(IntKind.u64.wrap ((rd x5_7 x81_7)*x8_5))))/4294967296) x8_5 (x5_4.length:Int) (wrap64 (x81_7+1)))=some (r1,false):=zh hy102 H;have Ny102:=ak hy102;clear hy102;have H':=ak H;clear H;have p101:0≤(x81_7:Int):=of_decide_eq_true za;have q101:x81_7<(x5_7.length:Int):=of_decide_eq_true za;obtain⟨ad101,e101,hx101_0⟩:=Kd.at_int (Kd.R_reads' HO_5.out).2.2 x81_7 p101 q101;cases e101;replace p101:=eq_true p101;replace q101:=eq_true q101;have p32:0≤(x81_7:Int):=of_decide_eq_true za;have q32:(x81_7:Int)<((x5_7.length:Int):Int):=of_decide_eq_true za;obtain⟨go32,co32,eo32,gb32,gl32,cl32,HG32⟩:=Kd.R_form HO_5.out (by omega)
                   (first|cases eo32|(injection eo32 with ea_ en_ ec_;(first|subst ea_|(injection ea_ with ea_;subst ea_));subst ec_;clear en_))
                   have GB32:=ak gb32;have GG32:=ak HG32;clear gb32 gl32 HG32
                   (first|simp only[add_plain]at hx101_0|skip)
                   obtain⟨hx32_0,hf32_0⟩:=Kd.R_celln 0 HO_5.out (x81_7:Int) p32 q32;replace p32:=eq_true p32;replace q32:=eq_true q32;have HP33:=Kd.R_putg HO_5.out (x81_7:Int) (Go.bits .and .u64 (IntKind.u64.wrap (x7_7+(IntKind.u64.wrap ((rd x5_7 x81_7)*x8_5)))) 4294967295)
                   go_wp2_with (first|((with_reducible refine gate_store (t:=73) (p:=96) rfl ?_);refine store_event (t:=73) (p:=96) (v:=?vo_w34) (w1:=(wr.setCell ⟨go32,(x81_7:Int).toNat,none⟩ (.int .u64 (Go.bits .and .u64 (IntKind.u64.wrap (x7_7+(IntKind.u64.wrap ((rd x5_7 x81_7)*x8_5)))) 4294967295)))) ?hg ?ho ?hn ?hr ?_;(case ho=>rfl);(case hg=>rfl);(case hn=>rfl);(case hr=>first|(go_simp;done)|(go_simp;rfl));intro w34 hw;have hg:wr.grownBy w34 (some go32):=(by rw[hw];exact HP33.2);have hp_:Kd.R (Kd.int .u64) 73 w34 w.heap.size (fun _=>True) (.slice (some ⟨go32,0,none⟩) x5_7.length co28) y102:=(by rw[hw,Ny102.out];exact HP33.1);clear HP33;replace HO_5:=ak (hp_);replace HB:=ak ((by rw[hw];exact below_set (HB.out) GB32.out:Below w.heap.size w w34));clear hg hw hp_))
                   (try simp only[←hl5_7])
                   go_roundg k7
                   case measure=>have:=HJ1.out;have:=HJ5.out;have:=HJ8.out;have:=HK4.out;have:=HK5.out;have:=HJ17.out;have:=HK7.out;omega
                   case rel=>exact⟨(y102),((IntKind.u64.wrap (x7_7+(IntKind.u64.wrap ((rd x5_7 x81_7)*x8_5))))/4294967296),(wrap64 (x81_7+1)),zr,zr,H',⟨by have:=HJ1.out;have:=HJ5.out;have:=HJ8.out;have:=HK4.out;have:=HK5.out;have:=HJ17.out;have:=HK7.out;omega⟩,⟨by(try simp only[hl5_7]);(with_reducible repeat(first|apply Kd.R_alloc|apply Kd.R_drewN|apply Kd.R_drew));exact HO_5.out⟩,⟨bw HB.out⟩⟩
                  ·rw[if_neg c29]at H;have c29b0:decide (x81_7<(x5_4.length:Int))=false:=decide_eq_false c29;rw[hl5_7]at c29b0;clear c29;by_cases c35:x7_7>0
                   ·rw[if_pos c35]at H;have c35b0:decide (0<x7_7)=true:=decide_eq_true c35;clear c35;replace H:=gd H;obtain⟨c36,H⟩:=H;have LMc36:=ak c36;clear c36;obtain⟨y103,hy103⟩: ∃y_:List Int,y_=(x5_7++ [x7_7]):=⟨_,rfl⟩
                    replace H:(impl_whole.l0 k7 x0_5 x4_1 y103 x6_5)=some (r1,false):=zh hy103 H;have Ny103:=ak hy103;clear hy103;have H':=ak H;clear H
                    go_wp2_with (first|((with_reducible refine gate_builtin (b:=.append) (xs:=#[.tmp 102,.tmp 104]) rfl ?_);(try(refine gate_guard (by rfl) ?_;dsimp only));at_builtin;refine Kd.R_append (Kd.int .u64) (w0:=w) w.heap.size rfl (.tmp 102) (.tmp 104) 80 73 (.int .u64 0) 8 rfl Tryz.underlying80 tinfo_u64 rfl (by decide) (by omega) (.slice Ao28 x5_7.length co28) x5_7 x7_7 [.int .u64 x7_7] (fun _=>True) (fun _=>False) rfl rfl ?aP (fun _ hk=>hk.elim) ?aF ?aO ?aB ?aS ?aL ?_;(case aP=>exact rfl);(case aB=>exact(bw HB.out));(case aF=>exact(fun _ _=>trivial));(case aO=>exact(kr HO_5.out));(case aS=>exact(below_size (bw HB.out)));(case aL=>have:=LMc36.out;omega);intro v104 w37 ho hb hg hat;rw[←Ny103.out]at ho;replace HB:=ak (hb);have HO105:=ak (ho);clear HO_5;clear ho hb hg hat))
                    (try simp only[←hl5_7])
                    go_roundg k7
                    case measure=>have:=HJ1.out;have:=HJ5.out;have:=HJ8.out;have:=HK4.out;have:=HK5.out;have:=HJ17.out;have:=HK7.out;omega
                    case rel=>exact⟨(y103),(x6_5),zr,H',⟨by have:=HJ1.out;have:=HJ5.out;have:=HJ8.out;have:=HK4.out;have:=HK5.out;have:=HJ17.out;have:=HK7.out;omega⟩,⟨by(try simp only[hl5_7]);(with_reducible repeat(first|apply Kd.R_alloc|apply Kd.R_drewN|apply Kd.R_drew));exact HO105.out⟩,⟨bw HB.out⟩⟩
                   ·rw[if_neg c35]at H;have c35b0:decide (0<x7_7)=false:=decide_eq_false c35;clear c35;have H':=ak H;clear H
                    go_wp2
                    (try simp only[←hl5_7])
                    go_roundg k7
                    case measure=>have:=HJ1.out;have:=HJ5.out;have:=HJ8.out;have:=HK4.out;have:=HK5.out;have:=HJ17.out;have:=HK7.out;omega
                    case rel=>exact⟨(x5_7),(x6_5),zr,H',⟨by have:=HJ1.out;have:=HJ5.out;have:=HJ8.out;have:=HK4.out;have:=HK5.out;have:=HJ17.out;have:=HK7.out;omega⟩,⟨by(try simp only[hl5_7]);(with_reducible repeat(first|apply Kd.R_alloc|apply Kd.R_drewN|apply Kd.R_drew));exact HO_5.out⟩,⟨bw HB.out⟩⟩
          ·rw[if_neg c17]at H;have c17b0:decide (x6_4<(x0_5.size:Int))=false:=decide_eq_false c17;clear c17;have H':=ak H;clear H;obtain⟨Ao38,co38,eo38⟩:=Kd.R_slice HO_5.out;subst eo38
           go_wp2
           go_loopg [10,108] k4 (fun kq v10 v108 w'=>∃(x10_5:List Int) (x108_5:Int),v108= .int .i64 x108_5∧Aside0 (impl_whole.l3 kq x4_1 x5_4 x10_5 (x5_4.length:Int) x108_5=some (r1,false))∧Aside0 (kq≤k4)∧Aside0 (Kd.R (Kd.int .u64) 73 w' w.heap.size (fun _=>True) (.slice Ao38 x5_4.length co38) x5_4)∧Aside0 (Kd.R (Kd.int .u64) 81 w' w.heap.size (fun _=>True) v10 x10_5)∧Aside0 (Below w.heap.size w w'))
           case atStart=>exact⟨(([]:List Int)),(0),zr,H',⟨Nat.le_refl _⟩,⟨kr HO_5.out⟩,⟨zn⟩,⟨bw HB.out⟩⟩
           case round=>
            clear H';try clear c16
            try clear c17b0
            obtain⟨x10_5,x108_5,rfl,HA,HK5,HO_5,HO_10,HB⟩:=hrel;cases gk with
            |zero=>exact absurd HA.out (by simp[impl_whole.l3])
            |succ k5=>
             have H:=HA.out;clear HA;simp only[impl_whole.l3]at H;by_cases c39:x108_5<(x5_4.length:Int)
             ·rw[if_pos c39]at H;have c39b0:decide (x108_5<(x5_4.length:Int))=true:=decide_eq_true c39;clear c39;by_cases c40:(Int.tmod x108_5 2)=0
              ·rw[if_pos c40]at H;have c40b0:((Int.tmod x108_5 2)==0)=true:=beq_iff_eq.mpr c40;have c40b1:((Int.tmod x108_5 2) != 0)=false:=bne_eq_false_iff_eq.mpr c40;clear c40;replace H:=gdt H;obtain⟨c41b0,H⟩:=H;replace H:=gdt H;obtain⟨c42b0,H⟩:=H;replace H:=gd H;obtain⟨c43,H⟩:=H;have LMc43:=ak c43;clear c43;obtain⟨y107,hy107⟩: ∃y_:List Int,y_=(x10_5++ [rd x5_4 x108_5]):=⟨_,rfl⟩
               replace H:(impl_whole.l3 k5 x4_1 x5_4 y107 (x5_4.length:Int) (wrap64 (x108_5+1)))=some (r1,false):=zh hy107 H;have Ny107:=ak hy107;clear hy107;have H':=ak H;clear H;have p106:0≤(x108_5:Int):=of_decide_eq_true za;have q106:x108_5<(x5_4.length:Int):=of_decide_eq_true za;obtain⟨ad106,e106,hx106_0⟩:=Kd.at_int (Kd.R_reads' HO_5.out).2.2 x108_5 p106 q106;cases e106;replace p106:=eq_true p106;replace q106:=eq_true q106
               go_wp2_with (first|((with_reducible refine gate_builtin (b:=.append) (xs:=#[.tmp 114,.tmp 119]) rfl ?_);(try(refine gate_guard (by rfl) ?_;dsimp only));at_builtin;refine Kd.R_append (Kd.int .u64) (w0:=w) w.heap.size rfl (.tmp 114) (.tmp 119) 52 81 (.int .u64 0) 8 rfl Tryz.underlying52 tinfo_word rfl (by decide) (by omega) u10 x10_5 (rd x5_4 x108_5) [.int .u64 (rd x5_4 x108_5)] (fun _=>True) (fun _=>False) rfl rfl ?aP (fun _ hk=>hk.elim) ?aF ?aO ?aB ?aS ?aL ?_;(case aP=>exact rfl);(case aB=>exact(bw HB.out));(case aF=>exact(fun _ _=>trivial));(case aO=>exact(kr HO_10.out));(case aS=>exact(below_size (bw HB.out)));(case aL=>have:=LMc43.out;omega);intro v108 w44 ho hb hg hat;rw[←Ny107.out]at ho;replace HO_5:=ak (Kd.R_over' (kr HO_5.out) (Kd.R_typed (kr HO_10.out)) (by decide) hg);replace HB:=ak (hb);have HO109:=ak (ho);clear HO_10;clear ho hb hg hat))
               go_roundg k5
               case measure=>have:=HJ1.out;have:=HJ5.out;have:=HJ8.out;have:=HK4.out;have:=HK5.out;omega
               case rel=>exact⟨(y107),(wrap64 (x108_5+1)),zr,H',⟨by have:=HJ1.out;have:=HJ5.out;have:=HJ8.out;have:=HK4.out;have:=HK5.out;omega⟩,⟨kr HO_5.out⟩,⟨kr HO109.out⟩,⟨bw HB.out⟩⟩
              ·rw[if_neg c40]at H;have c40b0:((Int.tmod x108_5 2)==0)=false:=beq_eq_false_iff_ne.mpr c40;have c40b1:((Int.tmod x108_5 2) != 0)=true:=bne_iff_ne.mpr c40;obtain⟨ji45,hji45⟩: ∃j_:Int,(wrap64 (Int.tdiv x108_5 2))=j_:=⟨_,rfl⟩
               replace H:(if 0≤(ji45)then(if(ji45)<(x10_5.length:Int)then(if 0≤x108_5 then(if x108_5<(x5_4.length:Int)then(impl_whole.l3 k5 x4_1 x5_4 (x10_5.set ((ji45):Int).toNat (Go.bits .or .u64 (rd x10_5 (ji45)) (IntKind.u64.wrap ((rd x5_4 x108_5)*4294967296)))) (x5_4.length:Int) (wrap64 (x108_5+1)))else(none))else(none))else(none))else(none))=some (r1,false):=by first|(rw[hji45]at H;exact H)|(simp only[hji45]at H⊢;exact H)
               have hji45w:(IntKind.i64.wrap (Int.tdiv x108_5 2))=ji45:=(i64_w _).trans hji45;replace H:=gdt H;obtain⟨c46b0,H⟩:=H;replace H:=gdt H;obtain⟨c47b0,H⟩:=H;replace H:=gdt H;obtain⟨c48b0,H⟩:=H;replace H:=gdt H;obtain⟨c49b0,H⟩:=H;obtain⟨y112,hy112⟩: ∃y_:List Int,y_=(x10_5.set ((ji45):Int).toNat (Go.bits .or .u64 (rd x10_5 (ji45)) (IntKind.u64.wrap ((rd x5_4 x108_5)*4294967296)))):=⟨_,rfl⟩
               replace H:(impl_whole.l3 k5 x4_1 x5_4 y112 (x5_4.length:Int) (wrap64 (x108_5+1)))=some (r1,false):=zh hy112 H;have Ny112:=ak hy112;clear hy112;have H':=ak H;clear H;try go_wp2
               replace HO_5:=ak (Kd.R_drew HO_5.out);replace HO_10:=ak (Kd.R_drew HO_10.out);replace HB:=ak (below_drew1 HB.out);obtain⟨Ao52,co52,eo52⟩:=Kd.R_slice HO_10.out
               (first|subst eo52|(injection eo52 with f1_ f2_ f3_;have f4_:=f1_.symm;have f5_:=f3_.symm;clear f1_ f2_ f3_;subst f4_;subst f5_))
               have p110:0≤((ji45):Int):=of_decide_eq_true za;have q110:(ji45)<(x10_5.length:Int):=of_decide_eq_true za;obtain⟨ad110,e110,hx110_0⟩:=Kd.at_int (Kd.R_reads' HO_10.out).2.2 (ji45) p110 q110;cases e110;replace p110:=eq_true p110;replace q110:=eq_true q110;have p111:0≤(x108_5:Int):=of_decide_eq_true za;have q111:x108_5<(x5_4.length:Int):=of_decide_eq_true za;obtain⟨ad111,e111,hx111_0⟩:=Kd.at_int (Kd.R_reads' HO_5.out).2.2 x108_5 p111 q111;cases e111;replace p111:=eq_true p111;replace q111:=eq_true q111;have p50:0≤((ji45):Int):=of_decide_eq_true za;have q50:((ji45):Int)<((x10_5.length:Int):Int):=of_decide_eq_true za;obtain⟨go50,co50,eo50,gb50,gl50,cl50,HG50⟩:=Kd.R_form HO_10.out (by omega)
               (first|cases eo50|(injection eo50 with ea_ en_ ec_;(first|subst ea_|(injection ea_ with ea_;subst ea_));subst ec_;clear en_))
               have GB50:=ak gb50;have GG50:=ak HG50;clear gb50 gl50 HG50
               (first|simp only[add_plain]at hx110_0|skip)
               obtain⟨hx50_0,hf50_0⟩:=Kd.R_celln 0 HO_10.out ((ji45):Int) p50 q50;replace p50:=eq_true p50;replace q50:=eq_true q50;have HP53:=Kd.R_putn HO_10.out ((ji45):Int) (Go.bits .or .u64 (rd x10_5 (ji45)) (IntKind.u64.wrap ((rd x5_4 x108_5)*4294967296)));rw[←Ny112.out]at HP53;have HQ53:=ak HP53;clear HP53;refine G.sta (fun w'=>w'.cell? ⟨go50,((ji45)).toNat,none⟩=some (.int .u64 (rd x10_5 (ji45)))∧w'.cell? (ad111.add (x108_5).toNat)=some (.int .u64 (rd x5_4 x108_5))) [12] ⟨hx110_0,hx111_0⟩ (fun hHeld=>?_);generalize wr.drew=w51 at HO_5 HO_10 HB GG50 HQ53 hf50_0 hx110_0 hx111_0 hx50_0 hHeld⊢;iterate 4 refine G.pu 0 ?_
               iterate 3 refine G.pu 1 ?_
               iterate 2 refine G.tk 0 hHeld ?_
               iterate 3 refine G.pu 0 ?_
               refine last_ (i:=12) (N:=none) #[true,true,true,true,true,true,true,true,true,true,true,true,true] rfl rfl (by decide+kernel) (by decide) (fun K hK=>?_)
               refine skip_ (w1:=?_) (by rfl) rfl ?_ ?_;rotate_left
               ·go_simp;rfl
               refine hK.out _ _ ?_;clear hK K;refine done_ (by decide+kernel) ?_;try go_wp2
               go_roundg k5
               case measure=>have:=HJ1.out;have:=HJ5.out;have:=HJ8.out;have:=HK4.out;have:=HK5.out;omega
               case rel=>exact⟨(y112),(wrap64 (x108_5+1)),zr,H',⟨by have:=HJ1.out;have:=HJ5.out;have:=HJ8.out;have:=HK4.out;have:=HK5.out;omega⟩,⟨by(with_reducible repeat(first|apply Kd.R_alloc|apply Kd.R_drewN|apply Kd.R_drew));exact Kd.R_mono (Kd.R_far (p:=⟨go50,((ji45):Int).toNat,none⟩) (Kd.R_types HO_5.out GG50.out (by decide)) (fun _ hk=>hk.2) (.int .u64 (Go.bits .or .u64 (rd x10_5 (ji45)) (IntKind.u64.wrap ((rd x5_4 x108_5)*4294967296))))) (fun _ hk=>trivial)⟩,⟨kr HQ53.out⟩,⟨bw1 HB.out GB50.out⟩⟩
             ·rw[if_neg c39]at H;have c39b0:decide (x108_5<(x5_4.length:Int))=false:=decide_eq_false c39;clear c39;by_cases c54:x4_1=true
              ·subst c54;have H1:(some (x10_5,true))=some (r1,false):=by rw[if_pos rfl]at H;exact H
               simp only[Option.some.injEq,Prod.mk.injEq]at H1;exact absurd H1.2 (by simp)
              ·replace c54:=Bool.eq_false_iff.mpr c54;subst c54;have H1:(some (x10_5,false))=some (r1,false):=by rw[if_neg (show¬(false=true) by decide)]at H;exact H
               clear H;simp only[Option.some.injEq,Prod.mk.injEq]at H1;obtain⟨rfl,-⟩:=H1;obtain⟨ro,hOp,hBo⟩:=opd_of_R HO_10.out;have HOp:=ak hOp;have HBo:=ak hBo;clear hOp hBo;obtain⟨A10,c10,e10⟩:=Kd.R_slice HO_10.out;subst e10
               go_wp2_with (((with_reducible refine gate_dst (N:=134) rfl ?_);refine box_event ?hg (N:=134) ?hd (cs:=#[.bool false,.slice none 0 0]) (t:=55) ?hr ?_;(case hd=>rfl);(case hg=>rfl);(case hr=>first|(go_simp;done)|(go_simp;rfl));intro g1 hgq w1 hbx hb;have B1:=ak hbx;have gq_g1:=ak hgq;clear hbx hgq);have HB1:=ak (below_step HB.out hb);have HOp1:=ak (HOp.out.below hb);clear hb)
               refine(setBitsO_is w g1 _ ro x10_5 false (.slice none 0 0) w1 B1.out HB1.out (by rw[gq_g1.out];exact HB.out.size) HOp1.out (fun k hk=>⟨HBo.out k hk,by rw[gq_g1.out];exact Nat.ne_of_lt (by subst hk;exact HOp.out.lt)⟩) HNm.out.2 HNm.out.1).mono ?_;rintro e w2 ⟨rfl,v',r',hB',hO',hk',hb⟩;have G1:=ak (show w.heap.size≤g1 by rw[gq_g1.out];exact HB.out.size);have HF:=ak (And.intro hB' (And.intro hO' (And.intro hk' hb)));clear hB' hO' hk' hb HOp1 HOp HBo B1 HB1
               go_wp2_with fail
               exact bodyPost_ret (v:=.tuple #[.pointer (some ⟨g1,0,none⟩),.bool true]) (by simp[results,Tryz.results15,go_sem]) rfl ⟨g1,v',r',rfl,G1.out,HF.out.1,HF.out.2.1,HF.out.2.2.1,HF.out.2.2.2⟩
end Go.Proofs.YthlakefgobflnaaGreatDoor.S
