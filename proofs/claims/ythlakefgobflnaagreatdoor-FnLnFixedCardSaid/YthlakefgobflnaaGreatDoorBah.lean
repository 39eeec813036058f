/- CONTRACTS of spec_Nat_String: each as the plain function beside it. (Began as print.sh's text for this seat; the turns are those of wip/tools/split.py.) WHAT THE REFERENCE's NUMBERS ANSWER, further: String and Digits. CONTRACTS of spec_wholeOf: each as the plain function beside it. (Began as print.sh's text for this seat; the turns are those of wip/tools/split.py.) -/
import Derived.Test.YthlakefgobflnaaGreatDoorBaa
import Derived.Test.YthlakefgobflnaaGreatDoorBag
import Derived.Test.YthlakefgobflnaaGreatDoorBac
namespace Go.Proofs.YthlakefgobflnaaGreatDoor.S
open Go.RowKit Go.Proofs.YthlakefgobflnaaGreatDoorW.PrintWords Go.Proofs.YthlakefgobflnaaGreatDoorW.PrintLast Go.Proofs.YthlakefgobflnaaGreatDoorW.PrintMore
attribute [local go_sem] max2_int min2_int max_two min_two max_three min_three max_four min_four   -- for this text's walks alone
set_option linter.unusedVariables false
set_option linter.unusedSimpArgs false
mutual
def spec_Nat_String.l0:Nat→List Int→List Int→List Int→Int→Int→Option (ByteArray)
 |0,_,_,_,_,_=>none
 |k+1,x0,x3,x9,x10,x11=>if x11<x10 then(if 0≤x11 then(if x11<(x9.length:Int)then(spec_Nat_String.l1 k x0 x3 x11 (rd x9 x11) 0 x9 x10 x11)else(none))else(none))else(if(x3.length:Int)=0 then(some (⟨#[48]⟩:ByteArray))else(spec_Nat_String.l2 k x3 0 (wrap64 ((x3.length:Int)-1))))
def spec_Nat_String.l1:Nat→List Int→List Int→Int→Int→Int→List Int→Int→Int→Option (ByteArray)
 |0,_,_,_,_,_,_,_,_=>none
 |k+1,x0,x3,x4,x5,x6,x9,x10,x11=>if x6<9 then(if x5>0 then(if x3.length<140737488355328 then(spec_Nat_String.l1 k x0 (x3++ [(48+(Int.tmod x5 10))%256]) x4 ((Int.tdiv x5 10)%4294967296) (wrap64 (x6+1)) x9 x10 x11)else(none))else(if(wrap64 (x4+1))<(x0.length:Int)then(if x3.length<140737488355328 then(spec_Nat_String.l1 k x0 (x3++ [(48+(Int.tmod x5 10))%256]) x4 ((Int.tdiv x5 10)%4294967296) (wrap64 (x6+1)) x9 x10 x11)else(none))else(spec_Nat_String.l0 k x0 x3 x9 x10 (wrap64 (x11+1)))))else(spec_Nat_String.l0 k x0 x3 x9 x10 (wrap64 (x11+1)))
def spec_Nat_String.l2:Nat→List Int→Int→Int→Option (ByteArray)
 |0,_,_,_=>none
 |k+1,x3,x7,x8=>if x7<x8 then(if 0≤x8 then(if x8<(x3.length:Int)then(if 0≤x7 then(if x7<(x3.length:Int)then(spec_Nat_String.l2 k ((x3.set (x7:Int).toNat (rd x3 x8)).set (x8:Int).toNat (rd x3 x7)) (wrap64 (x7+1)) (wrap64 (x8-1)))else(none))else(none))else(none))else(none))else(some (strOfNums x3))
end
def spec_Nat_String.f(k:Nat)(l0:List Int):Option (ByteArray):=spec_Nat_String.l0 k l0 ([]:List Int) l0 (l0.length:Int) 0
set_option maxHeartbeats 8000000 in
set_option maxRecDepth 100000 in
theorem spec_Nat_String.calls(k:Nat)(A0:Option Addr)(c0:Nat)(l0:List Int)(r:ByteArray)(w:World)(hr0:Kd.C (Kd.int .u32) w A0 l0.length l0)(hc0:l0.length≤c0)(h:spec_Nat_String.f k l0=some r):
 Calls Tryz.prog 7 #[.slice A0 l0.length c0] w fun e w'=>e= .returned (.string r)∧Below w.heap.size w w':=by
 have HR0:=ak hr0;have HC0:=ak hc0;clear hr0 hc0;have HB:=ak (Below.refl w.heap.size w);have H:(spec_Nat_String.l0 k l0 ([]:List Int) l0 (l0.length:Int) 0)=some r:=h;clear h;have H':=ak H;clear H
 go_enter Tryz.func7,Tryz.ntmps7
 go_wp2
 go_loopg [3,11] k (fun kq v3 v11 w'=>∃(x3_1:List Int) (x11_1:Int),v11= .int .i64 x11_1∧Aside0 (spec_Nat_String.l0 kq l0 x3_1 l0 (l0.length:Int) x11_1=some r)∧Aside0 (kq≤k)∧Aside0 (Kd.R (Kd.int .u8) 5 w' w.heap.size (fun _=>True) v3 x3_1)∧Aside0 (Below w.heap.size w w'))
 case atStart=>exact⟨(([]:List Int)),(0),zr,H',⟨Nat.le_refl _⟩,⟨zn⟩,⟨bw HB.out⟩⟩
 case round=>
  clear H';obtain⟨x3_1,x11_1,rfl,HA,HK1,HO_3,HB⟩:=hrel;cases gk with
  |zero=>exact absurd HA.out (by simp[spec_Nat_String.l0])
  |succ k1=>
   have H:=HA.out;clear HA;simp only[spec_Nat_String.l0]at H;by_cases c2:x11_1<(l0.length:Int)
   ·rw[if_pos c2]at H;have c2b0:decide (x11_1<(l0.length:Int))=true:=decide_eq_true c2;clear c2;replace H:=gdt H;obtain⟨c3b0,H⟩:=H;replace H:=gdt H;obtain⟨c4b0,H⟩:=H;have H':=ak H;clear H;have p357:0≤(x11_1:Int):=of_decide_eq_true za;have q357:x11_1<(l0.length:Int):=of_decide_eq_true za;obtain⟨ad357,e357,hx357_0⟩:=Kd.at_int HR0.out x11_1 p357 q357;cases e357;replace hx357_0:=(HB.out.cell (World.block_lt_of_cell? w _ hx357_0)).trans hx357_0;replace p357:=eq_true p357;replace q357:=eq_true q357
    go_wp2
    go_loopg [3,5,6] k1 (fun kq v3 v5 v6 w'=>∃(x3_2:List Int) (x5_2:Int) (x6_2:Int),v5= .int .u32 x5_2∧v6= .int .i64 x6_2∧Aside0 (spec_Nat_String.l1 kq l0 x3_2 x11_1 x5_2 x6_2 l0 (l0.length:Int) x11_1=some r)∧Aside0 (kq≤k1)∧Aside0 (Kd.R (Kd.int .u8) 5 w' w.heap.size (fun _=>True) v3 x3_2)∧Aside0 (Below w.heap.size w w'))
    case atStart=>exact⟨(x3_1),(rd l0 x11_1),(0),zr,zr,H',⟨Nat.le_refl _⟩,⟨kr HO_3.out⟩,⟨bw HB.out⟩⟩
    case round=>
     clear H';try clear c2b0
     try clear c3b0
     try clear c4b0
     try clear hx357_0
     try clear p357
     try clear q357
     obtain⟨x3_2,x5_2,x6_2,rfl,rfl,HA,HK2,HO_3,HB⟩:=hrel;cases gk with
     |zero=>exact absurd HA.out (by simp[spec_Nat_String.l1])
     |succ k2=>
      have H:=HA.out;clear HA;simp only[spec_Nat_String.l1]at H;by_cases c5:x6_2<9
      ·rw[if_pos c5]at H;have c5b0:decide (x6_2<9)=true:=decide_eq_true c5;clear c5;by_cases c6:x5_2>0
       ·rw[if_pos c6]at H;have c6b0:decide (0<x5_2)=true:=decide_eq_true c6;clear c6;replace H:=gd H;obtain⟨c7,H⟩:=H;have LMc7:=ak c7;clear c7;obtain⟨y358,hy358⟩: ∃y_:List Int,y_=(x3_2++ [(48+(Int.tmod x5_2 10))%256]):=⟨_,rfl⟩
        replace H:(spec_Nat_String.l1 k2 l0 y358 x11_1 ((Int.tdiv x5_2 10)%4294967296) (wrap64 (x6_2+1)) l0 (l0.length:Int) x11_1)=some r:=zh hy358 H;have Ny358:=ak hy358;clear hy358;have H':=ak H;clear H
        go_wp2_with (first|((with_reducible refine gate_builtin (b:=.append) (xs:=#[.tmp 31,.tmp 36]) rfl ?_);(try(refine gate_guard (by rfl) ?_;dsimp only));at_builtin;refine Kd.R_append (Kd.int .u8) (w0:=w) w.heap.size rfl (.tmp 31) (.tmp 36) 61 5 (.int .u8 0) 1 rfl Tryz.underlying61 info5 rfl (by decide) (by omega) u3 x3_2 ((48+(Int.tmod x5_2 10))%256) [.int .u8 ((48+(Int.tmod x5_2 10))%256)] (fun _=>True) (fun _=>False) rfl rfl ?aP (fun _ hk=>hk.elim) ?aF ?aO ?aB ?aS ?aL ?_;(case aP=>exact rfl);(case aB=>exact(bw HB.out));(case aF=>exact(fun _ _=>trivial));(case aO=>exact(kr HO_3.out));(case aS=>exact(below_size (bw HB.out)));(case aL=>have:=LMc7.out;omega);intro v359 w8 ho hb hg hat;rw[←Ny358.out]at ho;replace HB:=ak (hb);have HO360:=ak (ho);clear HO_3;clear ho hb hg hat))
        go_roundg k2
        case measure=>have:=HK1.out;have:=HK2.out;omega
        case rel=>exact⟨(y358),((Int.tdiv x5_2 10)%4294967296),(wrap64 (x6_2+1)),zr,zr,H',⟨by have:=HK1.out;have:=HK2.out;omega⟩,⟨kr HO360.out⟩,⟨bw HB.out⟩⟩
       ·rw[if_neg c6]at H;have c6b0:decide (0<x5_2)=false:=decide_eq_false c6;clear c6;by_cases c9:(wrap64 (x11_1+1))<(l0.length:Int)
        ·rw[if_pos c9]at H;have c9b0:decide ((wrap64 (x11_1+1))<(l0.length:Int))=true:=decide_eq_true c9;clear c9;replace H:=gd H;obtain⟨c10,H⟩:=H;have LMc10:=ak c10;clear c10;obtain⟨y361,hy361⟩: ∃y_:List Int,y_=(x3_2++ [(48+(Int.tmod x5_2 10))%256]):=⟨_,rfl⟩
         replace H:(spec_Nat_String.l1 k2 l0 y361 x11_1 ((Int.tdiv x5_2 10)%4294967296) (wrap64 (x6_2+1)) l0 (l0.length:Int) x11_1)=some r:=zh hy361 H;have Ny361:=ak hy361;clear hy361;have H':=ak H;clear H
         go_wp2_with (first|((with_reducible refine gate_builtin (b:=.append) (xs:=#[.tmp 31,.tmp 36]) rfl ?_);(try(refine gate_guard (by rfl) ?_;dsimp only));at_builtin;refine Kd.R_append (Kd.int .u8) (w0:=w) w.heap.size rfl (.tmp 31) (.tmp 36) 61 5 (.int .u8 0) 1 rfl Tryz.underlying61 info5 rfl (by decide) (by omega) u3 x3_2 ((48+(Int.tmod x5_2 10))%256) [.int .u8 ((48+(Int.tmod x5_2 10))%256)] (fun _=>True) (fun _=>False) rfl rfl ?aP (fun _ hk=>hk.elim) ?aF ?aO ?aB ?aS ?aL ?_;(case aP=>exact rfl);(case aB=>exact(bw HB.out));(case aF=>exact(fun _ _=>trivial));(case aO=>exact(kr HO_3.out));(case aS=>exact(below_size (bw HB.out)));(case aL=>have:=LMc10.out;omega);intro v362 w11 ho hb hg hat;rw[←Ny361.out]at ho;replace HB:=ak (hb);have HO363:=ak (ho);clear HO_3;clear ho hb hg hat))
         go_roundg k2
         case measure=>have:=HK1.out;have:=HK2.out;omega
         case rel=>exact⟨(y361),((Int.tdiv x5_2 10)%4294967296),(wrap64 (x6_2+1)),zr,zr,H',⟨by have:=HK1.out;have:=HK2.out;omega⟩,⟨kr HO363.out⟩,⟨bw HB.out⟩⟩
        ·rw[if_neg c9]at H;have c9b0:decide ((wrap64 (x11_1+1))<(l0.length:Int))=false:=decide_eq_false c9;clear c9;have H':=ak H;clear H
         go_wp2
         go_roundg k2
         case measure=>have:=HK1.out;have:=HK2.out;omega
         case rel=>exact⟨(x3_2),(wrap64 (x11_1+1)),zr,H',⟨by have:=HK1.out;have:=HK2.out;omega⟩,⟨kr HO_3.out⟩,⟨bw HB.out⟩⟩
      ·rw[if_neg c5]at H;have c5b0:decide (x6_2<9)=false:=decide_eq_false c5;clear c5;have H':=ak H;clear H
       go_wp2
       go_roundg k2
       case measure=>have:=HK1.out;have:=HK2.out;omega
       case rel=>exact⟨(x3_2),(wrap64 (x11_1+1)),zr,H',⟨by have:=HK1.out;have:=HK2.out;omega⟩,⟨kr HO_3.out⟩,⟨bw HB.out⟩⟩
   ·rw[if_neg c2]at H;have c2b0:decide (x11_1<(l0.length:Int))=false:=decide_eq_false c2;clear c2;by_cases c12:(x3_1.length:Int)=0
    ·rw[if_pos c12]at H;have c12b0:((x3_1.length:Int)==0)=true:=beq_iff_eq.mpr c12;have c12b1:((x3_1.length:Int) != 0)=false:=bne_eq_false_iff_eq.mpr c12;clear c12;obtain rfl:=Option.some.inj H;obtain⟨Ao13,co13,eo13⟩:=Kd.R_slice HO_3.out;subst eo13
     go_wp2
     go_ret
     exact⟨by first|rfl|(simp[errW_none,errW_some]<;>rfl)|(simp[*,errW_none,errW_some]<;>rfl),bw HB.out⟩
    ·rw[if_neg c12]at H;have c12b0:((x3_1.length:Int)==0)=false:=beq_eq_false_iff_ne.mpr c12;have c12b1:((x3_1.length:Int) != 0)=true:=bne_iff_ne.mpr c12;have c12b2: ¬(x3_1= []):=fun h_=>c12 (by rw[h_];rfl)
     have H':=ak H;clear H;obtain⟨Ao14,co14,eo14⟩:=Kd.R_slice HO_3.out;subst eo14
     go_wp2
     go_loopg [7,8] k1 (fun kq v7 v8 w'=>∃(x3_2:List Int) (x7_2:Int) (x8_2:Int),v7= .int .i64 x7_2∧v8= .int .i64 x8_2∧Aside0 (spec_Nat_String.l2 kq x3_2 x7_2 x8_2=some r)∧Aside0 (kq≤k1)∧Aside0 (Kd.R (Kd.int .u8) 5 w' w.heap.size (fun _=>True) (.slice Ao14 x3_1.length co14) x3_2)∧Aside0 (Below w.heap.size w w'))
     case atStart=>exact⟨(x3_1),(0),(wrap64 ((x3_1.length:Int)-1)),zr,zr,H',⟨Nat.le_refl _⟩,⟨kr HO_3.out⟩,⟨bw HB.out⟩⟩
     case round=>
      clear H';try clear c2b0
      try clear c12
      try clear c12b0
      try clear c12b1
      try clear c12b2
      obtain⟨x3_2,x7_2,x8_2,rfl,rfl,HA,HK2,HO_3,HB⟩:=hrel;have hl3_2:=(Kd.R_reads' HO_3.out).1;rw[hl3_2]at HO_3
      (try simp only[hl3_2])
      cases gk with
      |zero=>exact absurd HA.out (by simp[spec_Nat_String.l2])
      |succ k2=>
       have H:=HA.out;clear HA;simp only[spec_Nat_String.l2]at H;by_cases c15:x7_2<x8_2
       ·rw[if_pos c15]at H;have c15b0:decide (x7_2<x8_2)=true:=decide_eq_true c15;clear c15;replace H:=gdt H;obtain⟨c16b0,H⟩:=H;replace H:=gdt H;obtain⟨c17b0,H⟩:=H;replace H:=gdt H;obtain⟨c18b0,H⟩:=H;replace H:=gdt H;obtain⟨c19b0,H⟩:=H;obtain⟨y366,hy366⟩: ∃y_:List Int,y_=(x3_2.set (x7_2:Int).toNat (rd x3_2 x8_2)):=⟨_,rfl⟩
        replace H:(spec_Nat_String.l2 k2 (y366.set (x8_2:Int).toNat (rd x3_2 x7_2)) (wrap64 (x7_2+1)) (wrap64 (x8_2-1)))=some r:=zh hy366 H;have Ny366:=ak hy366;clear hy366;obtain⟨y367,hy367⟩: ∃y_:List Int,y_=(y366.set (x8_2:Int).toNat (rd x3_2 x7_2)):=⟨_,rfl⟩
        replace H:(spec_Nat_String.l2 k2 y367 (wrap64 (x7_2+1)) (wrap64 (x8_2-1)))=some r:=zh hy367 H;have Ny367:=ak hy367;clear hy367;have H':=ak H;clear H;try go_wp2
        replace HO_3:=ak (Kd.R_drew HO_3.out);replace HB:=ak (below_drew1 HB.out);have p364:0≤(x8_2:Int):=of_decide_eq_true za;have q364:x8_2<(x3_2.length:Int):=of_decide_eq_true za;obtain⟨ad364,e364,hx364_0⟩:=Kd.at_int (Kd.R_reads' HO_3.out).2.2 x8_2 p364 q364;cases e364;replace p364:=eq_true p364;replace q364:=eq_true q364;have p365:0≤(x7_2:Int):=of_decide_eq_true za;have q365:x7_2<(x3_2.length:Int):=of_decide_eq_true za;obtain⟨ad365,e365,hx365_0⟩:=Kd.at_int (Kd.R_reads' HO_3.out).2.2 x7_2 p365 q365;obtain rfl:ad364=ad365:=(by injection e365);replace p365:=eq_true p365;replace q365:=eq_true q365;have p20:0≤(x7_2:Int):=of_decide_eq_true za;have q20:(x7_2:Int)<((x3_2.length:Int):Int):=of_decide_eq_true za;obtain⟨go20,co20,eo20,gb20,gl20,cl20,HG20⟩:=Kd.R_form HO_3.out (by omega)
        (first|cases eo20|(injection eo20 with ea_ en_ ec_;(first|subst ea_|(injection ea_ with ea_;subst ea_));subst ec_;clear en_))
        have GB20:=ak gb20;have GG20:=ak HG20;clear gb20 gl20 HG20
        (first|simp only[add_plain]at hx364_0|skip)
        (first|simp only[add_plain]at hx365_0|skip)
        obtain⟨hx20_0,hf20_0⟩:=Kd.R_celln 0 HO_3.out (x7_2:Int) p20 q20;replace p20:=eq_true p20;replace q20:=eq_true q20;have HP23:=Kd.R_putn HO_3.out (x7_2:Int) (rd x3_2 x8_2);rw[←Ny366.out]at HP23;have HQ23:=ak HP23;clear HP23;have p21:0≤(x8_2:Int):=of_decide_eq_true za;have q21:(x8_2:Int)<((x3_2.length:Int):Int):=of_decide_eq_true za;obtain⟨hx21_0,hf21_0⟩:=Kd.R_celln 0 HQ23.out (x8_2:Int) p21 q21;replace p21:=eq_true p21;replace q21:=eq_true q21;have HP24:=Kd.R_putn HQ23.out (x8_2:Int) (rd x3_2 x7_2);rw[←Ny367.out]at HP24;have HQ24:=ak HP24;clear HP24;refine G.sta (fun w'=>w'.cell? ⟨go20,(x8_2).toNat,none⟩=some (.int .u8 (rd x3_2 x8_2))∧w'.cell? ⟨go20,(x7_2).toNat,none⟩=some (.int .u8 (rd x3_2 x7_2))) [13,15] ⟨hx364_0,hx365_0⟩ (fun hHeld=>?_);generalize wr.drew=w22 at HO_3 HB GG20 HQ23 HQ24 hf20_0 hf21_0 hx20_0 hx21_0 hx364_0 hx365_0 hHeld⊢;iterate 7 refine G.pu 0 ?_
        iterate 3 refine G.pu 1 ?_
        iterate 2 refine G.tk 0 hHeld ?_
        refine G.pu 0 ?_;refine last_ (i:=13) (N:=none) #[true,true,true,true,true,true,true,true,true,true,true,true,true,true,false,false] rfl rfl (by decide+kernel) (by decide) (fun K hK=>?_)
        refine skip_ (w1:=?_) (by rfl) rfl ?_ ?_;rotate_left
        ·go_simp;rfl
        refine hK.out _ _ ?_;clear hK K;refine G.pu 0 ?_;refine last_ (i:=15) (N:=none) #[true,true,true,true,true,true,true,true,true,true,true,true,true,true,true,true] rfl rfl (by decide+kernel) (by decide) (fun K hK=>?_)
        refine skip_ (w1:=?_) (by rfl) rfl ?_ ?_;rotate_left
        ·go_simp;rfl
        refine hK.out _ _ ?_;clear hK K;refine done_ (by decide+kernel) ?_;try go_wp2
        (try simp only[←hl3_2])
        go_roundg k2
        case measure=>have:=HK1.out;have:=HK2.out;omega
        case rel=>exact⟨(y367),(wrap64 (x7_2+1)),(wrap64 (x8_2-1)),zr,zr,H',⟨by have:=HK1.out;have:=HK2.out;omega⟩,⟨by(try simp only[hl3_2]);(with_reducible repeat(first|apply Kd.R_alloc|apply Kd.R_drewN|apply Kd.R_drew));exact HQ24.out⟩,⟨bw2 HB.out GB20.out GB20.out⟩⟩
       ·rw[if_neg c15]at H;have c15b0:decide (x7_2<x8_2)=false:=decide_eq_false c15;clear c15;obtain rfl:=Option.some.inj H;have hcv25:=own_string (P:=Tryz.prog) Tryz.underlying61 Tryz.underlying5 Tryz.underlying9 (Kd.own_of_R HO_3.out)
        (try rw[hl3_1]at c8b0)
        go_wp2
        go_ret
        exact⟨by first|rfl|(simp[errW_none,errW_some]<;>rfl)|(simp[*,errW_none,errW_some]<;>rfl),bw HB.out⟩
end Go.Proofs.YthlakefgobflnaaGreatDoor.S
namespace Go.Proofs.YthlakefgobflnaaGreatDoor.Lm
open Go.RowKit Go.Proofs.YthlakefgobflnaaGreatDoorW.PrintWords Go.Proofs.YthlakefgobflnaaGreatDoor.S
set_option linter.unusedVariables false
def decimal(n:Nat):ByteArray:=if n=0 then⟨#[48]⟩else strOfNums (revDig n).reverse
theorem strOfNums_size(l:List Int):(strOfNums l).size=l.length:=by unfold strOfNums;show((l.map _).toArray).size=_;simp
theorem string_rev(x:List Int)(hL:x.length<9223372036854775807)(d:Nat): ∀(t:Nat) (y:List Int),d=x.length-2*t→2*t≤x.length+1→y.length=x.length→
 (∀p,p<x.length→y.getD p 0=if p<t∨x.length-t≤p then x.getD (x.length-1-p) 0 else x.getD p 0)→
 Ev (fun k=>spec_Nat_String.l2 k y (t:Int) ((x.length:Int)-1-(t:Int))) (strOfNums x.reverse):=by
 induction d using Nat.strongRecOn with
 |_ d ih=>
  intro t y hd ht hy hp;refine Ev.step ?_;simp only[spec_Nat_String.l2];by_cases h:2*t+1<x.length
  ·obtain⟨j,hj⟩: ∃j:Nat,(x.length:Int)-1-(t:Int)=(j:Int):=⟨x.length-1-t,by omega⟩
   have hj':j=x.length-1-t:=by omega
   rw[hj];refine Ev.pos (by omega) (Ev.pos (by omega) (Ev.pos (by omega) (Ev.pos (by omega) (Ev.pos (by omega) ?_))));have e1:wrap64 ((t:Int)+1)=((t+1:Nat):Int):=by rw[w64 (by omega) (by omega)];omega
   have e2:wrap64 ((j:Int)-1)=(x.length:Int)-1-((t+1:Nat):Int):=by rw[w64 (by omega) (by omega)];omega
   rw[e1,e2,Int.toNat_natCast,Int.toNat_natCast];refine ih (x.length-2*(t+1)) (by omega) (t+1) _ rfl (by omega) (by simp[hy]) (fun p hpl=>?_);have r1:rd y (j:Int)=x.getD j 0:=by
    unfold rd;rw[Int.toNat_natCast,hp j (by omega),if_neg (by omega)]
   have r2:rd y (t:Int)=x.getD t 0:=by
    unfold rd;rw[Int.toNat_natCast,hp t (by omega),if_neg (by omega)]
   rw[r1,r2];have hpp:=hp p hpl;rw[List.getD_eq_getElem?_getD,List.getElem?_set,List.getElem?_set];by_cases c1:j=p
   ·subst c1;rw[if_pos rfl,if_pos (by rw[List.length_set];omega),if_pos (by omega)];rw[show x.length-1-j=t by omega];rfl
   ·rw[if_neg c1];by_cases c2:t=p
    ·subst c2;rw[if_pos rfl,if_pos (by omega),if_pos (by omega),show x.length-1-t=j by omega];rfl
    ·rw[if_neg c2,←List.getD_eq_getElem?_getD,hpp];by_cases c3:p<t∨x.length-t≤p
     ·rw[if_pos c3,if_pos (by omega)]
     ·rw[if_neg c3,if_neg (by omega)]
  ·refine Ev.neg (by omega) ?_;have:y=x.reverse:=by
    apply List.ext_getElem (by simp[hy]);intro p h1 h2;have h3:=hp p (by omega);rw[List.getD_eq_getElem?_getD,List.getElem?_eq_getElem h1]at h3;rw[List.getElem_reverse];have h4:y[p]=x.getD (x.length-1-p) 0:=by
     show(some y[p]).getD 0=_;rw[h3];by_cases c3:p<t∨x.length-t≤p
     ·rw[if_pos c3]
     ·rw[if_neg c3,show x.length-1-p=p by omega]
    rw[h4,List.getD_eq_getElem?_getD,List.getElem?_eq_getElem (by omega)];rfl
   rw[this];exact Ev.pure _
theorem string_inner(n i:Nat)(hi:9*i+20<140737488355328)(h0:n/1000000000^i≠0)
 (K:Ev (fun k=>spec_Nat_String.l0 k (lim n) ((revDig n).take (9*i+9)) (lim n) ((lim n).length:Int) ((i+1:Nat):Int)) (decimal n))
 (m:Nat): ∀(x:Nat) (out:List Int),m≤9→x=n/1000000000^i%1000000000/10^(9-m)→
 out=(revDig n).take (9*i+(9-m))→9*i+(9-m)≤(revDig n).length→
 Ev (fun k=>spec_Nat_String.l1 k (lim n) out (i:Int) (x:Int) ((9-m:Nat):Int) (lim n) ((lim n).length:Int) (i:Int)) (decimal n):=by
 have hi':i<9223372036854775807:=by omega
 induction m with
 |zero=>
  intro x out _ hx hout hle;refine Ev.step ?_;simp only[spec_Nat_String.l1];refine Ev.neg (by omega) ?_;rw[w64s i hi',hout];exact K
 |succ m ih=>
  intro x out hm hx hout hle;refine Ev.step ?_;simp only[spec_Nat_String.l1];refine Ev.pos (by omega) ?_;obtain⟨q,hq⟩: ∃q,q=9-(m+1):=⟨_,rfl⟩
  have hq1:9-m=q+1:=by omega
  rw[←hq]at hx hout hle⊢;rw[hq1]at ih;have hd:n/10^(9*i+q)=n/1000000000^i/10^q:=by
   rw[Nat.pow_add,←Nat.div_div_eq_div_mul,Nat.pow_mul]
  have hx10:x%10=n/10^(9*i+q)%10:=by
   rw[hd,hx];have e9:(1000000000:Nat)=10^q*10^(m+1):=by rw[←Nat.pow_add,show q+(m+1)=9 by omega]
   rw[show n/1000000000^i%1000000000=n/1000000000^i%(10^q*10^(m+1)) by rw[←e9],Nat.mod_mul_right_div_self,Nat.pow_succ,Nat.mul_comm (10^m),Nat.mod_mul_right_mod]
  have e1:(48+Int.tmod (x:Int) 10)%256=((48+x%10:Nat):Int):=by rw[Int.tmod_eq_emod_of_nonneg (by omega)];omega
  have hxs:x<1000000000:=by
   rw[hx];exact Nat.lt_of_le_of_lt (Nat.div_le_self _ _) (Nat.mod_lt _ (by omega))
  have e2:(Int.tdiv (x:Int) 10)%4294967296=((x/10:Nat):Int):=by rw[Int.tdiv_eq_ediv_of_nonneg (by omega)];omega
  have hq':q<9223372036854775807:=by omega
  have hol:out.length<140737488355328:=Nat.lt_of_le_of_lt (by rw[hout];exact List.length_take_le _ _) (show 9*i+q<140737488355328 from by clear hx hout hle ih;omega)
  have go:9*i+q<(revDig n).length→
   Ev (fun k=>spec_Nat_String.l1 k (lim n) (out++ [(48+Int.tmod (x:Int) 10)%256]) (i:Int) ((Int.tdiv (x:Int) 10)%4294967296) (wrap64 ((q:Int)+1)) (lim n) ((lim n).length:Int) (i:Int)) (decimal n):=by
   intro hlt;rw[e1,e2,w64s q hq'];refine ih _ _ (Nat.le_of_succ_le hm) (by rw[hx,Nat.div_div_eq_div_mul,Nat.pow_succ]) ?_ hlt;have g:=revDig_get n _ hlt;rw[List.getD_eq_getElem?_getD,List.getElem?_eq_getElem hlt]at g;rw[show 9*i+(q+1)=9*i+q+1 by omega,List.take_succ_eq_append_getElem hlt,hout,hx10]
   congr 1
   rw[←g];rfl
  have hb:=len_i n (i+1);have hz1:n/10^(9*i+q)≠0↔9*i+q<(revDig n).length:=(revDig_len n (9*i+q)).symm;by_cases hx0:x>0
  ·refine Ev.pos (Int.natCast_pos.2 hx0) (Ev.pos hol (go (hz1.1 ?_)));rw[hd];intro hz;have h4:=Nat.div_le_div_right (c:=10^q) (Nat.mod_le (n/1000000000^i) 1000000000);omega
  ·refine Ev.neg (fun h=>hx0 (Int.natCast_pos.1 h)) ?_;rw[w64s i hi'];by_cases hn:n/1000000000^(i+1)≠0
   ·refine Ev.pos (hb.2 hn) (Ev.pos hol (go (hz1.1 ?_)));rw[hd];intro hz;apply hn;have e9:(1000000000:Nat)=10^q*10^(m+1):=by rw[←Nat.pow_add,show q+(m+1)=9 by omega]
    rw[pow_succ_div,show n/1000000000^i/1000000000=n/1000000000^i/(10^q*10^(m+1)) by rw[←e9],←Nat.div_div_eq_div_mul,hz,Nat.zero_div]
   ·refine Ev.neg (fun h=>hn (hb.1 h)) ?_;have hall:(revDig n).length≤9*i+q:=by
     rcases Nat.lt_or_ge (9*i+q) (revDig n).length with h|h
     ·have h5:=hz1.2 h;rw[hd]at h5;have h6:n/1000000000^i<1000000000:=by
       rw[pow_succ_div]at hn;omega
      rw[Nat.mod_eq_of_lt h6]at hx;omega
     ·exact h
    rw[hout,List.take_of_length_le hall,←List.take_of_length_le (l:=revDig n) (i:=9*i+9) (by omega)];exact K
theorem string_outer(n:Nat)(hn:9*(lim n).length+20<140737488355328)(d:Nat): ∀i:Nat,i+d=(lim n).length→Ev (fun k=>spec_Nat_String.l0 k (lim n) ((revDig n).take (9*i)) (lim n) ((lim n).length:Int) (i:Int)) (decimal n):=by
 induction d with
 |zero=>
  intro i hi;refine Ev.step ?_;simp only[spec_Nat_String.l0];refine Ev.neg (by omega) ?_;have hz:n/1000000000^i=0:=by
   have:=(len_lim n i);rcases Nat.eq_zero_or_pos (n/1000000000^i)with h|h
   ·exact h
   ·have:=this.2 (by omega);omega
  have hall:(revDig n).length≤9*i:=by
   have:=revDig_len n (9*i);rw[show n/10^(9*i)=n/1000000000^i by rw[Nat.pow_mul]]at this;rcases Nat.lt_or_ge (9*i) (revDig n).length with h|h
   ·exact absurd hz (this.1 h)
   ·exact h
  rw[List.take_of_length_le hall];by_cases h0:n=0
  ·subst h0;rw[revDig_zero];exact Ev.pos (by simp) (Ev.pure _)
  ·have hp:0<(revDig n).length:=by rw[revDig_pos h0];simp
   refine Ev.neg (by omega) ?_;rw[w64 (by omega) (by omega)];unfold decimal;rw[if_neg h0];have:=string_rev (revDig n) (by omega) _ 0 (revDig n) rfl (by omega) rfl (fun p hp=>by rw[if_neg (by omega)])
   simpa using this
 |succ d ih=>
  intro i hi;have h1:=ih (i+1) (by omega);have hnz:n/1000000000^i≠0:=(len_lim n i).1 (by omega);have hle:9*i<(revDig n).length:=by
   rw[revDig_len,Nat.pow_mul];exact hnz
  have h2:=string_inner n i (by omega) hnz h1 9 (n/1000000000^i%1000000000) ((revDig n).take (9*i)) (by omega) (by simp) (by simp) (by omega);refine Ev.step ?_;simp only[spec_Nat_String.l0];refine Ev.pos (by omega) (Ev.pos (by omega) (Ev.pos (by omega) ?_));rw[rd_lim];exact h2
theorem natString(n:Nat)(hn:9*(lim n).length+20<140737488355328):Ev (fun k=>spec_Nat_String.f k (lim n)) (decimal n):=
 string_outer n hn (lim n).length 0 (by omega)
def ndig(n:Nat):Nat:=(revDig n).length
theorem ndig_le{n m:Nat}:ndig n≤m↔n<10^m:=revDig_le n m
end Go.Proofs.YthlakefgobflnaaGreatDoor.Lm
namespace Go.Proofs.YthlakefgobflnaaGreatDoor.S
open Go.RowKit Go.Proofs.YthlakefgobflnaaGreatDoorW.PrintWords Go.Proofs.YthlakefgobflnaaGreatDoorW.PrintLast Go.Proofs.YthlakefgobflnaaGreatDoorW.PrintMore
attribute [local go_sem] max2_int min2_int max_two min_two max_three min_three max_four min_four   -- for this text's walks alone
set_option linter.unusedVariables false
set_option linter.unusedSimpArgs false
def spec_wholeOf.f(a0:Bool)(l1:List Int):Option (Bool×List Int):=if a0=true then(some (decide (0<l1.length),l1))else(some (false,l1))
set_option maxHeartbeats 8000000 in
set_option maxRecDepth 100000 in
theorem spec_wholeOf.calls(a0:Bool)(P1_:Nat→Prop)(A1:Option Addr)(c1:Nat)(l1:List Int)(r1:Bool)(r2:List Int)(w:World)(hs1:Kd.V (Kd.int .u32) 40 w w.heap.size (fun k_=>P1_ k_) (.slice A1 l1.length c1) l1)(h:spec_wholeOf.f a0 l1=some (r1,r2)):
 Calls Tryz.prog 44 #[.bool a0,.slice A1 l1.length c1] w fun e w'=>∃v1_:Value,e= .returned (.agg #[.bool r1,v1_])∧Kd.V (Kd.int .u32) 40 w' w.heap.size (fun k_=>(P1_ k_∨w.heap.size≤k_)) v1_ r2∧Below w.heap.size w w':=by
 have hu32:=Tryz.underlying32;have HO1:=ak (show Kd.V (Kd.int .u32) 40 w w.heap.size (fun k_=>(P1_ k_∨w.heap.size≤k_)) (.slice A1 l1.length c1) l1 from Kd.V_mono hs1 (fun k_ hk=>.inl hk));have HB:=ak (Below.refl w.heap.size w);have H:(if a0=true then(some (decide (0<l1.length),l1))else(some (false,l1)))=some (r1,r2):=h;clear h;by_cases c3:a0=true
 ·subst c3;have H1:(some (decide (0<l1.length),l1))=some (r1,r2):=by rw[if_pos rfl]at H;exact H
  clear H;have H:=H1;clear H1;simp only[Option.some.injEq,Prod.mk.injEq]at H;obtain⟨rfl,rfl⟩:=H
  go_enter Tryz.func44,Tryz.ntmps44
  go_wp2_with (first|((with_reducible refine gate_dst (N:=4) rfl ?_);(try(refine gate_guard (by rfl) ?_;dsimp only));refine box_event ?hg (N:=4) ?hd (cs:=#[.bool false,.slice none 0 0]) (t:=32) ?hr ?_;(case hd=>rfl);(case hg=>rfl);(case hr=>first|(go_simp;done)|(go_simp;rfl));intro gb227 hg w4 hbox hb;replace HO1:=ak (Kd.V_below (Kd.V_elderB (kv HO1.out) gb227 (Nat.le_of_eq hg.symm)) hb);have BK227:=ak (hbox);have GW227:=ak ((by rw[hg];exact(below_size (bw HB.out)):w.heap.size≤gb227));have GE227:=ak ((by rw[hg];exact(below_size (bw HB.out)):w.heap.size≤gb227));replace HB:=ak (below_step (bw HB.out) hb);clear hb hbox hg;have hcz5_0:w4.cell? ⟨gb227,0,none⟩=some (.bool false):=(blk_cell BK227.out 0).trans rfl;have hcz5_1:w4.cell? ⟨gb227,1,none⟩=some (.slice none 0 0):=(blk_cell BK227.out 1).trans rfl;have hfz5_0:=blk_frozen BK227.out 0;have hfz5_1:=blk_frozen BK227.out 1))
  refine bodyPost_ret (results_cell_row rfl _ _ gb227 32 #[.bool (decide (0<l1.length)),.slice A1 l1.length c1] (0,0) _ rfl (by(with_reducible repeat(first|refine blk_drewN ?_ _|refine blk_drew ?_|refine blk_alloc ?_ _));refine blk_put (cs:=#[.bool (decide (0<l1.length)),.slice none 0 0]) ?_ 1 _ rfl;(with_reducible repeat(first|refine blk_drewN ?_ _|refine blk_drew ?_|refine blk_alloc ?_ _));refine blk_put (cs:=#[.bool false,.slice none 0 0]) ?_ 0 _ rfl;(with_reducible repeat(first|refine blk_drewN ?_ _|refine blk_drew ?_|refine blk_alloc ?_ _));exact BK227.out) Tryz.underlying32 rfl (by kernel_rfl)) rfl ?_;exact⟨_,by first|rfl|(simp[errW_none,errW_some]<;>rfl)|(simp[*,errW_none,errW_some]<;>rfl),by(with_reducible repeat(first|apply Kd.V_alloc|apply Kd.V_drewN|apply Kd.V_drew));exact Kd.V_mono (Kd.V_far (p:=⟨gb227,1,none⟩) (Kd.V_far (p:=⟨gb227,0,none⟩) (Kd.V_mono HO1.out (fun k_ hk=>(⟨hk,hk.2⟩:_∧k_≠gb227))) (fun _ hk=>hk.2) (.bool (decide (0<l1.length)))) (fun _ hk=>hk.2) (.slice A1 l1.length c1)) (fun _ hk=>hk.1.1),bw1 HB.out GE227.out⟩
 ·replace c3:=Bool.eq_false_iff.mpr c3;subst c3;have H1:(some (false,l1))=some (r1,r2):=by rw[if_neg (show¬(false=true) by decide)]at H;exact H
  clear H;have H:=H1;clear H1;simp only[Option.some.injEq,Prod.mk.injEq]at H;obtain⟨rfl,rfl⟩:=H
  go_enter Tryz.func44,Tryz.ntmps44
  go_wp2_with (first|((with_reducible refine gate_dst (N:=4) rfl ?_);(try(refine gate_guard (by rfl) ?_;dsimp only));refine box_event ?hg (N:=4) ?hd (cs:=#[.bool false,.slice none 0 0]) (t:=32) ?hr ?_;(case hd=>rfl);(case hg=>rfl);(case hr=>first|(go_simp;done)|(go_simp;rfl));intro gb227 hg w6 hbox hb;replace HO1:=ak (Kd.V_below (Kd.V_elderB (kv HO1.out) gb227 (Nat.le_of_eq hg.symm)) hb);have BK227:=ak (hbox);have GW227:=ak ((by rw[hg];exact(below_size (bw HB.out)):w.heap.size≤gb227));have GE227:=ak ((by rw[hg];exact(below_size (bw HB.out)):w.heap.size≤gb227));replace HB:=ak (below_step (bw HB.out) hb);clear hb hbox hg;have hcz7_0:w6.cell? ⟨gb227,0,none⟩=some (.bool false):=(blk_cell BK227.out 0).trans rfl;have hcz7_1:w6.cell? ⟨gb227,1,none⟩=some (.slice none 0 0):=(blk_cell BK227.out 1).trans rfl;have hfz7_0:=blk_frozen BK227.out 0;have hfz7_1:=blk_frozen BK227.out 1))
  refine bodyPost_ret (results_cell_row rfl _ _ gb227 32 #[.bool false,.slice A1 l1.length c1] (0,0) _ rfl (by(with_reducible repeat(first|refine blk_drewN ?_ _|refine blk_drew ?_|refine blk_alloc ?_ _));refine blk_put (cs:=#[.bool false,.slice none 0 0]) ?_ 1 _ rfl;(with_reducible repeat(first|refine blk_drewN ?_ _|refine blk_drew ?_|refine blk_alloc ?_ _));refine blk_put (cs:=#[.bool false,.slice none 0 0]) ?_ 0 _ rfl;(with_reducible repeat(first|refine blk_drewN ?_ _|refine blk_drew ?_|refine blk_alloc ?_ _));exact BK227.out) Tryz.underlying32 rfl (by kernel_rfl)) rfl ?_;exact⟨_,by first|rfl|(simp[errW_none,errW_some]<;>rfl)|(simp[*,errW_none,errW_some]<;>rfl),by(with_reducible repeat(first|apply Kd.V_alloc|apply Kd.V_drewN|apply Kd.V_drew));exact Kd.V_mono (Kd.V_far (p:=⟨gb227,1,none⟩) (Kd.V_far (p:=⟨gb227,0,none⟩) (Kd.V_mono HO1.out (fun k_ hk=>(⟨hk,hk.2⟩:_∧k_≠gb227))) (fun _ hk=>hk.2) (.bool false)) (fun _ hk=>hk.2) (.slice A1 l1.length c1)) (fun _ hk=>hk.1.1),bw1 HB.out GE227.out⟩
end Go.Proofs.YthlakefgobflnaaGreatDoor.S
