/- CONTRACTS: impl_ZzDigits2. (Began as print.sh's text over a scratch copy; turned by wip/tools/transplant.py and by hand.) -/
import Derived.Test.YthlakefgobflnaaGreatDoorBaa
import Derived.Test.YthlakefgobflnaaGreatDoorBag
import Derived.Test.YthlakefgobflnaaGreatDoorBas
namespace Go.Proofs.YthlakefgobflnaaGreatDoor.S
open Go.Proofs.YthlakefgobflnaaGreatDoor.G Go.RowKit Go.Proofs.YthlakefgobflnaaGreatDoorW.PrintWords Go.Proofs.YthlakefgobflnaaGreatDoorW.PrintLast Go.Proofs.YthlakefgobflnaaGreatDoorW.PrintMore
attribute [local go_sem] max2_int min2_int max_two min_two max_three min_three max_four min_four
set_option linter.unusedVariables false
set_option linter.unusedSimpArgs false
mutual
def impl_digits.l0:Nat→List Int→List Int→List Int→Int→Int→Option (ByteArray)
 |0,_,_,_,_,_=>none
 |k+1,x0,x3,x13,x14,x15=>if x15<x14 then(if 0≤x15 then(if x15<(x13.length:Int)then((some (([Go.bits .and .u64 (rd x13 x15) 4294967295,(rd x13 x15)/4294967296]:List Int):List Int)).bind fun y126=>(if x3.length+y126.length<17592186044416 then(impl_digits.l0 k x0 (x3++y126) x13 x14 (wrap64 (x15+1)))else(none)))else(none))else(none))else(impl_digits.l1 k x0 x3 ([]:List Int))
def impl_digits.l1:Nat→List Int→List Int→List Int→Option (ByteArray)
 |0,_,_,_=>none
 |k+1,x0,x3,x6=>if(x3.length:Int)>0 then(impl_digits.l2 k x0 x3 x6 0 (wrap64 ((x3.length:Int)-1)))else(if(x6.length:Int)=0 then(some (⟨#[48]⟩:ByteArray))else(if 0<x0.length then(if x6.length<140737488355328 then(impl_digits.j6 k (x6++ [45]))else(none))else(impl_digits.j6 k x6)))
def impl_digits.l2:Nat→List Int→List Int→List Int→Int→Int→Option (ByteArray)
 |0,_,_,_,_,_=>none
 |k+1,x0,x3,x6,x7,x8=>if x8≥0 then(if 0≤x8 then(if x8<(x3.length:Int)then(impl_digits.l2 k x0 (x3.set (x8:Int).toNat (IntKind.u64.wrap (Int.tdiv (Go.bits .or .u64 (IntKind.u64.wrap (x7*4294967296)) (rd x3 x8)) 1000000000))) x6 (Int.tmod (Go.bits .or .u64 (IntKind.u64.wrap (x7*4294967296)) (rd x3 x8)) 1000000000) (wrap64 (x8-1)))else(none))else(none))else(impl_digits.l3 k x0 x3 x6 x7)
def impl_digits.j4:Nat→List Int→List Int→List Int→Int→Option (ByteArray)
 |0,_,_,_,_=>none
 |k+1,x0,x3,x6,x7=>impl_digits.l4 k x0 x3 x6 x7 0
def impl_digits.l4:Nat→List Int→List Int→List Int→Int→Int→Option (ByteArray)
 |0,_,_,_,_,_=>none
 |k+1,x0,x3,x6,x7,x9=>if x9<9 then(if x7=0 then(if(x3.length:Int)>0 then(if x6.length<140737488355328 then(impl_digits.l4 k x0 x3 (x6++ [(IntKind.u64.wrap (48+(Int.tmod x7 10)))%256]) (IntKind.u64.wrap (Int.tdiv x7 10)) (wrap64 (x9+1)))else(none))else(impl_digits.l1 k x0 x3 x6))else(if x6.length<140737488355328 then(impl_digits.l4 k x0 x3 (x6++ [(IntKind.u64.wrap (48+(Int.tmod x7 10)))%256]) (IntKind.u64.wrap (Int.tdiv x7 10)) (wrap64 (x9+1)))else(none)))else(impl_digits.l1 k x0 x3 x6)
def impl_digits.l3:Nat→List Int→List Int→List Int→Int→Option (ByteArray)
 |0,_,_,_,_=>none
 |k+1,x0,x3,x6,x7=>if(x3.length:Int)>0 then(if 0≤(wrap64 ((x3.length:Int)-1))then(if(wrap64 ((x3.length:Int)-1))<(x3.length:Int)then(if(rd x3 (wrap64 ((x3.length:Int)-1)))=0 then(if(wrap64 ((x3.length:Int)-1))≤(x3.length:Int)then(impl_digits.l3 k x0 (x3.take ((wrap64 ((x3.length:Int)-1)):Int).toNat) x6 x7)else(none))else(impl_digits.j4 k x0 x3 x6 x7))else(none))else(none))else(impl_digits.j4 k x0 x3 x6 x7)
def impl_digits.j6:Nat→List Int→Option (ByteArray)
 |0,_=>none
 |k+1,x6=>impl_digits.l5 k x6 0 (wrap64 ((x6.length:Int)-1))
def impl_digits.l5:Nat→List Int→Int→Int→Option (ByteArray)
 |0,_,_,_=>none
 |k+1,x6,x10,x11=>if x10<x11 then(if 0≤x11 then(if x11<(x6.length:Int)then(if 0≤x10 then(if x10<(x6.length:Int)then(impl_digits.l5 k ((x6.set (x10:Int).toNat (rd x6 x11)).set (x11:Int).toNat (rd x6 x10)) (wrap64 (x10+1)) (wrap64 (x11-1)))else(none))else(none))else(none))else(none))else(some (strOfNums x6))
end
def impl_digits.f(k:Nat)(l0 lx:List Int):Option (ByteArray):=impl_digits.l0 k l0 ([]:List Int) lx (lx.length:Int) 0
set_option maxHeartbeats 8000000 in
set_option maxRecDepth 100000 in
theorem impl_digits.calls(k:Nat)(bs g:Nat)(b:Bool)(l0 lx:List Int)(r:ByteArray)(w:World)(hI:IntAt w bs g b lx)(hsg:decide (sgnI b lx<0)=decide (0<l0.length))(h:impl_digits.f k l0 lx=some r):
 Calls Tryz.prog 20 #[.pointer (some ⟨g,0,none⟩)] w fun e w'=>e= .returned (.string r)∧Below w.heap.size w w':=by
 obtain⟨A0,c0,hBg,hVg⟩:=id hI;have HI:=ak hI;have HSG:=ak hsg;have HR124:=ak (Kd.V_reads' hVg).2.2;have HC124:=ak (Kd.V_reads' hVg).2.1;have HBits:=ak (fun w0 (hb:Below w.heap.size w w0)=>bits_is g b lx A0 c0 w0 (blk_below hBg hb));clear hI hBg hVg hsg;have HB:=ak (Below.refl w.heap.size w);have H':=ak (show impl_digits.l0 k l0 ([]:List Int) lx (lx.length:Int) 0=some r from h);clear h
 ·go_enter Tryz.func20,Tryz.ntmps20
  go_wp2_with (go_at_call 41;refine(HBits.out _ (Below.refl _ _)).mono ?_;rintro e w' ⟨rfl,rfl⟩)
  go_loopg [3,15] k (fun kq v3 v15 w'=>∃(x3_1:List Int) (x15_1:Int),v15= .int .i64 x15_1∧Aside0 (impl_digits.l0 kq l0 x3_1 lx (lx.length:Int) x15_1=some r)∧Aside0 (kq≤k)∧Aside0 (Kd.R (Kd.int .u64) 73 w' w.heap.size (fun _=>True) v3 x3_1)∧Aside0 (Below w.heap.size w w'))
  case atStart=>exact⟨(([]:List Int)),(0),zr,H',⟨Nat.le_refl _⟩,⟨zn⟩,⟨bw HB.out⟩⟩
  case round=>
   clear H';obtain⟨x3_1,x15_1,rfl,HA,HK1,HO_3,HB⟩:=hrel;cases gk with
   |zero=>exact absurd HA.out (by simp[impl_digits.l0])
   |succ k1=>
    have H:=HA.out;clear HA;simp only[impl_digits.l0]at H;by_cases c4:x15_1<(lx.length:Int)
    ·rw[if_pos c4]at H;have c4b0:decide (x15_1<(lx.length:Int))=true:=decide_eq_true c4;clear c4;replace H:=gdt H;obtain⟨c5b0,H⟩:=H;replace H:=gdt H;obtain⟨c6b0,H⟩:=H;obtain⟨y126,hy126⟩: ∃y_:List Int,y_=(([Go.bits .and .u64 (rd lx x15_1) 4294967295,(rd lx x15_1)/4294967296]:List Int)):=⟨_,rfl⟩
     replace H:(if x3_1.length+y126.length<17592186044416 then(impl_digits.l0 k1 l0 (x3_1++y126) lx (lx.length:Int) (wrap64 (x15_1+1)))else(none))=some r:=zh hy126 H;have Ny126:=ak hy126;clear hy126;replace H:=gd H;obtain⟨c7,H⟩:=H;have LMc7:=ak c7;clear c7;obtain⟨y129,hy129⟩: ∃y_:List Int,y_=(x3_1++y126):=⟨_,rfl⟩
     replace H:(impl_digits.l0 k1 l0 y129 lx (lx.length:Int) (wrap64 (x15_1+1)))=some r:=zh hy129 H;have Ny129:=ak hy129;clear hy129;have H':=ak H;clear H;have p125:0≤(x15_1:Int):=of_decide_eq_true za;have q125:x15_1<(lx.length:Int):=of_decide_eq_true za;obtain⟨ad125,e125,hx125_0⟩:=Kd.at_int HR124.out x15_1 p125 q125;cases e125;replace hx125_0:=(HB.out.cell (World.block_lt_of_cell? w _ hx125_0)).trans hx125_0;replace p125:=eq_true p125;replace q125:=eq_true q125
     go_wp2_with (first|((with_reducible refine gate_dst (N:=24) rfl ?_);(try(refine gate_guard (by rfl) ?_;dsimp only));refine Kd.R_lit (Kd.int .u64) _ 73 ?hg (N:=24) ?hd (xs:=([Go.bits .and .u64 (rd lx x15_1) 4294967295,(rd lx x15_1)/4294967296]:List Int)) (inner:= [.int .u64 (Go.bits .and .u64 (rd lx x15_1) 4294967295),.int .u64 ((rd lx x15_1)/4294967296)]) (ok:=fun _=>True) (okp:=fun _=>True) ?hr ?hp (fun _ hk=>hk) trivial (Below.refl _ _) (Nat.le_refl _) (by simp) ?_;(case hd=>rfl);(case hg=>rfl);(case hr=>first|(go_simp;done)|(go_simp;rfl));(case hp=>exact(Reps.one (show Kd.M (Kd.int .u64) _ _ _ (Go.bits .and .u64 (rd lx x15_1) 4294967295) [.int .u64 (Go.bits .and .u64 (rd lx x15_1) 4294967295)]from rfl) (Reps.one (show Kd.M (Kd.int .u64) _ _ _ ((rd lx x15_1)/4294967296) [.int .u64 ((rd lx x15_1)/4294967296)]from rfl) (Reps.none _ _))));intro v127 w8 ho9 hb hg_ hnew_;clear hg_ hnew_;(first|rw[←Ny126.out]at ho9|(simp only[Int.reduceToNat]at ho9;rw[←Ny126.out]at ho9));have HO128:=ak (Kd.R_lower (Kd.R_new' ho9 (Kd.R_lt (kr HO_3.out))) (below_size (bw HB.out)));replace HO_3:=ak (Kd.R_elder' (kr HO_3.out) (Kd.R_base ho9) hb);replace HB:=ak (below_step (bw HB.out) hb);clear hb ho9;obtain⟨Ao11,co11,eo11⟩:=Kd.R_slice HO128.out;subst eo11)|((with_reducible refine gate_builtin (b:=.append) (xs:=#[.tmp 19,.tmp 24]) rfl ?_);(try(refine gate_guard (by rfl) ?_;dsimp only));at_builtin;refine Kd.R_append_rows (Kd.int .u64) (w0:=w) w.heap.size rfl (.tmp 19) (.tmp 24) 80 73 (.int .u64 0) 8 rfl Tryz.underlying80 tinfo_u64 rfl (by decide) (by omega) u3 x3_1 y126 _ _ _ (fun k_=>some k_≠(.slice Ao11 y126.length co11:Value).ownBlock) (fun _=>False) rfl rfl ?aO ?aR (fun _ _ h=>h) (fun _ h=>h.elim) ?aF ?aB ?aS ?aL ?_;(case aR=>repeat(first|exact(Kd.R_reads' HO128.out).2.2|(with_reducible refine Kd.C_alloc ?_ _)|(with_reducible refine Kd.C_drewN ?_ _)|(with_reducible refine Kd.C_drew ?_)));(case aB=>exact(bw HB.out));(case aF=>exact(fun k_ hk=>Kd.fresh' (Kd.R_lt (kr HO128.out)) k_ hk));(case aO=>exact(by(with_reducible repeat(first|apply Kd.R_alloc|apply Kd.R_drewN|apply Kd.R_drew));exact Kd.R_mono HO_3.out (fun _ hk=>hk.2)));(case aS=>exact(below_size (bw HB.out)));(case aL=>have:=LMc7.out;omega);intro v130 w10 ho hb hg hat;rw[←Ny129.out]at ho;replace HO128:=ak (Kd.R_after (ok:=(fun _=>True)) (kr HO128.out) hg hat);replace HB:=ak (hb);have HO131:=ak (ho);clear HO_3;clear ho hb hg hat))
     go_roundg k1
     case measure=>have:=HK1.out;omega
     case rel=>exact⟨(y129),(wrap64 (x15_1+1)),zr,H',⟨by have:=HK1.out;omega⟩,⟨by(with_reducible repeat(first|apply Kd.R_alloc|apply Kd.R_drewN|apply Kd.R_drew));exact Kd.R_mono HO131.out (fun _ hk=>trivial)⟩,⟨bw HB.out⟩⟩
    ·rw[if_neg c4]at H;have c4b0:decide (x15_1<(lx.length:Int))=false:=decide_eq_false c4;clear c4;have H':=ak H;clear H
     go_wp2
     go_loopg [3,6] k1 (fun kq v3 v6 w'=>∃(x3_2:List Int) (x6_2:List Int),Aside0 (impl_digits.l1 kq l0 x3_2 x6_2=some r)∧Aside0 (kq≤k1)∧Aside0 (Kd.R (Kd.int .u64) 73 w' w.heap.size (fun _=>True) v3 x3_2)∧Aside0 (Kd.R (Kd.int .u8) 5 w' w.heap.size (fun _=>True) v6 x6_2)∧Aside0 (Below w.heap.size w w'))
     case atStart=>exact⟨(x3_1),(([]:List Int)),H',⟨Nat.le_refl _⟩,⟨kr HO_3.out⟩,⟨zn⟩,⟨bw HB.out⟩⟩
     case round=>
      clear H';try clear c4b0
      obtain⟨x3_2,x6_2,HA,HK2,HO_3,HO_6,HB⟩:=hrel;cases gk with
      |zero=>exact absurd HA.out (by simp[impl_digits.l1])
      |succ k2=>
       have H:=HA.out;clear HA;simp only[impl_digits.l1]at H;by_cases c12:(x3_2.length:Int)>0
       ·rw[if_pos c12]at H;have c12b0:decide (0<(x3_2.length:Int))=true:=decide_eq_true c12;have c12b1:decide (0<x3_2.length)=true:=decide_eq_true (by omega);clear c12;have H':=ak H;clear H;obtain⟨Ao13,co13,eo13⟩:=Kd.R_slice HO_3.out;subst eo13
        go_wp2
        go_loopg [7,8] k2 (fun kq v7 v8 w'=>∃(x3_3:List Int) (x7_3:Int) (x8_3:Int),v7= .int .u64 x7_3∧v8= .int .i64 x8_3∧Aside0 (impl_digits.l2 kq l0 x3_3 x6_2 x7_3 x8_3=some r)∧Aside0 (kq≤k2)∧Aside0 (Kd.R (Kd.int .u64) 73 w' w.heap.size (fun _=>True) (.slice Ao13 x3_2.length co13) x3_3)∧Aside0 (Kd.R (Kd.int .u8) 5 w' w.heap.size (fun _=>True) u6 x6_2)∧Aside0 (Below w.heap.size w w'))
        case atStart=>exact⟨(x3_2),(0),(wrap64 ((x3_2.length:Int)-1)),zr,zr,H',⟨Nat.le_refl _⟩,⟨kr HO_3.out⟩,⟨kr HO_6.out⟩,⟨bw HB.out⟩⟩
        case round=>
         clear H';try clear c4b0
         try clear c12b0
         try clear c12b1
         obtain⟨x3_3,x7_3,x8_3,rfl,rfl,HA,HK3,HO_3,HO_6,HB⟩:=hrel;have hl3_3:=(Kd.R_reads' HO_3.out).1;rw[hl3_3]at HO_3
         (try simp only[hl3_3])
         (try simp only[hl3_3]at HO_6)
         cases gk with
         |zero=>exact absurd HA.out (by simp[impl_digits.l2])
         |succ k3=>
          have H:=HA.out;clear HA;simp only[impl_digits.l2]at H;by_cases c14:x8_3≥0
          ·rw[if_pos c14]at H;have c14b0:decide (0≤x8_3)=true:=decide_eq_true c14;clear c14;replace H:=gdt H;obtain⟨c15b0,H⟩:=H;replace H:=gdt H;obtain⟨c16b0,H⟩:=H;obtain⟨y133,hy133⟩: ∃y_:List Int,y_=(x3_3.set (x8_3:Int).toNat (IntKind.u64.wrap (Int.tdiv (Go.bits .or .u64 (IntKind.u64.wrap (x7_3*4294967296)) (rd x3_3 x8_3)) 1000000000))):=⟨_,rfl⟩
           replace H:(impl_digits.l2 k3 l0 y133 x6_2 (Int.tmod (Go.bits .or .u64 (IntKind.u64.wrap (x7_3*4294967296)) (rd x3_3 x8_3)) 1000000000) (wrap64 (x8_3-1)))=some r:=zh hy133 H;have Ny133:=ak hy133;clear hy133;have H':=ak H;clear H;have p132:0≤(x8_3:Int):=of_decide_eq_true za;have q132:x8_3<(x3_3.length:Int):=of_decide_eq_true za;obtain⟨ad132,e132,hx132_0⟩:=Kd.at_int (Kd.R_reads' HO_3.out).2.2 x8_3 p132 q132;cases e132;replace p132:=eq_true p132;replace q132:=eq_true q132;have p17:0≤(x8_3:Int):=of_decide_eq_true za;have q17:(x8_3:Int)<((x3_3.length:Int):Int):=of_decide_eq_true za;obtain⟨go17,co17,eo17,gb17,gl17,cl17,HG17⟩:=Kd.R_form HO_3.out (by omega)
           (first|cases eo17|(injection eo17 with ea_ en_ ec_;(first|subst ea_|(injection ea_ with ea_;subst ea_));subst ec_;clear en_))
           have GB17:=ak gb17;have GG17:=ak HG17;clear gb17 gl17 HG17
           (first|simp only[add_plain]at hx132_0|skip)
           obtain⟨hx17_0,hf17_0⟩:=Kd.R_celln 0 HO_3.out (x8_3:Int) p17 q17;replace p17:=eq_true p17;replace q17:=eq_true q17;have HP18:=Kd.R_putg HO_3.out (x8_3:Int) (IntKind.u64.wrap (Int.tdiv (Go.bits .or .u64 (IntKind.u64.wrap (x7_3*4294967296)) (rd x3_3 x8_3)) 1000000000))
           go_wp2_with (first|((with_reducible refine gate_store (t:=73) (p:=48) rfl ?_);refine store_event (t:=73) (p:=48) (v:=?vo_w19) (w1:=(wr.setCell ⟨go17,(x8_3:Int).toNat,none⟩ (.int .u64 (IntKind.u64.wrap (Int.tdiv (Go.bits .or .u64 (IntKind.u64.wrap (x7_3*4294967296)) (rd x3_3 x8_3)) 1000000000))))) ?hg ?ho ?hn ?hr ?_;(case ho=>rfl);(case hg=>rfl);(case hn=>rfl);(case hr=>first|(go_simp;done)|(go_simp;rfl));intro w19 hw;have hg:wr.grownBy w19 (some go17):=(by rw[hw];exact HP18.2);have hp_:Kd.R (Kd.int .u64) 73 w19 w.heap.size (fun _=>True) (.slice (some ⟨go17,0,none⟩) x3_3.length co13) y133:=(by rw[hw,Ny133.out];exact HP18.1);clear HP18;replace HO_6:=ak (Kd.R_over' (v:=(.slice (some ⟨go17,0,none⟩) x3_3.length co13)) (kr HO_6.out) (Kd.R_typed HO_3.out) (by decide) hg);replace HO_3:=ak (hp_);replace HB:=ak ((by rw[hw];exact below_set (HB.out) GB17.out:Below w.heap.size w w19));clear hg hw hp_))
           (try simp only[←hl3_3])
           go_roundg k3
           case measure=>have:=HK1.out;have:=HK2.out;have:=HK3.out;omega
           case rel=>exact⟨(y133),(Int.tmod (Go.bits .or .u64 (IntKind.u64.wrap (x7_3*4294967296)) (rd x3_3 x8_3)) 1000000000),(wrap64 (x8_3-1)),zr,zr,H',⟨by have:=HK1.out;have:=HK2.out;have:=HK3.out;omega⟩,⟨by(try simp only[hl3_3]);(with_reducible repeat(first|apply Kd.R_alloc|apply Kd.R_drewN|apply Kd.R_drew));exact HO_3.out⟩,⟨by(try simp only[hl3_3]);(with_reducible repeat(first|apply Kd.R_alloc|apply Kd.R_drewN|apply Kd.R_drew));exact HO_6.out⟩,⟨bw HB.out⟩⟩
          ·rw[if_neg c14]at H;have c14b0:decide (0≤x8_3)=false:=decide_eq_false c14;clear c14;have HC20:=ak H;clear H
           go_upto_block 6 with(fail)
           go_cut [3] (fun v3 wc=>∃(kq:Nat) (x3_19:List Int),Aside0 (impl_digits.j4 kq l0 x3_19 x6_2 x7_3=some r)∧Aside0 (kq≤k3)∧Aside0 (Kd.R (Kd.int .u64) 73 wc w.heap.size (fun _=>True) v3 x3_19)∧Aside0 (Kd.R (Kd.int .u8) 5 wc w.heap.size (fun _=>True) u6 x6_2)∧Aside0 (Below w.heap.size w wc))
           case first=>
            have H:=HC20.out;clear HC20;have H':=ak H;clear H
            go_wp2
            go_loopg [3] k3 (fun kq v3 w'=>∃(x3_4:List Int),Aside0 (impl_digits.l3 kq l0 x3_4 x6_2 x7_3=some r)∧Aside0 (kq≤k3)∧Aside0 (Kd.R (Kd.int .u64) 73 w' w.heap.size (fun _=>True) v3 x3_4)∧Aside0 (Kd.R (Kd.int .u8) 5 w' w.heap.size (fun _=>True) u6 x6_2)∧Aside0 (Below w.heap.size w w'))
            case atStart=>exact⟨(x3_3),H',⟨Nat.le_refl _⟩,⟨by(try simp only[hl3_3]);(with_reducible repeat(first|apply Kd.R_alloc|apply Kd.R_drewN|apply Kd.R_drew));exact HO_3.out⟩,⟨by(try simp only[hl3_3]);(with_reducible repeat(first|apply Kd.R_alloc|apply Kd.R_drewN|apply Kd.R_drew));exact HO_6.out⟩,⟨bw HB.out⟩⟩
            case round=>
             clear H';try clear c4b0
             try clear c12b0
             try clear c12b1
             try clear c14b0
             obtain⟨x3_4,HA,HK4,HO_3,HO_6,HB⟩:=hrel;cases gk with
             |zero=>exact absurd HA.out (by simp[impl_digits.l3])
             |succ k4=>
              have H:=HA.out;clear HA;simp only[impl_digits.l3]at H;by_cases c21:(x3_4.length:Int)>0
              ·rw[if_pos c21]at H;have c21b0:decide (0<(x3_4.length:Int))=true:=decide_eq_true c21;have c21b1:decide (0<x3_4.length)=true:=decide_eq_true (by omega);clear c21
               (first|rw[c21b0]|(simp only[i64_w,i32_w];rw[c21b0])|skip)
               obtain⟨ji22,hji22⟩: ∃j_:Int,(wrap64 ((x3_4.length:Int)-1))=j_:=⟨_,rfl⟩
               replace H:(if 0≤(ji22)then(if(ji22)<(x3_4.length:Int)then(if(rd x3_4 (ji22))=0 then(if(ji22)≤(x3_4.length:Int)then(impl_digits.l3 k4 l0 (x3_4.take ((ji22):Int).toNat) x6_2 x7_3)else(none))else(impl_digits.j4 k4 l0 x3_4 x6_2 x7_3))else(none))else(none))=some r:=by first|(rw[hji22]at H;exact H)|(simp only[hji22]at H⊢;exact H)
               have hji22w:(IntKind.i64.wrap ((x3_4.length:Int)-1))=ji22:=(i64_w _).trans hji22;replace H:=gdt H;obtain⟨c23b0,H⟩:=H;replace H:=gdt H;obtain⟨c24b0,H⟩:=H;by_cases c25:(rd x3_4 (ji22))=0
               ·rw[if_pos c25]at H;have c25b0:((rd x3_4 (ji22))==0)=true:=beq_iff_eq.mpr c25;have c25b1:((rd x3_4 (ji22)) != 0)=false:=bne_eq_false_iff_eq.mpr c25;clear c25;replace H:=gd H;obtain⟨c26,H⟩:=H;have c26b0:=eq_true c26;have c26b1:decide ((ji22)≤(x3_4.length:Int))=true:=decide_eq_true c26;clear c26;obtain⟨y135,hy135⟩: ∃y_:List Int,y_=(x3_4.take ((ji22):Int).toNat):=⟨_,rfl⟩
                replace H:(impl_digits.l3 k4 l0 y135 x6_2 x7_3)=some r:=zh hy135 H;have Ny135:=ak hy135;clear hy135;have H':=ak H;clear H;obtain⟨Ao27,co27,eo27⟩:=Kd.R_slice HO_3.out;subst eo27;have p134:0≤((ji22):Int):=of_decide_eq_true za;have q134:(ji22)<(x3_4.length:Int):=of_decide_eq_true za;obtain⟨ad134,e134,hx134_0⟩:=Kd.at_int (Kd.R_reads' HO_3.out).2.2 (ji22) p134 q134;cases e134;replace p134:=eq_true p134;replace q134:=eq_true q134;have q28:((ji22):Int)≤((x3_4.length:Int):Int):=of_decide_eq_true za;obtain⟨i028,hi028,_,hsz28,_⟩:=info_parts tinfo_u64;have hcut28:=cut_to (P:=Tryz.prog) 80 73 .i64 Tryz.underlying80 hi028 (some ad134) x3_4.length co27 (ji22) (of_decide_eq_true za) q28 (Kd.R_reads' HO_3.out).2.1;have hr28:=Kd.R_take (m:=((ji22):Int).toNat) HO_3.out (by omega);have hy28:y135.length=((ji22):Int).toNat:=(by rw[Ny135.out,List.length_take];omega);rw[←Ny135.out]at hr28;rw[←hy28]at hr28 hcut28;clear hy28 hi028 hsz28 HO_3;have HO137:=ak hr28;clear hr28;replace q28:=eq_true q28
                go_wp2
                go_roundg k4
                case measure=>have:=HK1.out;have:=HK2.out;have:=HK3.out;have:=HK4.out;omega
                case rel=>exact⟨(y135),H',⟨by have:=HK1.out;have:=HK2.out;have:=HK3.out;have:=HK4.out;omega⟩,⟨by(try simp only[hl3_3]);(with_reducible repeat(first|apply Kd.R_alloc|apply Kd.R_drewN|apply Kd.R_drew));exact HO137.out⟩,⟨by(try simp only[hl3_3]);(with_reducible repeat(first|apply Kd.R_alloc|apply Kd.R_drewN|apply Kd.R_drew));exact HO_6.out⟩,⟨bw HB.out⟩⟩
               ·rw[if_neg c25]at H;have c25b0:((rd x3_4 (ji22))==0)=false:=beq_eq_false_iff_ne.mpr c25;have c25b1:((rd x3_4 (ji22)) != 0)=true:=bne_iff_ne.mpr c25;have H':=ak H;clear H;obtain⟨Ao29,co29,eo29⟩:=Kd.R_slice HO_3.out;subst eo29;have p134:0≤((ji22):Int):=of_decide_eq_true za;have q134:(ji22)<(x3_4.length:Int):=of_decide_eq_true za;obtain⟨ad134,e134,hx134_0⟩:=Kd.at_int (Kd.R_reads' HO_3.out).2.2 (ji22) p134 q134;cases e134;replace p134:=eq_true p134;replace q134:=eq_true q134
                go_wp2
                go_meet
                case rel=>exact⟨_,(x3_4),H',⟨by have:=HK1.out;have:=HK2.out;have:=HK3.out;have:=HK4.out;first|omega|exact Nat.le_refl _⟩,⟨by(try simp only[hl3_3]);(with_reducible repeat(first|apply Kd.R_alloc|apply Kd.R_drewN|apply Kd.R_drew));exact HO_3.out⟩,⟨by(try simp only[hl3_3]);(with_reducible repeat(first|apply Kd.R_alloc|apply Kd.R_drewN|apply Kd.R_drew));exact HO_6.out⟩,⟨bw HB.out⟩⟩
              ·rw[if_neg c21]at H;have c21b0:decide (0<(x3_4.length:Int))=false:=decide_eq_false c21;have c21b1:decide (0<x3_4.length)=false:=decide_eq_false (by omega);clear c21
               (first|rw[c21b0]|(simp only[i64_w,i32_w];rw[c21b0])|skip)
               have H':=ak H;clear H;obtain⟨Ao30,co30,eo30⟩:=Kd.R_slice HO_3.out;subst eo30
               go_wp2
               go_meet
               case rel=>exact⟨_,(x3_4),H',⟨by have:=HK1.out;have:=HK2.out;have:=HK3.out;have:=HK4.out;first|omega|exact Nat.le_refl _⟩,⟨by(try simp only[hl3_3]);(with_reducible repeat(first|apply Kd.R_alloc|apply Kd.R_drewN|apply Kd.R_drew));exact HO_3.out⟩,⟨by(try simp only[hl3_3]);(with_reducible repeat(first|apply Kd.R_alloc|apply Kd.R_drewN|apply Kd.R_drew));exact HO_6.out⟩,⟨bw HB.out⟩⟩
           case rest=>
            clear HC20;try clear c4b0
            try clear c12b0
            try clear c12b1
            try clear c14b0
            obtain⟨kq,x3_19,HA,HJ19,HO_3,HO_6,HB⟩:=hcut;cases kq with
            |zero=>exact absurd HA.out (by simp[impl_digits.j4])
            |succ kj19=>
             have H:=HA.out;clear HA;simp only[impl_digits.j4]at H;have H':=ak H;clear H
             go_wp2
             go_loopg [6,7,9] kj19 (fun kq v6 v7 v9 w'=>∃(x6_5:List Int) (x7_5:Int) (x9_5:Int),v7= .int .u64 x7_5∧v9= .int .i64 x9_5∧Aside0 (impl_digits.l4 kq l0 x3_19 x6_5 x7_5 x9_5=some r)∧Aside0 (kq≤kj19)∧Aside0 (Kd.R (Kd.int .u64) 73 w' w.heap.size (fun _=>True) u3 x3_19)∧Aside0 (Kd.R (Kd.int .u8) 5 w' w.heap.size (fun _=>True) v6 x6_5)∧Aside0 (Below w.heap.size w w'))
             case atStart=>exact⟨(x6_2),(x7_3),(0),zr,zr,H',⟨Nat.le_refl _⟩,⟨by(try simp only[hl3_3]);(with_reducible repeat(first|apply Kd.R_alloc|apply Kd.R_drewN|apply Kd.R_drew));exact HO_3.out⟩,⟨by(try simp only[hl3_3]);(with_reducible repeat(first|apply Kd.R_alloc|apply Kd.R_drewN|apply Kd.R_drew));exact HO_6.out⟩,⟨bw HB.out⟩⟩
             case round=>
              clear H';try clear c4b0
              try clear c12b0
              try clear c12b1
              try clear c14b0
              obtain⟨x6_5,x7_5,x9_5,rfl,rfl,HA,HK5,HO_3,HO_6,HB⟩:=hrel;cases gk with
              |zero=>exact absurd HA.out (by simp[impl_digits.l4])
              |succ k5=>
               have H:=HA.out;clear HA;simp only[impl_digits.l4]at H;by_cases c31:x9_5<9
               ·rw[if_pos c31]at H;have c31b0:decide (x9_5<9)=true:=decide_eq_true c31;clear c31;by_cases c32:x7_5=0
                ·rw[if_pos c32]at H;have c32b0:(x7_5==0)=true:=beq_iff_eq.mpr c32;have c32b1:(x7_5 != 0)=false:=bne_eq_false_iff_eq.mpr c32;clear c32;by_cases c33:(x3_19.length:Int)>0
                 ·rw[if_pos c33]at H;have c33b0:decide (0<(x3_19.length:Int))=true:=decide_eq_true c33;have c33b1:decide (0<x3_19.length)=true:=decide_eq_true (by omega);clear c33;replace H:=gd H;obtain⟨c34,H⟩:=H;have LMc34:=ak c34;clear c34;obtain⟨y138,hy138⟩: ∃y_:List Int,y_=(x6_5++ [(IntKind.u64.wrap (48+(Int.tmod x7_5 10)))%256]):=⟨_,rfl⟩
                  replace H:(impl_digits.l4 k5 l0 x3_19 y138 (IntKind.u64.wrap (Int.tdiv x7_5 10)) (wrap64 (x9_5+1)))=some r:=zh hy138 H;have Ny138:=ak hy138;clear hy138;have H':=ak H;clear H;obtain⟨Ao35,co35,eo35⟩:=Kd.R_slice HO_3.out;subst eo35
                  go_wp2_with (first|((with_reducible refine gate_builtin (b:=.append) (xs:=#[.tmp 81,.tmp 86]) rfl ?_);(try(refine gate_guard (by rfl) ?_;dsimp only));at_builtin;refine Kd.R_append (Kd.int .u8) (w0:=w) w.heap.size rfl (.tmp 81) (.tmp 86) 61 5 (.int .u8 0) 1 rfl Tryz.underlying61 tinfo_u8 rfl (by decide) (by omega) u6 x6_5 ((IntKind.u64.wrap (48+(Int.tmod x7_5 10)))%256) [.int .u8 ((IntKind.u64.wrap (48+(Int.tmod x7_5 10)))%256)] (fun _=>True) (fun _=>False) rfl rfl ?aP (fun _ hk=>hk.elim) ?aF ?aO ?aB ?aS ?aL ?_;(case aP=>exact rfl);(case aB=>exact(bw HB.out));(case aF=>exact(fun _ _=>trivial));(case aO=>exact(kr HO_6.out));(case aS=>exact(below_size (bw HB.out)));(case aL=>have:=LMc34.out;omega);intro v139 w36 ho hb hg hat;rw[←Ny138.out]at ho;replace HO_3:=ak (Kd.R_over' (kr HO_3.out) (Kd.R_typed (kr HO_6.out)) (by decide) hg);replace HB:=ak (hb);have HO140:=ak (ho);clear HO_6;clear ho hb hg hat))
                  go_roundg k5
                  case measure=>have:=HK1.out;have:=HK2.out;have:=HK3.out;have:=HJ19.out;have:=HK5.out;omega
                  case rel=>exact⟨(y138),(IntKind.u64.wrap (Int.tdiv x7_5 10)),(wrap64 (x9_5+1)),zr,zr,H',⟨by have:=HK1.out;have:=HK2.out;have:=HK3.out;have:=HJ19.out;have:=HK5.out;omega⟩,⟨by(try simp only[hl3_3]);(with_reducible repeat(first|apply Kd.R_alloc|apply Kd.R_drewN|apply Kd.R_drew));exact HO_3.out⟩,⟨by(try simp only[hl3_3]);(with_reducible repeat(first|apply Kd.R_alloc|apply Kd.R_drewN|apply Kd.R_drew));exact HO140.out⟩,⟨bw HB.out⟩⟩
                 ·rw[if_neg c33]at H;have c33b0:decide (0<(x3_19.length:Int))=false:=decide_eq_false c33;have c33b1:decide (0<x3_19.length)=false:=decide_eq_false (by omega);clear c33;have H':=ak H;clear H;obtain⟨Ao37,co37,eo37⟩:=Kd.R_slice HO_3.out;subst eo37
                  go_wp2
                  (try simp only[←hl3_3])
                  go_roundg k5
                  case measure=>have:=HK1.out;have:=HK2.out;have:=HK3.out;have:=HJ19.out;have:=HK5.out;omega
                  case rel=>exact⟨(x3_19),(x6_5),H',⟨by have:=HK1.out;have:=HK2.out;have:=HK3.out;have:=HJ19.out;have:=HK5.out;omega⟩,⟨by(try simp only[hl3_3]);(with_reducible repeat(first|apply Kd.R_alloc|apply Kd.R_drewN|apply Kd.R_drew));exact HO_3.out⟩,⟨by(try simp only[hl3_3]);(with_reducible repeat(first|apply Kd.R_alloc|apply Kd.R_drewN|apply Kd.R_drew));exact HO_6.out⟩,⟨bw HB.out⟩⟩
                ·rw[if_neg c32]at H;have c32b0:(x7_5==0)=false:=beq_eq_false_iff_ne.mpr c32;have c32b1:(x7_5 != 0)=true:=bne_iff_ne.mpr c32;replace H:=gd H;obtain⟨c38,H⟩:=H;have LMc38:=ak c38;clear c38;obtain⟨y141,hy141⟩: ∃y_:List Int,y_=(x6_5++ [(IntKind.u64.wrap (48+(Int.tmod x7_5 10)))%256]):=⟨_,rfl⟩
                 replace H:(impl_digits.l4 k5 l0 x3_19 y141 (IntKind.u64.wrap (Int.tdiv x7_5 10)) (wrap64 (x9_5+1)))=some r:=zh hy141 H;have Ny141:=ak hy141;clear hy141;have H':=ak H;clear H
                 go_wp2_with (first|((with_reducible refine gate_builtin (b:=.append) (xs:=#[.tmp 81,.tmp 86]) rfl ?_);(try(refine gate_guard (by rfl) ?_;dsimp only));at_builtin;refine Kd.R_append (Kd.int .u8) (w0:=w) w.heap.size rfl (.tmp 81) (.tmp 86) 61 5 (.int .u8 0) 1 rfl Tryz.underlying61 tinfo_u8 rfl (by decide) (by omega) u6 x6_5 ((IntKind.u64.wrap (48+(Int.tmod x7_5 10)))%256) [.int .u8 ((IntKind.u64.wrap (48+(Int.tmod x7_5 10)))%256)] (fun _=>True) (fun _=>False) rfl rfl ?aP (fun _ hk=>hk.elim) ?aF ?aO ?aB ?aS ?aL ?_;(case aP=>exact rfl);(case aB=>exact(bw HB.out));(case aF=>exact(fun _ _=>trivial));(case aO=>exact(kr HO_6.out));(case aS=>exact(below_size (bw HB.out)));(case aL=>have:=LMc38.out;omega);intro v142 w39 ho hb hg hat;rw[←Ny141.out]at ho;replace HO_3:=ak (Kd.R_over' (kr HO_3.out) (Kd.R_typed (kr HO_6.out)) (by decide) hg);replace HB:=ak (hb);have HO143:=ak (ho);clear HO_6;clear ho hb hg hat))
                 go_roundg k5
                 case measure=>have:=HK1.out;have:=HK2.out;have:=HK3.out;have:=HJ19.out;have:=HK5.out;omega
                 case rel=>exact⟨(y141),(IntKind.u64.wrap (Int.tdiv x7_5 10)),(wrap64 (x9_5+1)),zr,zr,H',⟨by have:=HK1.out;have:=HK2.out;have:=HK3.out;have:=HJ19.out;have:=HK5.out;omega⟩,⟨by(try simp only[hl3_3]);(with_reducible repeat(first|apply Kd.R_alloc|apply Kd.R_drewN|apply Kd.R_drew));exact HO_3.out⟩,⟨by(try simp only[hl3_3]);(with_reducible repeat(first|apply Kd.R_alloc|apply Kd.R_drewN|apply Kd.R_drew));exact HO143.out⟩,⟨bw HB.out⟩⟩
               ·rw[if_neg c31]at H;have c31b0:decide (x9_5<9)=false:=decide_eq_false c31;clear c31;have H':=ak H;clear H
                go_wp2
                (try simp only[←hl3_3])
                go_roundg k5
                case measure=>have:=HK1.out;have:=HK2.out;have:=HK3.out;have:=HJ19.out;have:=HK5.out;omega
                case rel=>exact⟨(x3_19),(x6_5),H',⟨by have:=HK1.out;have:=HK2.out;have:=HK3.out;have:=HJ19.out;have:=HK5.out;omega⟩,⟨by(try simp only[hl3_3]);(with_reducible repeat(first|apply Kd.R_alloc|apply Kd.R_drewN|apply Kd.R_drew));exact HO_3.out⟩,⟨by(try simp only[hl3_3]);(with_reducible repeat(first|apply Kd.R_alloc|apply Kd.R_drewN|apply Kd.R_drew));exact HO_6.out⟩,⟨bw HB.out⟩⟩
       ·rw[if_neg c12]at H;have c12b0:decide (0<(x3_2.length:Int))=false:=decide_eq_false c12;have c12b1:decide (0<x3_2.length)=false:=decide_eq_false (by omega);clear c12;by_cases c40:(x6_2.length:Int)=0
        ·rw[if_pos c40]at H;have c40b0:((x6_2.length:Int)==0)=true:=beq_iff_eq.mpr c40;have c40b1:((x6_2.length:Int) != 0)=false:=bne_eq_false_iff_eq.mpr c40;clear c40;obtain rfl:=Option.some.inj H;obtain⟨Ao41,co41,eo41⟩:=Kd.R_slice HO_3.out;subst eo41;obtain⟨Ao42,co42,eo42⟩:=Kd.R_slice HO_6.out;subst eo42
         go_wp2
         go_ret
         exact⟨by first|rfl|(simp[errW_none,errW_some]<;>rfl)|(simp[*,errW_none,errW_some]<;>rfl),bw HB.out⟩
        ·rw[if_neg c40]at H;have c40b0:((x6_2.length:Int)==0)=false:=beq_eq_false_iff_ne.mpr c40;have c40b1:((x6_2.length:Int) != 0)=true:=bne_iff_ne.mpr c40;have c40b2: ¬(x6_2= []):=fun h_=>c40 (by rw[h_];rfl)
         have HC43:=ak H;clear H;obtain⟨Ao44,co44,eo44⟩:=Kd.R_slice HO_3.out;subst eo44;obtain⟨Ao45,co45,eo45⟩:=Kd.R_slice HO_6.out;subst eo45
         go_upto_if 95 with(go_at_call 42;refine(sign_is bs g b lx _ (HI.out.below HB.out)).mono ?_;rintro e w' ⟨rfl,rfl⟩)
         go_cut [6] (fun v6 wc=>∃(kq:Nat) (x6_42:List Int),Aside0 (impl_digits.j6 kq x6_42=some r)∧Aside0 (kq≤k2)∧Aside0 (Kd.R (Kd.int .u8) 5 wc w.heap.size (fun _=>True) v6 x6_42)∧Aside0 (Below w.heap.size w wc))
         case first=>
          have H:=HC43.out;clear HC43;by_cases c46:0<l0.length
          ·rw[if_pos c46]at H;have c46b0:decide (sgnI b lx<0)=true:=HSG.out.trans (decide_eq_true c46);clear c46
           (first|rw[c46b0]|(simp only[i64_w,i32_w];rw[c46b0])|skip)
           replace H:=gd H;obtain⟨c47,H⟩:=H;have LMc47:=ak c47;clear c47;obtain⟨y144,hy144⟩: ∃y_:List Int,y_=(x6_2++ [45]):=⟨_,rfl⟩
           replace H:(impl_digits.j6 k2 y144)=some r:=zh hy144 H;have Ny144:=ak hy144;clear hy144;have H':=ak H;clear H
           go_wp2_with (first|((with_reducible refine gate_builtin (b:=.append) (xs:=#[.tmp 96,.tmp 97]) rfl ?_);(try(refine gate_guard (by rfl) ?_;dsimp only));at_builtin;refine Kd.R_append (Kd.int .u8) (w0:=w) w.heap.size rfl (.tmp 96) (.tmp 97) 61 5 (.int .u8 0) 1 rfl Tryz.underlying61 tinfo_u8 rfl (by decide) (by omega) (.slice Ao45 x6_2.length co45) x6_2 45 [.int .u8 45] (fun _=>True) (fun _=>False) rfl rfl ?aP (fun _ hk=>hk.elim) ?aF ?aO ?aB ?aS ?aL ?_;(case aP=>exact rfl);(case aB=>exact(bw HB.out));(case aF=>exact(fun _ _=>trivial));(case aO=>exact(kr HO_6.out));(case aS=>exact(below_size (bw HB.out)));(case aL=>have:=LMc47.out;omega);intro v145 w48 ho hb hg hat;rw[←Ny144.out]at ho;replace HO_3:=ak (Kd.R_over' (kr HO_3.out) (Kd.R_typed (kr HO_6.out)) (by decide) hg);replace HB:=ak (hb);have HO146:=ak (ho);clear HO_6;clear ho hb hg hat))
           go_meet
           case rel=>exact⟨_,(y144),H',⟨by have:=HK1.out;have:=HK2.out;first|omega|exact Nat.le_refl _⟩,⟨kr HO146.out⟩,⟨bw HB.out⟩⟩
          ·rw[if_neg c46]at H;have c46b0:decide (sgnI b lx<0)=false:=HSG.out.trans (decide_eq_false c46);clear c46
           (first|rw[c46b0]|(simp only[i64_w,i32_w];rw[c46b0])|skip)
           have H':=ak H;clear H
           go_wp2
           go_meet
           case rel=>exact⟨_,(x6_2),H',⟨by have:=HK1.out;have:=HK2.out;first|omega|exact Nat.le_refl _⟩,⟨kr HO_6.out⟩,⟨bw HB.out⟩⟩
         case rest=>
          clear HC43;try clear c4b0
          try clear c12b0
          try clear c12b1
          try clear c40
          try clear c40b0
          try clear c40b1
          try clear c40b2
          obtain⟨kq,x6_42,HA,HJ42,HO_6,HB⟩:=hcut;cases kq with
          |zero=>exact absurd HA.out (by simp[impl_digits.j6])
          |succ kj42=>
           have H:=HA.out;clear HA;simp only[impl_digits.j6]at H;have H':=ak H;clear H;obtain⟨Ao49,co49,eo49⟩:=Kd.R_slice HO_6.out;subst eo49
           go_wp2
           go_loopg [10,11] kj42 (fun kq v10 v11 w'=>∃(x6_4:List Int) (x10_4:Int) (x11_4:Int),v10= .int .i64 x10_4∧v11= .int .i64 x11_4∧Aside0 (impl_digits.l5 kq x6_4 x10_4 x11_4=some r)∧Aside0 (kq≤kj42)∧Aside0 (Kd.R (Kd.int .u8) 5 w' w.heap.size (fun _=>True) (.slice Ao49 x6_42.length co49) x6_4)∧Aside0 (Below w.heap.size w w'))
           case atStart=>exact⟨(x6_42),(0),(wrap64 ((x6_42.length:Int)-1)),zr,zr,H',⟨Nat.le_refl _⟩,⟨kr HO_6.out⟩,⟨bw HB.out⟩⟩
           case round=>
            clear H';try clear c4b0
            try clear c12b0
            try clear c12b1
            try clear c40
            try clear c40b0
            try clear c40b1
            try clear c40b2
            obtain⟨x6_4,x10_4,x11_4,rfl,rfl,HA,HK4,HO_6,HB⟩:=hrel;have hl6_4:=(Kd.R_reads' HO_6.out).1;rw[hl6_4]at HO_6
            (try simp only[hl6_4])
            cases gk with
            |zero=>exact absurd HA.out (by simp[impl_digits.l5])
            |succ k4=>
             have H:=HA.out;clear HA;simp only[impl_digits.l5]at H;by_cases c50:x10_4<x11_4
             ·rw[if_pos c50]at H;have c50b0:decide (x10_4<x11_4)=true:=decide_eq_true c50;clear c50;replace H:=gdt H;obtain⟨c51b0,H⟩:=H;replace H:=gdt H;obtain⟨c52b0,H⟩:=H;replace H:=gdt H;obtain⟨c53b0,H⟩:=H;replace H:=gdt H;obtain⟨c54b0,H⟩:=H;obtain⟨y149,hy149⟩: ∃y_:List Int,y_=(x6_4.set (x10_4:Int).toNat (rd x6_4 x11_4)):=⟨_,rfl⟩
              replace H:(impl_digits.l5 k4 (y149.set (x11_4:Int).toNat (rd x6_4 x10_4)) (wrap64 (x10_4+1)) (wrap64 (x11_4-1)))=some r:=zh hy149 H;have Ny149:=ak hy149;clear hy149;obtain⟨y150,hy150⟩: ∃y_:List Int,y_=(y149.set (x11_4:Int).toNat (rd x6_4 x10_4)):=⟨_,rfl⟩
              replace H:(impl_digits.l5 k4 y150 (wrap64 (x10_4+1)) (wrap64 (x11_4-1)))=some r:=zh hy150 H;have Ny150:=ak hy150;clear hy150;have H':=ak H;clear H;try go_wp2
              replace HO_6:=ak (Kd.R_drew HO_6.out);replace HB:=ak (below_drew1 HB.out);have p147:0≤(x11_4:Int):=of_decide_eq_true za;have q147:x11_4<(x6_4.length:Int):=of_decide_eq_true za;obtain⟨ad147,e147,hx147_0⟩:=Kd.at_int (Kd.R_reads' HO_6.out).2.2 x11_4 p147 q147;cases e147;replace p147:=eq_true p147;replace q147:=eq_true q147;have p148:0≤(x10_4:Int):=of_decide_eq_true za;have q148:x10_4<(x6_4.length:Int):=of_decide_eq_true za;obtain⟨ad148,e148,hx148_0⟩:=Kd.at_int (Kd.R_reads' HO_6.out).2.2 x10_4 p148 q148;obtain rfl:ad147=ad148:=(by injection e148);replace p148:=eq_true p148;replace q148:=eq_true q148;have p55:0≤(x10_4:Int):=of_decide_eq_true za;have q55:(x10_4:Int)<((x6_4.length:Int):Int):=of_decide_eq_true za;obtain⟨go55,co55,eo55,gb55,gl55,cl55,HG55⟩:=Kd.R_form HO_6.out (by omega)
              (first|cases eo55|(injection eo55 with ea_ en_ ec_;(first|subst ea_|(injection ea_ with ea_;subst ea_));subst ec_;clear en_))
              have GB55:=ak gb55;have GG55:=ak HG55;clear gb55 gl55 HG55
              (first|simp only[add_plain]at hx147_0|skip)
              (first|simp only[add_plain]at hx148_0|skip)
              obtain⟨hx55_0,hf55_0⟩:=Kd.R_celln 0 HO_6.out (x10_4:Int) p55 q55;replace p55:=eq_true p55;replace q55:=eq_true q55;have HP58:=Kd.R_putn HO_6.out (x10_4:Int) (rd x6_4 x11_4);rw[←Ny149.out]at HP58;have HQ58:=ak HP58;clear HP58;have p56:0≤(x11_4:Int):=of_decide_eq_true za;have q56:(x11_4:Int)<((x6_4.length:Int):Int):=of_decide_eq_true za;obtain⟨hx56_0,hf56_0⟩:=Kd.R_celln 0 HQ58.out (x11_4:Int) p56 q56;replace p56:=eq_true p56;replace q56:=eq_true q56;have HP59:=Kd.R_putn HQ58.out (x11_4:Int) (rd x6_4 x10_4);rw[←Ny150.out]at HP59;have HQ59:=ak HP59;clear HP59;refine G.sta (fun w'=>w'.cell? ⟨go55,(x11_4).toNat,none⟩=some (.int .u8 (rd x6_4 x11_4))∧w'.cell? ⟨go55,(x10_4).toNat,none⟩=some (.int .u8 (rd x6_4 x10_4))) [13,15] ⟨hx147_0,hx148_0⟩ (fun hHeld=>?_);generalize wr.drew=w57 at HO_6 HB GG55 HQ58 HQ59 hf55_0 hf56_0 hx147_0 hx148_0 hx55_0 hx56_0 hHeld⊢;iterate 7 refine G.pu 0 ?_
              iterate 3 refine G.pu 1 ?_
              iterate 2 refine G.tk 0 hHeld ?_
              refine G.pu 0 ?_;refine last_ (i:=13) (N:=none) #[true,true,true,true,true,true,true,true,true,true,true,true,true,true,false,false] rfl rfl (by decide+kernel) (by decide) (fun K hK=>?_)
              refine skip_ (w1:=?_) (by rfl) rfl ?_ ?_;rotate_left
              ·go_simp;rfl
              refine hK.out _ _ ?_;clear hK K;refine G.pu 0 ?_;refine last_ (i:=15) (N:=none) #[true,true,true,true,true,true,true,true,true,true,true,true,true,true,true,true] rfl rfl (by decide+kernel) (by decide) (fun K hK=>?_)
              refine skip_ (w1:=?_) (by rfl) rfl ?_ ?_;rotate_left
              ·go_simp;rfl
              refine hK.out _ _ ?_;clear hK K;refine done_ (by decide+kernel) ?_;try go_wp2
              (try simp only[←hl6_4])
              go_roundg k4
              case measure=>have:=HK1.out;have:=HK2.out;have:=HJ42.out;have:=HK4.out;omega
              case rel=>exact⟨(y150),(wrap64 (x10_4+1)),(wrap64 (x11_4-1)),zr,zr,H',⟨by have:=HK1.out;have:=HK2.out;have:=HJ42.out;have:=HK4.out;omega⟩,⟨by(try simp only[hl6_4]);(with_reducible repeat(first|apply Kd.R_alloc|apply Kd.R_drewN|apply Kd.R_drew));exact HQ59.out⟩,⟨bw2 HB.out GB55.out GB55.out⟩⟩
             ·rw[if_neg c50]at H;have c50b0:decide (x10_4<x11_4)=false:=decide_eq_false c50;clear c50;obtain rfl:=Option.some.inj H;have hcv60:=own_string (P:=Tryz.prog) Tryz.underlying61 Tryz.underlying5 Tryz.underlying9 (Kd.own_of_R HO_6.out)
              go_wp2
              go_ret
              exact⟨by first|rfl|(simp[errW_none,errW_some]<;>rfl)|(simp[*,errW_none,errW_some]<;>rfl),bw HB.out⟩
end Go.Proofs.YthlakefgobflnaaGreatDoor.S
