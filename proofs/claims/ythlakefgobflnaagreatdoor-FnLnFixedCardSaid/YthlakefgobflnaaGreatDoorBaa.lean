/- PLAIN ARITHMETIC of numbers kept as limbs of nine decimal digits: 'lim n' is the number n so kept; what holds of single limbs, of trimming, of the count of limbs. No program in sight. WORDS OF THE PRINTED FUNCTIONS: what the texts beside this one use. (Began as print.sh's text for this seat.) CONTRACTS of spec_NatCmp: each as the plain function beside it. (Began as print.sh's text for this seat; the turns are those of wip/tools/split.py.) WHAT THE REFERENCE's NUMBERS ANSWER: NatCmp, of numbers kept as limbs ('lim n'). -/
import Derived.Test.YthlakefgobflnaaGreatDoorV
import Derived.Test.YthlakefgobflnaaGreatDoorProg
import Derived.Below
import Derived.Deep.Draws
import Derived.Deep.AppendLies
import Derived.Maps.AppendAt
import Derived.OwnWalk
import Derived.Laws.BytesArg
import Derived.Laws.MakeOwn
import Derived.Laws.OwnMore
import Derived.Deep.OwnRows
import Derived.Tactics
import Derived.Lib.ConvBytes
import Derived.Laws.Slices
import Derived.WalkKit
import Derived.KernelRfl
import Derived.RowKit3
import Derived.Deep.LoopGhost
import Derived.Deep.QuietTactic
import Derived.BigQuiet
import Derived.WideLaws
import Derived.Deep.DeepCutAuto
import Derived.Deep.CutBlock
import Derived.Deep.RegionHeld3
import Derived.Laws.Rows
import Derived.Lib.AppendStr
import Derived.ArgAppend
import Derived.Laws.IdiomCopy
import Derived.OrdersHeld
import Derived.Laws.BitsLemmas
import Derived.RowKit
namespace Go.Proofs.YthlakefgobflnaaGreatDoor.Lm
open Go.RowKit Go.Proofs.YthlakefgobflnaaGreatDoorW.PrintWords
def Ev{α:Type}(g:Nat→Option α)(r:α):Prop:=∃k0,∀k,k0≤k→g k=some r
theorem Ev.pure{α:Type}(r:α):Ev (fun _=>some r) r:=⟨0,fun _ _=>rfl⟩
theorem Ev.of{α:Type}{o:Option α}{r:α}(h:o=some r):Ev (fun _=>o) r:=⟨0,fun _ _=>h⟩
theorem Ev.bind{α β:Type}{g:Nat→Option α}{h:Nat→α→Option β}{a:α}{r:β}(h1:Ev g a)(h2:Ev (fun k=>h k a) r):Ev (fun k=>(g k).bind (h k)) r:=by
 obtain⟨k1,e1⟩:=h1;obtain⟨k2,e2⟩:=h2;refine⟨max k1 k2,fun k hk=>?_⟩;show(g k).bind (h k)=some r;rw[e1 k (by omega),Option.bind_some];exact e2 k (by omega)
theorem Ev.step{α:Type}{g:Nat→Option α}{r:α}(h:Ev (fun k=>g (k+1)) r):Ev g r:=by
 obtain⟨k0,e⟩:=h;refine⟨k0+1,fun k hk=>?_⟩;obtain⟨m,rfl⟩: ∃m,k=m+1:=⟨k-1,by omega⟩
 exact e m (by omega)
theorem Ev.congr{α:Type}{g g':Nat→Option α}{r:α}(h:Ev g r)(e: ∀k,g' k=g k):Ev g' r:=by
 obtain⟨k0,e0⟩:=h;exact⟨k0,fun k hk=>(e k).trans (e0 k hk)⟩
theorem Ev.ex{α:Type}{g:Nat→Option α}{r:α}(h:Ev g r): ∃k,g k=some r:=by
 obtain⟨k0,e⟩:=h;exact⟨k0,e k0 (Nat.le_refl _)⟩
theorem Ev.pos{α:Type}{c:Prop}[Decidable c]{g h:Nat→Option α}{r:α}(hc:c)(e:Ev g r):Ev (fun k=>if c then g k else h k) r:=by
 obtain⟨k0,e⟩:=e;exact⟨k0,fun k hk=>by show(if c then g k else h k)=some r;rw[if_pos hc];exact e k hk⟩
theorem Ev.neg{α:Type}{c:Prop}[Decidable c]{g h:Nat→Option α}{r:α}(hc: ¬c)(e:Ev h r):Ev (fun k=>if c then g k else h k) r:=by
 obtain⟨k0,e⟩:=e;exact⟨k0,fun k hk=>by show(if c then g k else h k)=some r;rw[if_neg hc];exact e k hk⟩
def lim(n:Nat):List Int:=if _h:n=0 then []else((n%1000000000:Nat):Int)::lim (n/1000000000)
termination_by n
decreasing_by omega
def val:List Int→Nat
 | []=>0
 |x::xs=>x.toNat+1000000000*val xs
def Ok(l:List Int):Prop:=∀x,x∈l→0≤x∧x<1000000000
theorem lim_zero:lim 0= []:=by rw[lim];simp
theorem lim_pos{n:Nat}(h:n≠0):lim n=((n%1000000000:Nat):Int)::lim (n/1000000000):=by rw[lim,dif_neg h]
theorem lim_eq_nil{n:Nat}:lim n= []↔n=0:=by
 constructor
 ·intro h;by_cases e:n=0
  ·exact e
  ·rw[lim_pos e]at h;cases h
 ·rintro rfl;exact lim_zero
theorem val_lim(n:Nat):val (lim n)=n:=by
 induction n using Nat.strongRecOn with
 |_ n ih=>
  by_cases h:n=0
  ·subst h;rw[lim_zero];rfl
  ·rw[lim_pos h,val,ih _ (by omega),Int.toNat_natCast];omega
theorem ok_lim(n:Nat):Ok (lim n):=by
 induction n using Nat.strongRecOn with
 |_ n ih=>
  by_cases h:n=0
  ·subst h;rw[lim_zero];intro x hx;cases hx
  ·rw[lim_pos h];intro x hx;rcases List.mem_cons.1 hx with rfl|hx
   ·omega
   ·exact ih _ (by omega) x hx
theorem len_zero{n:Nat}:((lim n).length:Int)=0↔n=0:=by
 rw[←lim_eq_nil,←List.length_eq_zero_iff];omega
theorem lim_get(n i:Nat):(lim n).getD i 0=((n/1000000000^i%1000000000:Nat):Int):=by
 induction i generalizing n with
 |zero=>
  by_cases h:n=0
  ·subst h;simp[lim_zero]
  ·rw[lim_pos h];simp
 |succ i ih=>
  by_cases h:n=0
  ·subst h;simp[lim_zero]
  ·rw[lim_pos h,List.getD_cons_succ,ih,Nat.pow_succ,Nat.mul_comm,←Nat.div_div_eq_div_mul]
theorem len_lim(n i:Nat):i<(lim n).length↔n/1000000000^i≠0:=by
 induction i generalizing n with
 |zero=>
  rw[Nat.pow_zero,Nat.div_one,ne_eq,←lim_eq_nil,←List.length_eq_zero_iff];omega
 |succ i ih=>
  by_cases h:n=0
  ·subst h;simp[lim_zero]
  ·rw[lim_pos h,List.length_cons,Nat.add_lt_add_iff_right,ih,Nat.pow_succ,Nat.mul_comm,←Nat.div_div_eq_div_mul]
theorem len_le{n m:Nat}(h:n<1000000000^m):(lim n).length≤m:=by
 have h1:=len_lim n m;have h2:n/1000000000^m=0:=Nat.div_eq_of_lt h;rcases Nat.lt_or_ge m (lim n).length with h3|h3
 ·exact absurd h2 (h1.1 h3)
 ·exact h3
theorem lt_of_len{n m:Nat}(h:(lim n).length≤m):n<1000000000^m:=by
 have h1:=len_lim n m;rcases Nat.lt_or_ge n (1000000000^m)with h2|h2
 ·exact h2
 ·have:n/1000000000^m≠0:=by
   have:=(Nat.le_div_iff_mul_le (Nat.pow_pos (by omega))).2 (show 1*1000000000^m≤n by omega);omega
  have:=h1.2 this;omega
theorem rd_lim(n:Nat)(i:Nat):rd (lim n) (i:Int)=((n/1000000000^i%1000000000:Nat):Int):=by
 unfold rd;rw[Int.toNat_natCast];exact lim_get n i
theorem len_i(n i:Nat):(i:Int)<((lim n).length:Int)↔n/1000000000^i≠0:=by rw[Int.ofNat_lt];exact len_lim n i
theorem pow_succ_div(n i:Nat):n/1000000000^(i+1)=n/1000000000^i/1000000000:=by rw[Nat.pow_succ,Nat.div_div_eq_div_mul]
theorem w64{i:Int}(h0: -9223372036854775808≤i)(h1:i<9223372036854775808):wrap64 i=i:=by unfold wrap64;omega
theorem wu64{i:Int}(h0:0≤i)(h1:i<18446744073709551616):IntKind.u64.wrap i=i:=by rw[IntKind.wrap_u64];omega
theorem val_append(a b:List Int):val (a++b)=val a+1000000000^a.length*val b:=by
 induction a with
 |nil=>simp[val]
 |cons x xs ih=>
  have e:1000000000^xs.length*1000000000*val b=1000000000*(1000000000^xs.length*val b):=by rw[Nat.mul_comm (1000000000^xs.length),Nat.mul_assoc]
  rw[List.cons_append,val,val,ih,List.length_cons,Nat.pow_succ,e];omega
theorem val_lt{l:List Int}(h:Ok l):val l<1000000000^l.length:=by
 induction l with
 |nil=>simp[val]
 |cons x xs ih=>
  have hx:=h x (by simp);have:=ih (fun y hy=>h y (by simp[hy]));rw[val,List.length_cons,Nat.pow_succ];omega
theorem ok_append{a b:List Int}(h:Ok a)(h':Ok b):Ok (a++b):=fun x hx=>by
 rcases List.mem_append.1 hx with hx|hx
 ·exact h x hx
 ·exact h' x hx
theorem ok_nil:Ok []:=fun x hx=>by cases hx
theorem ok_one{x:Int}(h0:0≤x)(h1:x<1000000000):Ok [x]:=fun y hy=>by
 rcases List.mem_singleton.1 hy with rfl;exact⟨h0,h1⟩
theorem ok_snoc{a:List Int}{x:Int}(h:Ok a)(h0:0≤x)(h1:x<1000000000):Ok (a++ [x]):=ok_append h (ok_one h0 h1)
theorem val_snoc(a:List Int)(x:Int):val (a++ [x])=val a+1000000000^a.length*x.toNat:=by rw[val_append];simp[val]
theorem val_zeros(n:Nat):val (List.replicate n 0)=0:=by
 induction n with
 |zero=>rfl
 |succ n ih=>rw[List.replicate_succ,val,ih];rfl
theorem ok_zeros(n:Nat):Ok (List.replicate n 0):=fun x hx=>by
 rw[List.eq_of_mem_replicate hx];omega
theorem lim_val{l:List Int}(h:Ok l)(hl: ∀x,l.getLast?=some x→x≠0):l=lim (val l):=by
 induction l with
 |nil=>rw[val,lim_zero]
 |cons x xs ih=>
  have hx:=h x (by simp);have hxs:Ok xs:=fun y hy=>h y (by simp[hy])
  have hnz:val (x::xs)≠0:=by
   cases xs with
   |nil=>
    have:=hl x (by simp);rw[val,val];omega
   |cons y ys=>
    have hi:=ih hxs (fun z hz=>hl z (by rw[List.getLast?_cons_cons];exact hz));intro h0;have h1:val (y::ys)=0:=by rw[val]at h0;omega
    rw[h1,lim_zero]at hi;cases hi
  rw[lim_pos hnz];have h1:val (x::xs)%1000000000=x.toNat:=by rw[val];omega
  have h2:val (x::xs)/1000000000=val xs:=by rw[val];omega
  rw[h1,h2,←ih hxs (fun z hz=>?_)]
  ·congr 1;omega
  ·cases xs with
   |nil=>cases hz
   |cons y ys=>exact hl z (by rw[List.getLast?_cons_cons];exact hz)
theorem val_set{l:List Int}{i:Nat}(h:i<l.length)(hl:Ok l)(v:Int):val (l.set i v)+1000000000^i*(l.getD i 0).toNat=val l+1000000000^i*v.toNat:=by
 induction l generalizing i with
 |nil=>simp at h
 |cons x xs ih=>
  cases i with
  |zero=>simp[val];omega
  |succ i=>
   have:=ih (i:=i) (by simpa using h) (fun y hy=>hl y (by simp[hy]));rw[List.set_cons_succ,val,val,List.getD_cons_succ,Nat.pow_succ];have e1:1000000000^i*1000000000*(xs.getD i 0).toNat=1000000000*(1000000000^i*(xs.getD i 0).toNat):=by rw[Nat.mul_comm (1000000000^i),Nat.mul_assoc]
   have e2:1000000000^i*1000000000*v.toNat=1000000000*(1000000000^i*v.toNat):=by rw[Nat.mul_comm (1000000000^i),Nat.mul_assoc]
   rw[e1,e2];omega
theorem ok_set{l:List Int}(h:Ok l)(i:Nat){v:Int}(h0:0≤v)(h1:v<1000000000):Ok (l.set i v):=fun x hx=>by
 rcases List.mem_or_eq_of_mem_set hx with hx|rfl
 ·exact h x hx
 ·exact⟨h0,h1⟩
theorem ok_get{l:List Int}(h:Ok l)(i:Nat):0≤l.getD i 0∧l.getD i 0<1000000000:=by
 rcases Nat.lt_or_ge i l.length with hi|hi
 ·rw[List.getD_eq_getElem?_getD,List.getElem?_eq_getElem hi];exact h _ (List.getElem_mem hi)
 ·rw[List.getD_eq_getElem?_getD,List.getElem?_eq_none hi];simp
theorem val_split(l:List Int)(i:Nat):val l=val (l.take i)+1000000000^(min i l.length)*val (l.drop i):=by
 have h:=val_append (l.take i) (l.drop i);rw[List.take_append_drop,List.length_take]at h;exact h
theorem val_drop{l:List Int}{i:Nat}(h:i<l.length):val (l.drop i)=(l.getD i 0).toNat+1000000000*val (l.drop (i+1)):=by
 rw[List.drop_eq_getElem_cons h,val,List.getD_eq_getElem?_getD,List.getElem?_eq_getElem h];rfl
def revDig(n:Nat):List Int:=if _h:n=0 then []else((48+n%10:Nat):Int)::revDig (n/10)
termination_by n
decreasing_by omega
theorem revDig_zero:revDig 0= []:=by rw[revDig];simp
theorem revDig_pos{n:Nat}(h:n≠0):revDig n=((48+n%10:Nat):Int)::revDig (n/10):=by rw[revDig,dif_neg h]
theorem revDig_len(n i:Nat):i<(revDig n).length↔n/10^i≠0:=by
 induction i generalizing n with
 |zero=>
  by_cases h:n=0
  ·subst h;simp[revDig_zero]
  ·rw[revDig_pos h];simp[h]
 |succ i ih=>
  by_cases h:n=0
  ·subst h;simp[revDig_zero]
  ·rw[revDig_pos h,List.length_cons,Nat.add_lt_add_iff_right,ih,Nat.pow_succ,Nat.mul_comm,←Nat.div_div_eq_div_mul]
theorem revDig_le(n m:Nat):(revDig n).length≤m↔n<10^m:=by
 have h1:=revDig_len n m;have hp:0<10^m:=Nat.pow_pos (by omega);constructor
 ·intro h;rcases Nat.lt_or_ge n (10^m)with h2|h2
  ·exact h2
  ·have:n/10^m≠0:=by
    have:=(Nat.le_div_iff_mul_le hp).2 (show 1*10^m≤n by omega);omega
   have:=h1.2 this;omega
 ·intro h;have h2:n/10^m=0:=Nat.div_eq_of_lt h;rcases Nat.lt_or_ge m (revDig n).length with h3|h3
  ·exact absurd h2 (h1.1 h3)
  ·exact h3
theorem revDig_get(n i:Nat)(h:i<(revDig n).length):(revDig n).getD i 0=((48+n/10^i%10:Nat):Int):=by
 induction i generalizing n with
 |zero=>
  by_cases e:n=0
  ·subst e;simp[revDig_zero]at h
  ·rw[revDig_pos e];simp
 |succ i ih=>
  by_cases e:n=0
  ·subst e;simp[revDig_zero]at h
  ·rw[revDig_pos e,List.getD_cons_succ,ih,Nat.pow_succ,Nat.mul_comm,←Nat.div_div_eq_div_mul];rw[revDig_pos e]at h
   simpa using h
end Go.Proofs.YthlakefgobflnaaGreatDoor.Lm
namespace Go.Proofs.YthlakefgobflnaaGreatDoor.S
open Go.RowKit Go.Proofs.YthlakefgobflnaaGreatDoorW.PrintWords Go.Proofs.YthlakefgobflnaaGreatDoorW.PrintLast Go.Proofs.YthlakefgobflnaaGreatDoorW.PrintMore
attribute [local go_sem] max2_int min2_int max_two min_two max_three min_three max_four min_four   -- for this text's walks alone
set_option linter.unusedVariables false
set_option linter.unusedSimpArgs false
def errW:Option Int→Value
 |none=>.nilIface
 |some c=>.iface 0 (.int .i64 c)
theorem errW_none:errW none= .nilIface:=rfl
theorem errW_some(c:Int):errW (some c)= .iface 0 (.int .i64 c):=rfl
theorem info5:(Tryz.prog.info? 5).map (fun i=>(i.zero,i.size,i.bytes))=some (some (.int .u8 0),1,1):=by kernel_rfl
theorem info40:(Tryz.prog.info? 40).map (fun i=>(i.zero,i.size,i.bytes))=some (some (.int .u32 0),1,4):=by kernel_rfl
end Go.Proofs.YthlakefgobflnaaGreatDoor.S
namespace Go.Proofs.YthlakefgobflnaaGreatDoor.S
open Go.RowKit Go.Proofs.YthlakefgobflnaaGreatDoorW.PrintWords Go.Proofs.YthlakefgobflnaaGreatDoorW.PrintLast Go.Proofs.YthlakefgobflnaaGreatDoorW.PrintMore
attribute [local go_sem] max2_int min2_int max_two min_two max_three min_three max_four min_four   -- for this text's walks alone
set_option linter.unusedVariables false
set_option linter.unusedSimpArgs false
def spec_NatCmp.l0:Nat→List Int→List Int→Int→Option (Int)
 |0,_,_,_=>none
 |k+1,x0,x1,x5=>if x5≥0 then(if 0≤x5 then(if x5<(x0.length:Int)then(if x5<(x1.length:Int)then(if(rd x0 x5)=(rd x1 x5)then(spec_NatCmp.l0 k x0 x1 (wrap64 (x5-1)))else(if(rd x0 x5)<(rd x1 x5)then(some (-1))else(some 1)))else(none))else(none))else(none))else(some 0)
def spec_NatCmp.f(k:Nat)(l0:List Int)(l1:List Int):Option (Int):=if(l0.length:Int)=(l1.length:Int)then(spec_NatCmp.l0 k l0 l1 (wrap64 ((l0.length:Int)-1)))else(if(l0.length:Int)<(l1.length:Int)then(some (-1))else(some 1))
set_option maxHeartbeats 8000000 in
set_option maxRecDepth 100000 in
theorem spec_NatCmp.calls(k:Nat)(A0:Option Addr)(c0:Nat)(l0:List Int)(A1:Option Addr)(c1:Nat)(l1:List Int)(r:Int)(w:World)(hr0:Kd.C (Kd.int .u32) w A0 l0.length l0)(hc0:l0.length≤c0)(hr1:Kd.C (Kd.int .u32) w A1 l1.length l1)(hc1:l1.length≤c1)(h:spec_NatCmp.f k l0 l1=some r):
 Calls Tryz.prog 30 #[.slice A0 l0.length c0,.slice A1 l1.length c1] w fun e w'=>e= .returned (.int .i64 r)∧Drawn0 w w':=by
 have HR0:=ak hr0;have HC0:=ak hc0;clear hr0 hc0;have HR1:=ak hr1;have HC1:=ak hc1;clear hr1 hc1;have H:(if(l0.length:Int)=(l1.length:Int)then(spec_NatCmp.l0 k l0 l1 (wrap64 ((l0.length:Int)-1)))else(if(l0.length:Int)<(l1.length:Int)then(some (-1))else(some 1)))=some r:=h;clear h;by_cases c3:(l0.length:Int)=(l1.length:Int)
 ·rw[if_pos c3]at H;have c3b0:((l0.length:Int)==(l1.length:Int))=true:=beq_iff_eq.mpr c3;have c3b1:((l0.length:Int) != (l1.length:Int))=false:=bne_eq_false_iff_eq.mpr c3;have c3b2:(l0.length==l1.length)=true:=by first|simpa using c3|(simp at c3⊢;omega)
  clear c3;have H':=ak H;clear H
  go_enter Tryz.func30,Tryz.ntmps30
  go_wp2
  repeat(go_quiet (fail);try go_wp2)
  go_loopg [5] k (fun kq v5 w'=>∃(x5_1:Int),v5= .int .i64 x5_1∧Aside0 (spec_NatCmp.l0 kq l0 l1 x5_1=some r)∧Aside0 (kq≤k)∧Drawn0 w w')
  case atStart=>exact⟨(wrap64 ((l0.length:Int)-1)),zr,H',⟨Nat.le_refl _⟩,zd⟩
  case round=>
   clear H';try clear c1
   try clear c3b0
   try clear c3b1
   try clear c3b2
   obtain⟨x5_1,rfl,HA,HK1,⟨m1,rfl⟩⟩:=hrel;cases gk with
   |zero=>exact absurd HA.out (by simp[spec_NatCmp.l0])
   |succ k1=>
    have H:=HA.out;clear HA;simp only[spec_NatCmp.l0]at H;by_cases c4:x5_1≥0
    ·rw[if_pos c4]at H;have c4b0:decide (0≤x5_1)=true:=decide_eq_true c4;clear c4;replace H:=gdt H;obtain⟨c5b0,H⟩:=H;replace H:=gdt H;obtain⟨c6b0,H⟩:=H;replace H:=gdt H;obtain⟨c7b0,H⟩:=H;by_cases c8:(rd l0 x5_1)=(rd l1 x5_1)
     ·rw[if_pos c8]at H;have c8b0:((rd l0 x5_1)==(rd l1 x5_1))=true:=beq_iff_eq.mpr c8;have c8b1:((rd l0 x5_1) != (rd l1 x5_1))=false:=bne_eq_false_iff_eq.mpr c8;clear c8;have H':=ak H;clear H;have p127:0≤(x5_1:Int):=of_decide_eq_true za;have q127:x5_1<(l0.length:Int):=of_decide_eq_true za;obtain⟨ad127,e127,hx127_0⟩:=Kd.at_int HR0.out x5_1 p127 q127;cases e127;replace p127:=eq_true p127;replace q127:=eq_true q127;have p128:0≤(x5_1:Int):=of_decide_eq_true za;have q128:x5_1<(l1.length:Int):=of_decide_eq_true za;obtain⟨ad128,e128,hx128_0⟩:=Kd.at_int HR1.out x5_1 p128 q128;cases e128;replace p128:=eq_true p128;replace q128:=eq_true q128
      go_wp2
      repeat(go_quiet (fail);try go_wp2)
      go_roundg k1
      case measure=>have:=HK1.out;omega
      case rel=>exact⟨(wrap64 (x5_1-1)),zr,H',⟨by have:=HK1.out;omega⟩,zd⟩
     ·rw[if_neg c8]at H;have c8b0:((rd l0 x5_1)==(rd l1 x5_1))=false:=beq_eq_false_iff_ne.mpr c8;have c8b1:((rd l0 x5_1) != (rd l1 x5_1))=true:=bne_iff_ne.mpr c8;by_cases c9:(rd l0 x5_1)<(rd l1 x5_1)
      ·rw[if_pos c9]at H;have c9b0:decide ((rd l0 x5_1)<(rd l1 x5_1))=true:=decide_eq_true c9;clear c9;obtain rfl:=Option.some.inj H;have p127:0≤(x5_1:Int):=of_decide_eq_true za;have q127:x5_1<(l0.length:Int):=of_decide_eq_true za;obtain⟨ad127,e127,hx127_0⟩:=Kd.at_int HR0.out x5_1 p127 q127;cases e127;replace p127:=eq_true p127;replace q127:=eq_true q127;have p128:0≤(x5_1:Int):=of_decide_eq_true za;have q128:x5_1<(l1.length:Int):=of_decide_eq_true za;obtain⟨ad128,e128,hx128_0⟩:=Kd.at_int HR1.out x5_1 p128 q128;cases e128;replace p128:=eq_true p128;replace q128:=eq_true q128;have p129:0≤(x5_1:Int):=of_decide_eq_true za;have q129:x5_1<(l0.length:Int):=of_decide_eq_true za;obtain⟨ad129,e129,hx129_0⟩:=Kd.at_int HR0.out x5_1 p129 q129;obtain rfl:ad127=ad129:=(by injection e129);replace p129:=eq_true p129;replace q129:=eq_true q129;have p130:0≤(x5_1:Int):=of_decide_eq_true za;have q130:x5_1<(l1.length:Int):=of_decide_eq_true za;obtain⟨ad130,e130,hx130_0⟩:=Kd.at_int HR1.out x5_1 p130 q130;obtain rfl:ad128=ad130:=(by injection e130);replace p130:=eq_true p130;replace q130:=eq_true q130
       go_wp2
       repeat(go_quiet (fail);try go_wp2)
       go_ret
       exact⟨zr,zd⟩
      ·rw[if_neg c9]at H;have c9b0:decide ((rd l0 x5_1)<(rd l1 x5_1))=false:=decide_eq_false c9;clear c9;obtain rfl:=Option.some.inj H;have p127:0≤(x5_1:Int):=of_decide_eq_true za;have q127:x5_1<(l0.length:Int):=of_decide_eq_true za;obtain⟨ad127,e127,hx127_0⟩:=Kd.at_int HR0.out x5_1 p127 q127;cases e127;replace p127:=eq_true p127;replace q127:=eq_true q127;have p128:0≤(x5_1:Int):=of_decide_eq_true za;have q128:x5_1<(l1.length:Int):=of_decide_eq_true za;obtain⟨ad128,e128,hx128_0⟩:=Kd.at_int HR1.out x5_1 p128 q128;cases e128;replace p128:=eq_true p128;replace q128:=eq_true q128;have p129:0≤(x5_1:Int):=of_decide_eq_true za;have q129:x5_1<(l0.length:Int):=of_decide_eq_true za;obtain⟨ad129,e129,hx129_0⟩:=Kd.at_int HR0.out x5_1 p129 q129;obtain rfl:ad127=ad129:=(by injection e129);replace p129:=eq_true p129;replace q129:=eq_true q129;have p130:0≤(x5_1:Int):=of_decide_eq_true za;have q130:x5_1<(l1.length:Int):=of_decide_eq_true za;obtain⟨ad130,e130,hx130_0⟩:=Kd.at_int HR1.out x5_1 p130 q130;obtain rfl:ad128=ad130:=(by injection e130);replace p130:=eq_true p130;replace q130:=eq_true q130
       go_wp2
       repeat(go_quiet (fail);try go_wp2)
       go_ret
       exact⟨zr,zd⟩
    ·rw[if_neg c4]at H;have c4b0:decide (0≤x5_1)=false:=decide_eq_false c4;clear c4;obtain rfl:=Option.some.inj H
     go_wp2
     repeat(go_quiet (fail);try go_wp2)
     go_ret
     exact⟨zr,zd⟩
 ·rw[if_neg c3]at H;have c3b0:((l0.length:Int)==(l1.length:Int))=false:=beq_eq_false_iff_ne.mpr c3;have c3b1:((l0.length:Int) != (l1.length:Int))=true:=bne_iff_ne.mpr c3;have c3b2:(l0.length==l1.length)=false:=by first|simpa using c3|(simp at c3⊢;omega)
  by_cases c10:(l0.length:Int)<(l1.length:Int)
  ·rw[if_pos c10]at H;have c10b0:decide ((l0.length:Int)<(l1.length:Int))=true:=decide_eq_true c10;have c10b1:decide (l0.length<l1.length)=true:=decide_eq_true (Int.ofNat_lt.mp c10);clear c10;obtain rfl:=Option.some.inj H
   go_enter Tryz.func30,Tryz.ntmps30
   go_wp2
   repeat(go_quiet (fail);try go_wp2)
   go_ret
   exact⟨zr,zd⟩
  ·rw[if_neg c10]at H;have c10b0:decide ((l0.length:Int)<(l1.length:Int))=false:=decide_eq_false c10;have c10b1:decide (l0.length<l1.length)=false:=decide_eq_false (fun h=>c10 (Int.ofNat_lt.mpr h));clear c10;obtain rfl:=Option.some.inj H
   go_enter Tryz.func30,Tryz.ntmps30
   go_wp2
   repeat(go_quiet (fail);try go_wp2)
   go_ret
   exact⟨zr,zd⟩
end Go.Proofs.YthlakefgobflnaaGreatDoor.S
namespace Go.Proofs.YthlakefgobflnaaGreatDoor.Lm
open Go.RowKit Go.Proofs.YthlakefgobflnaaGreatDoorW.PrintWords Go.Proofs.YthlakefgobflnaaGreatDoor.S
set_option linter.unusedVariables false
theorem snoc_lim{n:Nat}(h:n≠0)(out:List Int):out++lim n=(out++ [((n%1000000000:Nat):Int)])++lim (n/1000000000):=by rw[lim_pos h,List.append_assoc];rfl
theorem w64s(i:Nat)(h:i<9223372036854775807):wrap64 ((i:Int)+1)=((i+1:Nat):Int):=by rw[w64 (by omega) (by omega)];omega
def cmp(a b:Nat):Int:=if a<b then-1 else if a=b then 0 else 1
theorem cmp_eq{a b:Nat}:cmp a b=0↔a=b:=by unfold cmp;split<;>(try split)<;>omega
theorem cmp_lt{a b:Nat}:cmp a b<0↔a<b:=by unfold cmp;split<;>(try split)<;>omega
theorem cmp_gt{a b:Nat}:cmp a b>0↔b<a:=by unfold cmp;split<;>(try split)<;>omega
theorem natCmp_loop(a b i:Nat)(hi:i≤9223372036854775807)(ha: ∀j,j<i→(j:Int)<((lim a).length:Int))(hb: ∀j,j<i→(j:Int)<((lim b).length:Int))(he:a/1000000000^i=b/1000000000^i):
 Ev (fun k=>spec_NatCmp.l0 k (lim a) (lim b) ((i:Int)-1)) (cmp a b):=by
 induction i with
 |zero=>
  refine Ev.step ?_;simp only[spec_NatCmp.l0];refine Ev.neg (by omega) ?_;have:a=b:=by simpa using he
  rw[cmp_eq.2 this];exact Ev.pure _
 |succ i ih=>
  refine Ev.step ?_;simp only[spec_NatCmp.l0];have e:((i+1:Nat):Int)-1=(i:Int):=by omega
  rw[e,rd_lim,rd_lim];refine Ev.pos (by omega) (Ev.pos (by omega) (Ev.pos (ha i (by omega)) (Ev.pos (hb i (by omega)) ?_)));rw[pow_succ_div,pow_succ_div]at he;have ea:a=1000000000^i*(a/1000000000^i)+a%1000000000^i:=(Nat.div_add_mod a _).symm;have eb:b=1000000000^i*(b/1000000000^i)+b%1000000000^i:=(Nat.div_add_mod b _).symm;have hp:0<1000000000^i:=Nat.pow_pos (by omega);by_cases hc:a/1000000000^i%1000000000=b/1000000000^i%1000000000
  ·refine Ev.pos (by omega) ?_;rw[w64 (by omega) (by omega)];exact ih (by omega) (fun j hj=>ha j (by omega)) (fun j hj=>hb j (by omega)) (by omega)
  ·refine Ev.neg (by omega) ?_;by_cases hlt:a/1000000000^i%1000000000<b/1000000000^i%1000000000
   ·refine Ev.pos (by omega) ?_;have h1:a/1000000000^i<b/1000000000^i:=by omega
    have h2:a<b:=by
     have h3:=Nat.mul_le_mul_left (1000000000^i) (show a/1000000000^i+1≤b/1000000000^i by omega);rw[Nat.mul_add,Nat.mul_one]at h3;have:=Nat.mod_lt a hp;omega
    unfold cmp;rw[if_pos h2];exact Ev.pure _
   ·refine Ev.neg (by omega) ?_;have h1:b/1000000000^i<a/1000000000^i:=by omega
    have h2:b<a:=by
     have h3:=Nat.mul_le_mul_left (1000000000^i) (show b/1000000000^i+1≤a/1000000000^i by omega);rw[Nat.mul_add,Nat.mul_one]at h3;have:=Nat.mod_lt b hp;omega
    unfold cmp;rw[if_neg (by omega),if_neg (by omega)];exact Ev.pure _
theorem lt_of_len_lt{a b:Nat}(h:(lim a).length<(lim b).length):a<b:=by
 have h1:=lt_of_len (n:=a) (Nat.le_refl _);have h2:=(len_lim b (lim a).length).1 h;rcases Nat.lt_or_ge b (1000000000^(lim a).length)with h3|h3
 ·exact absurd (Nat.div_eq_of_lt h3) h2
 ·omega
theorem natCmp(a b:Nat)(ha:(lim a).length≤9223372036854775807):Ev (fun k=>spec_NatCmp.f k (lim a) (lim b)) (cmp a b):=by
 unfold spec_NatCmp.f;by_cases h:(lim a).length=(lim b).length
 ·refine Ev.pos (by omega) ?_;rw[w64 (by omega) (by omega)];refine natCmp_loop a b _ ha (fun j hj=>by omega) (fun j hj=>by omega) ?_;have h1:=lt_of_len (n:=a) (Nat.le_refl _);have h2:=lt_of_len (n:=b) (Nat.le_refl _);rw[←h]at h2;rw[Nat.div_eq_of_lt h1,Nat.div_eq_of_lt h2]
 ·refine Ev.neg (by omega) ?_;by_cases hlt:(lim a).length<(lim b).length
  ·refine Ev.pos (by omega) ?_;unfold cmp;rw[if_pos (lt_of_len_lt hlt)];exact Ev.pure _
  ·refine Ev.neg (by omega) ?_;have:=lt_of_len_lt (a:=b) (b:=a) (by omega);unfold cmp;rw[if_neg (by omega),if_neg (by omega)];exact Ev.pure _
end Go.Proofs.YthlakefgobflnaaGreatDoor.Lm
