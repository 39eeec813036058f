/- ROWS WRITTEN PLACE BY PLACE, and sums, differences, quotients of rows, as numbers. CONTRACTS: sums and differences of rows, written in place. -/
import Derived.Test.YthlakefgobflnaaGreatDoorBay
import Derived.Test.YthlakefgobflnaaGreatDoorBaw
import Derived.Shelf.Spec.BitsCarry
namespace Go.Proofs.YthlakefgobflnaaGreatDoor.L64
set_option linter.unusedVariables false
theorem ext_getD{a b:List Int}(hl:a.length=b.length)(h: ∀k,k<a.length→a.getD k 0=b.getD k 0):a=b:=by
 apply List.ext_getElem hl;intro i h1 h2;have:=h i h1;rwa[List.getD_eq_getElem?_getD,List.getD_eq_getElem?_getD,List.getElem?_eq_getElem h1,List.getElem?_eq_getElem h2]at this
theorem getD_set(l:List Int)(i k:Nat)(v:Int)(h:i<l.length):(l.set i v).getD k 0=if i=k then v else l.getD k 0:=by
 rw[List.getD_eq_getElem?_getD,List.getElem?_set,List.getD_eq_getElem?_getD];by_cases e:i=k
 ·subst e;rw[if_pos rfl,if_pos h,if_pos rfl];rfl
 ·rw[if_neg e,if_neg e]
def seg(L:List Int)(d:Nat)(T:List Int)(a b:Nat):List Int:=L.take (d+a)++((T.take b).drop a++L.drop (d+b))
theorem seg_len{L T:List Int}{d a b:Nat}(hL:d+T.length≤L.length)(hb:b≤T.length)(hab:a≤b):(seg L d T a b).length=L.length:=by
 unfold seg;simp only[List.length_append,List.length_take,List.length_drop];omega
theorem seg_getD{L T:List Int}{d a b:Nat}(hL:d+T.length≤L.length)(hb:b≤T.length)(hab:a≤b)(k:Nat):(seg L d T a b).getD k 0=if d+a≤k∧k<d+b then T.getD (k-d) 0 else L.getD k 0:=by
 unfold seg;simp only[List.getD_eq_getElem?_getD];have hl1:(L.take (d+a)).length=d+a:=by rw[List.length_take];omega
 have hl2:((T.take b).drop a).length=b-a:=by rw[List.length_drop,List.length_take];omega
 by_cases h1:k<d+a
 ·rw[List.getElem?_append_left (by omega),List.getElem?_take_of_lt h1,if_neg (by omega)]
 ·rw[List.getElem?_append_right (by omega),hl1];by_cases h2:k<d+b
  ·rw[List.getElem?_append_left (by omega),List.getElem?_drop,List.getElem?_take_of_lt (by omega),if_pos (by omega)]
   congr 2
   omega
  ·rw[List.getElem?_append_right (by omega),hl2,List.getElem?_drop,if_neg (by omega)]
   congr 2
   omega
theorem seg_nil(L:List Int)(d:Nat)(T:List Int)(a:Nat):seg L d T a a=L:=by
 unfold seg;rw[List.drop_eq_nil_of_le (by rw[List.length_take];omega),List.nil_append,List.take_append_drop]
theorem seg_up{L T:List Int}{d a b:Nat}(hL:d+T.length≤L.length)(hb:b<T.length)(hab:a≤b){v:Int}(hv:T.getD b 0=v):(seg L d T a b).set (d+b) v=seg L d T a (b+1):=by
 have l1:=seg_len hL (Nat.le_of_lt hb) hab;have l2:=seg_len (a:=a) hL hb (by omega);refine ext_getD (by rw[List.length_set,l1,l2]) (fun k hk=>?_);rw[getD_set _ _ _ _ (by omega),seg_getD hL (Nat.le_of_lt hb) hab,seg_getD hL hb (by omega)];by_cases e:d+b=k
 ·subst e;rw[if_pos rfl,if_pos (by omega),←hv]
  congr 1
  omega
 ·rw[if_neg e];by_cases h:d+a≤k∧k<d+b
  ·rw[if_pos h,if_pos (by omega)]
  ·rw[if_neg h,if_neg (by omega)]
theorem seg_dn{L T:List Int}{d a b:Nat}(hL:d+T.length≤L.length)(hb:b≤T.length)(hab:a<b){v:Int}(hv:T.getD a 0=v):(seg L d T (a+1) b).set (d+a) v=seg L d T a b:=by
 have l1:=seg_len hL hb (show a+1≤b from hab);have l2:=seg_len (a:=a) hL hb (by omega);refine ext_getD (by rw[List.length_set,l1,l2]) (fun k hk=>?_);rw[getD_set _ _ _ _ (by omega),seg_getD hL hb hab,seg_getD hL hb (by omega)];by_cases e:d+a=k
 ·subst e;rw[if_pos rfl,if_pos (by omega),←hv]
  congr 1
  omega
 ·rw[if_neg e];by_cases h:d+(a+1)≤k∧k<d+b
  ·rw[if_pos h,if_pos (by omega)]
  ·rw[if_neg h,if_neg (by omega)]
theorem seg_all{L T:List Int}{d:Nat}(n:Nat)(hn:n=T.length):seg L d T 0 n=L.take d++(T++L.drop (d+T.length)):=by
 subst hn;unfold seg;rw[Nat.add_zero,List.drop_zero,List.take_length]
theorem ok_take{l:List Int}(h:Ok l)(n:Nat):Ok (l.take n):=fun x hx=>h x (List.mem_of_mem_take hx)
theorem ok_drop{l:List Int}(h:Ok l)(n:Nat):Ok (l.drop n):=fun x hx=>h x (List.mem_of_mem_drop hx)
theorem seg_ok{L T:List Int}(d a b:Nat)(hL:Ok L)(hT:Ok T):Ok (seg L d T a b):=ok_append (ok_take hL _) (ok_append (ok_drop (ok_take hT _) _) (ok_drop hL _))
theorem val_take(x:List Int)(i:Nat):val (x.take (i+1))=val (x.take i)+18446744073709551616^i*(x.getD i 0).toNat:=by
 by_cases h:i<x.length
 ·exact Lm.val_take_succ x i h
 ·rw[List.take_of_length_le (by omega),List.take_of_length_le (by omega),List.getD_eq_getElem?_getD,List.getElem?_eq_none (by omega)];simp
def mk(n:Nat)(f:Nat→Nat):List Int:=(List.range n).map fun i=>(f i:Int)
theorem mk_len(n:Nat)(f:Nat→Nat):(mk n f).length=n:=by simp[mk]
theorem mk_get{n:Nat}(f:Nat→Nat){i:Nat}(h:i<n):(mk n f).getD i 0=(f i:Int):=by
 rw[List.getD_eq_getElem?_getD,mk,List.getElem?_map,List.getElem?_range h];rfl
theorem mk_ok{n:Nat}{f:Nat→Nat}(h: ∀i,i<n→f i<18446744073709551616):Ok (mk n f):=fun x hx=>by
 obtain⟨i,hi,rfl⟩:=List.mem_map.1 hx;have:=h i (List.mem_range.1 hi);omega
theorem ok_getN{l:List Int}(h:Ok l)(i:Nat):(l.getD i 0).toNat<18446744073709551616:=by
 have:=ok_get h i;omega
theorem getN{l:List Int}(h:Ok l)(i:Nat):l.getD i 0=((l.getD i 0).toNat:Int):=by
 have:=ok_get h i;omega
def addK(x y:List Int)(c:Nat):Nat→Nat
 |0=>c
 |i+1=>((x.getD i 0).toNat+(y.getD i 0).toNat+addK x y c i)/18446744073709551616
def addT(x y:List Int)(c:Nat):List Int:=mk x.length fun i=>((x.getD i 0).toNat+(y.getD i 0).toNat+addK x y c i)%18446744073709551616
theorem addK_le{x y:List Int}(hx:Ok x)(hy:Ok y){c:Nat}(hc:c≤1)(i:Nat):addK x y c i≤1:=by
 induction i with
 |zero=>exact hc
 |succ i ih=>
  have h1:=ok_getN hx i;have h2:=ok_getN hy i;unfold addK;omega
theorem addT_ok(x y:List Int)(c:Nat):Ok (addT x y c):=mk_ok (fun i _=>Nat.mod_lt _ (by omega))
theorem step_add(P A X Y C a x y c:Nat)(h:A+P*C=X+Y+c)(e:a+18446744073709551616*((x+y+C)/18446744073709551616)=x+y+C):A+P*a+P*18446744073709551616*((x+y+C)/18446744073709551616)=X+P*x+(Y+P*y)+c:=by
 generalize (x+y+C)/18446744073709551616=q at*
 grind
theorem addT_val(x y:List Int)(c:Nat)(i:Nat)(hi:i≤x.length):val ((addT x y c).take i)+18446744073709551616^i*addK x y c i=val (x.take i)+val (y.take i)+c:=by
 induction i with
 |zero=>simp[val,addK]
 |succ i ih=>
  have h:=ih (by omega);rw[val_take,val_take,val_take,addT,mk_get _ (by omega),←addT,addK,Nat.pow_succ,Int.toNat_natCast];refine step_add _ _ _ _ _ _ _ _ _ h ?_;omega
def subK(x y:List Int)(c:Nat):Nat→Nat
 |0=>c
 |i+1=>if(x.getD i 0).toNat<(y.getD i 0).toNat+subK x y c i then 1 else 0
def subT(x y:List Int)(c:Nat):List Int:=mk x.length fun i=>((x.getD i 0).toNat+18446744073709551616-(y.getD i 0).toNat-subK x y c i)%18446744073709551616
theorem subK_le(x y:List Int){c:Nat}(hc:c≤1)(i:Nat):subK x y c i≤1:=by
 induction i with
 |zero=>exact hc
 |succ i ih=>unfold subK;split<;>omega
theorem subT_ok(x y:List Int)(c:Nat):Ok (subT x y c):=mk_ok (fun i _=>Nat.mod_lt _ (by omega))
theorem step_sub(P A X Y C a x y c q:Nat)(h:A+Y+c=X+P*C)(e:a+y+C=x+18446744073709551616*q):A+P*a+(Y+P*y)+c=X+P*x+P*18446744073709551616*q:=by
 grind
theorem subT_val{x y:List Int}(hx:Ok x)(hy:Ok y){c:Nat}(hc:c≤1)(i:Nat)(hi:i≤x.length):val ((subT x y c).take i)+val (y.take i)+c=val (x.take i)+18446744073709551616^i*subK x y c i:=by
 induction i with
 |zero=>simp[val,subK]
 |succ i ih=>
  have h:=ih (by omega);have h1:=ok_getN hx i;have h2:=ok_getN hy i;have h3:=subK_le x y hc i;rw[val_take,val_take,val_take,subT,mk_get _ (by omega),←subT,subK,Nat.pow_succ,Int.toNat_natCast];refine step_sub _ _ _ _ _ _ _ _ _ _ h ?_
  split<;>omega
def divK(x:List Int)(y:Nat):Nat→Nat
 |0=>0
 |j+1=>(divK x y j*18446744073709551616+(x.getD (x.length-1-j) 0).toNat)%y
def divT(x:List Int)(y:Nat):List Int:=mk x.length fun i=>(divK x y (x.length-1-i)*18446744073709551616+(x.getD i 0).toNat)/y
theorem divK_lt(x:List Int){y:Nat}(hy:0<y)(j:Nat):divK x y j<y:=by
 cases j with
 |zero=>exact hy
 |succ j=>exact Nat.mod_lt _ hy
theorem div_word{r y w:Nat}(hr:r<y)(hw:w<18446744073709551616):(r*18446744073709551616+w)/y<18446744073709551616:=by
 refine Nat.div_lt_of_lt_mul ?_;have:(r+1)*18446744073709551616≤y*18446744073709551616:=Nat.mul_le_mul_right _ hr;omega
theorem divT_ok{x:List Int}(hx:Ok x){y:Nat}(hy:0<y):Ok (divT x y):=mk_ok (fun i _=>div_word (divK_lt x hy _) (ok_getN hx i))
theorem step_div(r w y q r' V Q:Nat)(h:r+y*Q=V)(e:y*q+r'=r*18446744073709551616+w):r'+y*(q+18446744073709551616*Q)=w+18446744073709551616*V:=by
 subst h
 grind
theorem divT_drop{x:List Int}{y:Nat}(j:Nat)(hj:j≤x.length):divK x y j+y*val ((divT x y).drop (x.length-j))=val (x.drop (x.length-j)):=by
 induction j with
 |zero=>
  rw[val_drop_nil (by rw[divT,mk_len];omega),val_drop_nil (by omega)];rfl
 |succ j ih=>
  have h:=ih (by omega);obtain⟨i,hi⟩: ∃i,x.length-(j+1)=i:=⟨_,rfl⟩
  have e1:x.length-j=i+1:=by omega
  have e2:x.length-1-j=i:=by omega
  have e3:x.length-1-i=j:=by omega
  rw[e1]at h;rw[hi,val_drop (l:=x) (by omega),val_drop (l:=divT x y) (by rw[divT,mk_len];omega),divK,e2];refine step_div _ _ _ _ _ _ _ h ?_;rw[divT,mk_get _ (by omega),e3,Int.toNat_natCast];exact Nat.div_add_mod _ _
theorem divT_val{x:List Int}{y:Nat}(hy:0<y):val (divT x y)=val x/y:=by
 have h:=divT_drop (x:=x) (y:=y) x.length (Nat.le_refl _);rw[Nat.sub_self,List.drop_zero,List.drop_zero]at h;have hl:=divK_lt x hy x.length;rw[←h,Nat.add_mul_div_left _ _ hy,Nat.div_eq_of_lt hl,Nat.zero_add]
theorem addK_stay{x:List Int}(hx:Ok x){c i:Nat}(h:addK x [] c i=0)(j:Nat)(hj:i≤j):addK x [] c j=0:=by
 obtain⟨m,rfl⟩:=Nat.exists_eq_add_of_le hj;clear hj;induction m with
 |zero=>exact h
 |succ m ih=>
  rw[←Nat.add_assoc];generalize i+m=j at*;have:=ok_getN hx j;have e:(0:Int).toNat=0:=rfl;rw[addK,ih,show([]:List Int).getD j 0=0 from rfl,e];omega
theorem addT_stay{x:List Int}(hx:Ok x){c i:Nat}(h:addK x [] c i=0)(j:Nat)(hj:i≤j)(hl:j<x.length):(addT x [] c).getD j 0=x.getD j 0:=by
 have:=ok_getN hx j;rw[addT,mk_get _ hl,addK_stay hx h j hj];rw[getN hx j,show([]:List Int).getD j 0=0 from rfl];generalize (x.getD j 0).toNat=q at*;have e:(0:Int).toNat=0:=rfl;rw[e];omega
theorem subK_stay{x:List Int}(hx:Ok x){c i:Nat}(h:subK x [] c i=0)(j:Nat)(hj:i≤j):subK x [] c j=0:=by
 obtain⟨m,rfl⟩:=Nat.exists_eq_add_of_le hj;clear hj;induction m with
 |zero=>exact h
 |succ m ih=>
  rw[←Nat.add_assoc];generalize i+m=j at*;rw[subK,ih];simp
theorem subT_stay{x:List Int}(hx:Ok x){c i:Nat}(h:subK x [] c i=0)(j:Nat)(hj:i≤j)(hl:j<x.length):(subT x [] c).getD j 0=x.getD j 0:=by
 have:=ok_getN hx j;rw[subT,mk_get _ hl,subK_stay hx h j hj];rw[getN hx j,show([]:List Int).getD j 0=0 from rfl];generalize (x.getD j 0).toNat=q at*;have e:(0:Int).toNat=0:=rfl;rw[e];omega
theorem seg_stay{L T:List Int}{d i:Nat}(hL:d+T.length≤L.length)(hi:i≤T.length)(h: ∀j,i≤j→j<T.length→T.getD j 0=L.getD (d+j) 0):seg L d T 0 i=seg L d T 0 T.length:=by
 refine ext_getD (by rw[seg_len hL hi (Nat.zero_le _),seg_len hL (Nat.le_refl _) (Nat.zero_le _)]) (fun k hk=>?_);rw[seg_getD hL hi (Nat.zero_le _),seg_getD hL (Nat.le_refl _) (Nat.zero_le _)];by_cases h1:d+0≤k∧k<d+i
 ·rw[if_pos h1,if_pos (by omega)]
 ·rw[if_neg h1];by_cases h2:d+0≤k∧k<d+T.length
  ·rw[if_pos h2,h (k-d) (by omega) (by omega)]
   congr 1
   omega
  ·rw[if_neg h2]
theorem seg_rest{L T R:List Int}{d i o:Nat}(hL:d+T.length≤L.length)(hi:i≤T.length)(hR:T.drop i=R)(ho:d+i=o):(seg L d T 0 i).take o++(R++(seg L d T 0 i).drop (o+R.length))=seg L d T 0 T.length:=by
 subst hR ho;have hl:=seg_len (a:=0) hL hi (Nat.zero_le _);have e1:(seg L d T 0 i).take (d+i)=L.take d++T.take i:=by
  unfold seg;rw[List.drop_zero,Nat.add_zero,←List.append_assoc,List.take_append_of_le_length (by rw[List.length_append,List.length_take,List.length_take];omega),List.take_of_length_le (by rw[List.length_append,List.length_take,List.length_take];omega)]
 have e2:(seg L d T 0 i).drop (d+i+(T.drop i).length)=L.drop (d+T.length):=by
  have:(T.drop i).length=T.length-i:=List.length_drop;unfold seg;rw[List.drop_zero,Nat.add_zero,←List.append_assoc,List.drop_append,List.drop_eq_nil_of_le (by rw[List.length_append,List.length_take,List.length_take];omega),List.nil_append,List.drop_drop]
  congr 1
  rw[List.length_append,List.length_take,List.length_take];omega
 rw[e1,e2,seg_all T.length rfl,List.append_assoc,←List.append_assoc (T.take i),List.take_append_drop]
theorem drop_eq{a b:List Int}{i:Nat}(hl:a.length=b.length)(h: ∀j,i≤j→j<a.length→a.getD j 0=b.getD j 0):a.drop i=b.drop i:=by
 refine ext_getD (by rw[List.length_drop,List.length_drop,hl]) (fun k hk=>?_);rw[List.length_drop]at hk;have:=h (i+k) (by omega) (by omega)
 simpa [List.getD_eq_getElem?_getD,List.getElem?_drop]using this
end Go.Proofs.YthlakefgobflnaaGreatDoor.L64
namespace Go.Proofs.YthlakefgobflnaaGreatDoor.G
open Go.RowKit Go.Proofs.YthlakefgobflnaaGreatDoorW.PrintWords Go.Proofs.YthlakefgobflnaaGreatDoorW.PrintLast Go.Proofs.YthlakefgobflnaaGreatDoorW.PrintMore Go.Proofs.YthlakefgobflnaaGreatDoor.S
set_option linter.unusedVariables false
set_option linter.unusedSimpArgs false
theorem seg_read{w w':World}{g d a b:Nat}{p:Addr}{L T x:List Int}(hR:RowAt w g L)(hT:d+T.length≤L.length)(hb:b≤T.length)(hab:a≤b)(hx:Rd w p x)(hpx:p.block=g→p.off+x.length≤L.length)(hR':RowAt w' g (L64.seg L d T a b))(ho:Only g w w')(hpb:p.block<w.heap.size)(j:Nat)(hj:j<x.length)(hr:p.block=g→p.off+j<d+a∨d+b≤p.off+j):w'.cell? ⟨p.block,p.off+j,none⟩=some (.int .u64 (x.getD j 0)):=by
 by_cases hb1:p.block=g
 ·have h1:=hpx hb1;have h0:=hx.2 j hj;have h2:=hr hb1;rw[hb1]at h0⊢;rw[hR.cell _ (by omega)]at h0;rw[hR'.cell _ (by rw[L64.seg_len hT hb hab];omega),L64.seg_getD hT hb hab,if_neg (by omega),←h0]
 ·rw[World.cell?_of_block (a:=⟨p.block,p.off+j,none⟩) (ho.block p.block hpb hb1)];exact hx.2 j hj
theorem Only.drew{g:Nat}{a w:World}(h:Only g a w):Only g a w.drew:=h.trans ⟨rfl,rfl,rfl,Nat.le_refl _,fun _ _ _=>rfl⟩
theorem Only.below'{g:Nat}{a w w':World}(h:Only g a w)(hb:Below w.heap.size w w'):Only g a w':=h.trans (Only.of g hb)
theorem add64c_at(x y c:Nat)(hc:c≤1)(w:World):(callFunc 141 #[.int .u64 (x:Int),.int .u64 (y:Int),.int .u64 (c:Int)]).run Tryz.prog w=
 .ok (.value (.tuple #[.int .u64 (((x+y+c)%18446744073709551616:Nat):Int),.int .u64 (((x+y+c)/18446744073709551616:Nat):Int)])) w:=by
 rw[run_callFunc_extern (P:=Tryz.prog) Tryz.func141 (by kernel_rfl) (by kernel_rfl) (by kernel_rfl) (e:=add64Entry) (by kernel_rfl) #[.int .u64 (x:Int),.int .u64 (y:Int),.int .u64 (c:Int)] w,run_add64 x y c (by omega) (by omega) (by omega) (by omega)];simp only[Result.andThen]
 congr 5<;>omega
theorem sub64c_at(x y b:Nat)(hb:b≤1)(w:World):(callFunc 139 #[.int .u64 (x:Int),.int .u64 (y:Int),.int .u64 (b:Int)]).run Tryz.prog w=
 .ok (.value (.tuple #[.int .u64 (((x+18446744073709551616-y-b)%18446744073709551616:Nat):Int),.int .u64 ((if x<y+b then 1 else 0:Nat):Int)])) w:=by
 rw[run_callFunc_extern (P:=Tryz.prog) Tryz.func139 (by kernel_rfl) (by kernel_rfl) (by kernel_rfl) (e:=sub64Entry) (by kernel_rfl) #[.int .u64 (x:Int),.int .u64 (y:Int),.int .u64 (b:Int)] w,run_sub64 x y b hb];rfl
set_option maxRecDepth 100000 in
theorem addc_is(x y c:Nat)(hc:c≤1)(w:World):
 Calls Tryz.prog 119 #[.int .u64 (x:Int),.int .u64 (y:Int),.int .u64 (c:Int)] w fun e w'=>e= .returned (.tuple #[.int .u64 (((x+y+c)%18446744073709551616:Nat):Int),.int .u64 (((x+y+c)/18446744073709551616:Nat):Int)])∧Below w.heap.size w w':=by
 have HB:=ak (Below.refl w.heap.size w);have HA:=fun w0=>add64c_at x y c hc w0
 clear hc;generalize (((x+y+c)%18446744073709551616:Nat):Int)=u at*;generalize (((x+y+c)/18446744073709551616:Nat):Int)=v at*
 go_enter Tryz.func119,Tryz.ntmps119
 go_wp2_with (simp only[HA])
 go_ret2
 exact⟨rfl,HB.out⟩
set_option maxRecDepth 100000 in
theorem subc_is(x y c:Nat)(hc:c≤1)(w:World):
 Calls Tryz.prog 116 #[.int .u64 (x:Int),.int .u64 (y:Int),.int .u64 (c:Int)] w fun e w'=>e= .returned (.tuple #[.int .u64 (((x+18446744073709551616-y-c)%18446744073709551616:Nat):Int),.int .u64 ((if x<y+c then 1 else 0:Nat):Int)])∧Below w.heap.size w w':=by
 have HB:=ak (Below.refl w.heap.size w);have HA:=fun w0=>sub64c_at x y c hc w0
 clear hc;generalize (((x+18446744073709551616-y-c)%18446744073709551616:Nat):Int)=u at*;generalize ((if x<y+c then 1 else 0:Nat):Int)=v at*
 go_enter Tryz.func116,Tryz.ntmps116
 go_wp2_with (simp only[HA])
 go_ret2
 exact⟨rfl,HB.out⟩
set_option maxRecDepth 100000 in
theorem addVV_g_is(g cz cx cy:Nat)(p q:Addr)(L x y:List Int)(w:World)(hR:RowAt w g L)(hxL:x.length≤L.length)(hL:L.length≤100000)(hl:y.length=x.length)
 (hx:Rd w p x) (hpb:p.block<w.heap.size) (hp:p.block=g→p.off+x.length≤L.length) (hok:L64.Ok x) (hy:Rd w q y) (hqb:q.block<w.heap.size) (hq:q.block=g→q.off+y.length≤L.length) (hok2:L64.Ok y):
 Calls Tryz.prog 118 #[.slice (some ⟨g,0,none⟩) x.length cz,.slice (some p) x.length cx,.slice (some q) y.length cy] w fun e w'=>e= .returned (.int .u64 (L64.addK x y 0 x.length:Int))∧RowAt w' g (L64.seg L 0 (L64.addT x y 0) 0 x.length)∧Only g w w':=by
 have hTl:(L64.addT x y 0).length=x.length:=L64.mk_len _ _;have HRx:=ak (fun w' i (hi:i<x.length) h1 h2=>seg_read (w':=w') (a:=0) (b:=i) hR (T:=L64.addT x y 0) (d:=0) (by rw[hTl];omega) (by rw[hTl];omega) (Nat.zero_le _) hx hp h1 h2 hpb i hi (fun _=>by omega));have HRy:=ak (fun w' i (hi:i<x.length) h1 h2=>seg_read (w':=w') (a:=0) (b:=i) hR (T:=L64.addT x y 0) (d:=0) (by rw[hTl];omega) (by rw[hTl];omega) (Nat.zero_le _) hy hq h1 h2 hqb i (by omega) (fun _=>by omega));have HSt:=ak (fun i (hi:i<x.length)=>L64.seg_up (L:=L) (d:=0) (a:=0) (T:=L64.addT x y 0) (b:=i) (by rw[hTl];omega) (by rw[hTl];omega) (Nat.zero_le _) (L64.mk_get _ hi));have HLn:=ak (fun i (hi:i≤x.length)=>L64.seg_len (L:=L) (d:=0) (T:=L64.addT x y 0) (a:=0) (b:=i) (by rw[hTl];omega) (by rw[hTl];omega) (Nat.zero_le _));have HK:=ak (L64.addK_le hok hok2 (c:=0) (by omega));have HX:=ak hok;have HY:=ak hok2;obtain⟨pb,po,ps⟩:=p;obtain⟨qb,qo,qs⟩:=q;obtain⟨hps,hxc⟩:=hx;obtain⟨hqs,hyc⟩:=hy;simp only at hps hqs;subst hps hqs;have HR:=ak (show RowAt w g (L64.seg L 0 (L64.addT x y 0) 0 0) by rw[L64.seg_nil];exact hR);have HD:=ak (And.intro hxL hL);have HO:=ak (Only.refl g w);generalize L64.addT x y 0=T at*;rw[hl];clear hTl hR hxL hL hpb hp hok hqb hq hok2 hxc hyc hl
 go_enter Tryz.func118,Tryz.ntmps118
 go_wp2
 go_loopg [6,25] (x.length) (fun kq v6 v25 w'=>∃(i:Nat),v6= .int .u64 (L64.addK x y 0 i:Int)∧v25= .int .i64 (i:Int)∧Aside0 (i+kq=x.length)∧Aside0 (RowAt w' g (L64.seg L 0 T 0 i))∧Aside0 (Only g w w'))
 case atStart=>exact⟨0,rfl,rfl,⟨Nat.zero_add _⟩,HR,HO⟩
 case round=>
  obtain⟨i,rfl,rfl,HI,HRi,HOi⟩:=hrel;clear HR HO;by_cases c:i<x.length
  ·cases gk with
   |zero=>exact absurd HI.out (by omega)
   |succ k1=>
    have hx1:=HRx.out _ i c HRi.out HOi.out;have hy1:=HRy.out _ i c HRi.out HOi.out;have hst:=HSt.out i c;rw[L64.getN HX.out i]at hx1;rw[L64.getN HY.out i]at hy1;have hkl:=HK.out i;have HN:=ak (show((((x.getD i 0).toNat+(y.getD i 0).toNat+L64.addK x y 0 i)/18446744073709551616:Nat):Int)=(L64.addK x y 0 (i+1):Int) by rw[L64.addK]);generalize (x.getD i 0).toNat=X at*;generalize (y.getD i 0).toNat=Y at*;generalize L64.addK x y 0 i=C at*;have HAd:=ak (fun w0=>addc_is X Y C hkl w0);generalize (((X+Y+C)%18446744073709551616:Nat):Int)=u at*;generalize (((X+Y+C)/18446744073709551616:Nat):Int)=v at*;have HST:=ak hst;have c0:decide ((i:Int)<(x.length:Int))=true:=decide_eq_true (by omega);have c1:decide (i<x.length)=true:=decide_eq_true c;clear hst hkl
    go_wp2_with fail
    go_region_held3 (fun w'=>w'.cell? ⟨pb,po+i,none⟩=some (.int .u64 (X:Int))∧w'.cell? ⟨qb,qo+i,none⟩=some (.int .u64 (Y:Int))) (first|exact⟨hx1,hy1⟩|go_keep|(refine keepT hb4 ?_;assumption))
     (first|(go_at_call 119;refine(HAd.out _).mono ?_;rintro e4 w4 ⟨rfl,hb4⟩;have HR2:=ak (HRi.out.drew.below hb4);have HO2:=ak (HOi.out.drew.below' hb4)))
    try clear hb4
    clear HAd hx1 hy1 HRi HOi;have hr:=HR2.out.cell i (by rw[HLn.out i (by omega)];have:=HD.out;omega);have hz:=blk_frozen HR2.out i
    go_wp2_with fail
    go_roundg k1
    case measure=>omega
    case rel=>exact⟨i+1,(by rw[HN.out]),(by first|rfl|(rw[w64_succ i (by have:=HD.out;omega)])),⟨by have:=HI.out;omega⟩,⟨by have h:=HST.out;rw[Nat.zero_add]at h;rw[←h];exact HR2.out.set i u⟩,⟨HO2.out.set i _⟩⟩
  ·have hi:i=x.length:=by have:=HI.out;omega
   subst hi
   go_wp2_with fail
   go_ret
   exact⟨rfl,HRi.out,HOi.out⟩
set_option maxRecDepth 100000 in
theorem subVV_g_is(g cz cx cy:Nat)(p q:Addr)(L x y:List Int)(w:World)(hR:RowAt w g L)(hxL:x.length≤L.length)(hL:L.length≤100000)(hl:y.length=x.length)
 (hx:Rd w p x) (hpb:p.block<w.heap.size) (hp:p.block=g→p.off+x.length≤L.length) (hok:L64.Ok x) (hy:Rd w q y) (hqb:q.block<w.heap.size) (hq:q.block=g→q.off+y.length≤L.length) (hok2:L64.Ok y):
 Calls Tryz.prog 115 #[.slice (some ⟨g,0,none⟩) x.length cz,.slice (some p) x.length cx,.slice (some q) y.length cy] w fun e w'=>e= .returned (.int .u64 (L64.subK x y 0 x.length:Int))∧RowAt w' g (L64.seg L 0 (L64.subT x y 0) 0 x.length)∧Only g w w':=by
 have hTl:(L64.subT x y 0).length=x.length:=L64.mk_len _ _;have HRx:=ak (fun w' i (hi:i<x.length) h1 h2=>seg_read (w':=w') (a:=0) (b:=i) hR (T:=L64.subT x y 0) (d:=0) (by rw[hTl];omega) (by rw[hTl];omega) (Nat.zero_le _) hx hp h1 h2 hpb i hi (fun _=>by omega));have HRy:=ak (fun w' i (hi:i<x.length) h1 h2=>seg_read (w':=w') (a:=0) (b:=i) hR (T:=L64.subT x y 0) (d:=0) (by rw[hTl];omega) (by rw[hTl];omega) (Nat.zero_le _) hy hq h1 h2 hqb i (by omega) (fun _=>by omega));have HSt:=ak (fun i (hi:i<x.length)=>L64.seg_up (L:=L) (d:=0) (a:=0) (T:=L64.subT x y 0) (b:=i) (by rw[hTl];omega) (by rw[hTl];omega) (Nat.zero_le _) (L64.mk_get _ hi));have HLn:=ak (fun i (hi:i≤x.length)=>L64.seg_len (L:=L) (d:=0) (T:=L64.subT x y 0) (a:=0) (b:=i) (by rw[hTl];omega) (by rw[hTl];omega) (Nat.zero_le _));have HK:=ak (L64.subK_le x y (c:=0) (by omega));have HX:=ak hok;have HY:=ak hok2;obtain⟨pb,po,ps⟩:=p;obtain⟨qb,qo,qs⟩:=q;obtain⟨hps,hxc⟩:=hx;obtain⟨hqs,hyc⟩:=hy;simp only at hps hqs;subst hps hqs;have HR:=ak (show RowAt w g (L64.seg L 0 (L64.subT x y 0) 0 0) by rw[L64.seg_nil];exact hR);have HD:=ak (And.intro hxL hL);have HO:=ak (Only.refl g w);generalize L64.subT x y 0=T at*;rw[hl];clear hTl hR hxL hL hpb hp hok hqb hq hok2 hxc hyc hl
 go_enter Tryz.func115,Tryz.ntmps115
 go_wp2
 go_loopg [6,25] (x.length) (fun kq v6 v25 w'=>∃(i:Nat),v6= .int .u64 (L64.subK x y 0 i:Int)∧v25= .int .i64 (i:Int)∧Aside0 (i+kq=x.length)∧Aside0 (RowAt w' g (L64.seg L 0 T 0 i))∧Aside0 (Only g w w'))
 case atStart=>exact⟨0,rfl,rfl,⟨Nat.zero_add _⟩,HR,HO⟩
 case round=>
  obtain⟨i,rfl,rfl,HI,HRi,HOi⟩:=hrel;clear HR HO;by_cases c:i<x.length
  ·cases gk with
   |zero=>exact absurd HI.out (by omega)
   |succ k1=>
    have hx1:=HRx.out _ i c HRi.out HOi.out;have hy1:=HRy.out _ i c HRi.out HOi.out;have hst:=HSt.out i c;rw[L64.getN HX.out i]at hx1;rw[L64.getN HY.out i]at hy1;have hkl:=HK.out i;have HN:=ak (show((if(x.getD i 0).toNat<(y.getD i 0).toNat+L64.subK x y 0 i then 1 else 0:Nat):Int)=(L64.subK x y 0 (i+1):Int) by rw[L64.subK]);generalize (x.getD i 0).toNat=X at*;generalize (y.getD i 0).toNat=Y at*;generalize L64.subK x y 0 i=C at*;have HAd:=ak (fun w0=>subc_is X Y C hkl w0);generalize (((X+18446744073709551616-Y-C)%18446744073709551616:Nat):Int)=u at*;generalize ((if X<Y+C then 1 else 0:Nat):Int)=v at*;have HST:=ak hst;have c0:decide ((i:Int)<(x.length:Int))=true:=decide_eq_true (by omega);have c1:decide (i<x.length)=true:=decide_eq_true c;clear hst hkl
    go_wp2_with fail
    go_region_held3 (fun w'=>w'.cell? ⟨pb,po+i,none⟩=some (.int .u64 (X:Int))∧w'.cell? ⟨qb,qo+i,none⟩=some (.int .u64 (Y:Int))) (first|exact⟨hx1,hy1⟩|go_keep|(refine keepT hb4 ?_;assumption))
     (first|(go_at_call 116;refine(HAd.out _).mono ?_;rintro e4 w4 ⟨rfl,hb4⟩;have HR2:=ak (HRi.out.drew.below hb4);have HO2:=ak (HOi.out.drew.below' hb4)))
    try clear hb4
    clear HAd hx1 hy1 HRi HOi;have hr:=HR2.out.cell i (by rw[HLn.out i (by omega)];have:=HD.out;omega);have hz:=blk_frozen HR2.out i
    go_wp2_with fail
    go_roundg k1
    case measure=>omega
    case rel=>exact⟨i+1,(by rw[HN.out]),(by first|rfl|(rw[w64_succ i (by have:=HD.out;omega)])),⟨by have:=HI.out;omega⟩,⟨by have h:=HST.out;rw[Nat.zero_add]at h;rw[←h];exact HR2.out.set i u⟩,⟨HO2.out.set i _⟩⟩
  ·have hi:i=x.length:=by have:=HI.out;omega
   subst hi
   go_wp2_with fail
   go_ret
   exact⟨rfl,HRi.out,HOi.out⟩
end Go.Proofs.YthlakefgobflnaaGreatDoor.G
