/- CONTRACTS: the product of two numbers without sign (nat.mul). CONTRACTS: numbers that are written in place: a target's row, nat.make of it. -/
import Derived.Test.YthlakefgobflnaaGreatDoorBaw
import Derived.Test.YthlakefgobflnaaGreatDoorBas
import Derived.Test.YthlakefgobflnaaGreatDoorBag
namespace Go.Proofs.YthlakefgobflnaaGreatDoor.G
open Go.RowKit Go.Proofs.YthlakefgobflnaaGreatDoorW.PrintWords Go.Proofs.YthlakefgobflnaaGreatDoorW.PrintLast Go.Proofs.YthlakefgobflnaaGreatDoorW.PrintMore Go.Proofs.YthlakefgobflnaaGreatDoor.S
set_option linter.unusedVariables false
set_option linter.unusedSimpArgs false
theorem u64s_zeros(c:Nat):(u64s (List.replicate c 0)).toArray=Array.replicate c (Value.int .u64 0):=by
 show(List.map _ _).toArray=_;rw[List.map_replicate,List.toArray_replicate]
set_option maxRecDepth 100000 in
theorem make_is(n:Nat)(h0:0<n)(hn:n≤1000)(w:World):
 Calls Tryz.prog 56 #[.slice none 0 0,.int .i64 (n:Int)] w fun e w'=>∃g c,e= .returned (.slice (some ⟨g,0,none⟩) n c)∧w.heap.size≤g∧n≤c∧c≤2000∧RowAt w' g (List.replicate c 0)∧Below w.heap.size w w':=by
 have hrow: ∀c,RowAt (w.alloc (.cells (Array.replicate c (.int .u64 0)) 81)) w.heap.size (List.replicate c 0):=fun c=>by
  unfold RowAt;rw[u64s_zeros];exact blk_new w _
 have HN:=ak hn;by_cases hn1:n=1
 ·subst hn1;have hmk:=fun w=>(show(Instr.makeSlice 53 (.int .i64 1) (.int .i64 1)).run Tryz.prog w= .ok (.slice (some ⟨w.heap.size,0,none⟩) 1 1) (w.alloc (.cells (Array.replicate 1 (.int .u64 0)) 81))from makeW_at 1 1 w (Nat.le_refl _) (by omega))
  have HR:=ak (hrow 1);clear hrow h0 hn
  go_enter Tryz.func56,Tryz.ntmps56
  go_wp2_with fail
  exact bodyPost_ret (v:=.slice (some ⟨w.heap.size,0,none⟩) 1 1) (by simp[results,Tryz.results56,go_sem]) rfl ⟨_,_,rfl,Nat.le_refl _,Nat.le_refl _,by omega,HR.out,below_alloc (Below.refl _ _) _⟩
 ·have hmk:=fun w=>makeW_at n (n+4) w (by omega) (by omega)
  have HR:=ak (hrow (n+4));have hw:wrap64 ((n:Int)+4)=((n+4:Nat):Int):=by unfold wrap64;omega
  rw[←hw]at hmk;have hn0: ¬n=0:=by omega
  have hn1':((n:Int)==1)=false:=by simp;omega
  have HW:=ak hw;clear hw hrow h0 hn
  go_enter Tryz.func56,Tryz.ntmps56
  go_wp2_with fail
  exact bodyPost_ret (v:=.slice (some ⟨w.heap.size,0,none⟩) n (n+4)) (by simp[results,Tryz.results56,go_sem]) rfl ⟨_,_,rfl,Nat.le_refl _,by omega,by have:=HN.out;omega,HR.out,below_alloc (Below.refl _ _) _⟩
set_option maxRecDepth 100000 in
theorem alias_nil(A:Option Addr)(n c:Nat)(w:World):Calls Tryz.prog 54 #[.slice none 0 0,.slice A n c] w fun e w'=>e= .returned (.bool false)∧Below w.heap.size w w':=by
 have HB:=ak (Below.refl w.heap.size w)
 go_enter Tryz.func54,Tryz.ntmps54
 go_wp2_with fail
 refine G.sta (fun _=>True) [] trivial (fun hHeld=>?_);refine pure_ (i:=0) (N:=some 5) (v:=?_) (a':=?_) #[true,false,false,false,false,false,false,false,false,false,false,false,false,false,false,false,false,false,false,false,false,false,false,false,false,false,false,false] rfl rfl (by kernel_rfl) (fun _ _ _ h=>h) (Or.inl ⟨by rfl,?_⟩) ?_ ?_
 rotate_left
 ·(intro w';go_simp;(try with_reducible rfl))
 rotate_left
 ·simp only[Act.put,List.setIfInBounds_toArray,List.set_cons_zero,List.set_cons_succ,i64_w,i32_w];rfl
 refine pure_ (i:=1) (N:=some 6) (v:=?_) (a':=?_) #[true,true,false,false,false,false,false,false,false,false,false,false,false,false,false,false,false,false,false,false,false,false,false,false,false,false,false,false] rfl rfl (by kernel_rfl) (fun _ _ _ h=>h) (Or.inl ⟨by rfl,?_⟩) ?_ ?_
 rotate_left
 ·(intro w';go_simp;(try with_reducible rfl))
 rotate_left
 ·simp only[Act.put,List.setIfInBounds_toArray,List.set_cons_zero,List.set_cons_succ,i64_w,i32_w];rfl
 refine pure_ (i:=2) (N:=some 7) (v:=?_) (a':=?_) #[true,true,true,false,false,false,false,false,false,false,false,false,false,false,false,false,false,false,false,false,false,false,false,false,false,false,false,false] rfl rfl (by kernel_rfl) (fun _ _ _ h=>h) (Or.inl ⟨by rfl,?_⟩) ?_ ?_
 rotate_left
 ·(intro w';go_simp;(try with_reducible rfl))
 rotate_left
 ·simp only[Act.put,List.setIfInBounds_toArray,List.set_cons_zero,List.set_cons_succ,i64_w,i32_w];rfl
 refine pure_ (i:=3) (N:=some 8) (v:=?_) (a':=?_) #[true,true,true,true,false,false,false,false,false,false,false,false,false,false,false,false,false,false,false,false,false,false,false,false,false,false,false,false] rfl rfl (by kernel_rfl) (fun _ _ _ h=>h) (Or.inl ⟨by rfl,?_⟩) ?_ ?_
 rotate_left
 ·(intro w';go_simp;(try with_reducible rfl))
 rotate_left
 ·simp only[Act.put,List.setIfInBounds_toArray,List.set_cons_zero,List.set_cons_succ,i64_w,i32_w];rfl
 refine pure_ (i:=4) (N:=some 9) (v:=undef) (a':=?_) #[true,true,true,true,true,false,false,false,false,false,false,false,false,false,false,false,false,false,false,false,false,false,false,false,false,false,false,false] rfl rfl (by kernel_rfl) (fun _ _ _ h=>h) (Or.inr ⟨by rfl,rfl⟩) ?_ ?_
 rotate_left
 ·simp only[Act.put,List.setIfInBounds_toArray,List.set_cons_zero,List.set_cons_succ,i64_w,i32_w];rfl
 refine pure_ (i:=5) (N:=some 10) (v:=undef) (a':=?_) #[true,true,true,true,true,true,false,false,false,false,false,false,false,false,false,false,false,false,false,false,false,false,false,false,false,false,false,false] rfl rfl (by kernel_rfl) (fun _ _ _ h=>h) (Or.inr ⟨by rfl,rfl⟩) ?_ ?_
 rotate_left
 ·simp only[Act.put,List.setIfInBounds_toArray,List.set_cons_zero,List.set_cons_succ,i64_w,i32_w];rfl
 refine pure_ (i:=6) (N:=some 11) (v:=undef) (a':=?_) #[true,true,true,true,true,true,true,false,false,false,false,false,false,false,false,false,false,false,false,false,false,false,false,false,false,false,false,false] rfl rfl (by kernel_rfl) (fun _ _ _ h=>h) (Or.inr ⟨by rfl,rfl⟩) ?_ ?_
 rotate_left
 ·simp only[Act.put,List.setIfInBounds_toArray,List.set_cons_zero,List.set_cons_succ,i64_w,i32_w];rfl
 refine pure_ (i:=7) (N:=some 12) (v:=?_) (a':=?_) #[true,true,true,true,true,true,true,true,false,false,false,false,false,false,false,false,false,false,false,false,false,false,false,false,false,false,false,false] rfl rfl (by kernel_rfl) (fun _ _ _ h=>h) (Or.inl ⟨by rfl,?_⟩) ?_ ?_
 rotate_left
 ·(intro w';go_simp;(try with_reducible rfl))
 rotate_left
 ·simp only[Act.put,List.setIfInBounds_toArray,List.set_cons_zero,List.set_cons_succ,i64_w,i32_w];rfl
 refine pure_ (i:=8) (N:=some 13) (v:=?_) (a':=?_) #[true,true,true,true,true,true,true,true,true,false,false,false,false,false,false,false,false,false,false,false,false,false,false,false,false,false,false,false] rfl rfl (by kernel_rfl) (fun _ _ _ h=>h) (Or.inl ⟨by rfl,?_⟩) ?_ ?_
 rotate_left
 ·(intro w';go_simp;(try with_reducible rfl))
 rotate_left
 ·simp only[Act.put,List.setIfInBounds_toArray,List.set_cons_zero,List.set_cons_succ,i64_w,i32_w];rfl
 refine pure_ (i:=9) (N:=some 14) (v:=undef) (a':=?_) #[true,true,true,true,true,true,true,true,true,true,false,false,false,false,false,false,false,false,false,false,false,false,false,false,false,false,false,false] rfl rfl (by kernel_rfl) (fun _ _ _ h=>h) (Or.inr ⟨by rfl,rfl⟩) ?_ ?_
 rotate_left
 ·simp only[Act.put,List.setIfInBounds_toArray,List.set_cons_zero,List.set_cons_succ,i64_w,i32_w];rfl
 refine pure_ (i:=10) (N:=some 15) (v:=undef) (a':=?_) #[true,true,true,true,true,true,true,true,true,true,true,false,false,false,false,false,false,false,false,false,false,false,false,false,false,false,false,false] rfl rfl (by kernel_rfl) (fun _ _ _ h=>h) (Or.inr ⟨by rfl,rfl⟩) ?_ ?_
 rotate_left
 ·simp only[Act.put,List.setIfInBounds_toArray,List.set_cons_zero,List.set_cons_succ,i64_w,i32_w];rfl
 refine pure_ (i:=11) (N:=some 16) (v:=undef) (a':=?_) #[true,true,true,true,true,true,true,true,true,true,true,true,false,false,false,false,false,false,false,false,false,false,false,false,false,false,false,false] rfl rfl (by kernel_rfl) (fun _ _ _ h=>h) (Or.inr ⟨by rfl,rfl⟩) ?_ ?_
 rotate_left
 ·simp only[Act.put,List.setIfInBounds_toArray,List.set_cons_zero,List.set_cons_succ,i64_w,i32_w];rfl
 refine pure_ (i:=12) (N:=some 17) (v:=undef) (a':=?_) #[true,true,true,true,true,true,true,true,true,true,true,true,true,false,false,false,false,false,false,false,false,false,false,false,false,false,false,false] rfl rfl (by kernel_rfl) (fun _ _ _ h=>h) (Or.inr ⟨by rfl,rfl⟩) ?_ ?_
 rotate_left
 ·simp only[Act.put,List.setIfInBounds_toArray,List.set_cons_zero,List.set_cons_succ,i64_w,i32_w];rfl
 refine pure_ (i:=13) (N:=some 18) (v:=undef) (a':=?_) #[true,true,true,true,true,true,true,true,true,true,true,true,true,true,false,false,false,false,false,false,false,false,false,false,false,false,false,false] rfl rfl (by kernel_rfl) (fun _ _ _ h=>h) (Or.inr ⟨by rfl,rfl⟩) ?_ ?_
 rotate_left
 ·simp only[Act.put,List.setIfInBounds_toArray,List.set_cons_zero,List.set_cons_succ,i64_w,i32_w];rfl
 refine pure_ (i:=14) (N:=some 19) (v:=undef) (a':=?_) #[true,true,true,true,true,true,true,true,true,true,true,true,true,true,true,false,false,false,false,false,false,false,false,false,false,false,false,false] rfl rfl (by kernel_rfl) (fun _ _ _ h=>h) (Or.inr ⟨by rfl,rfl⟩) ?_ ?_
 rotate_left
 ·simp only[Act.put,List.setIfInBounds_toArray,List.set_cons_zero,List.set_cons_succ,i64_w,i32_w];rfl
 refine pure_ (i:=15) (N:=some 20) (v:=undef) (a':=?_) #[true,true,true,true,true,true,true,true,true,true,true,true,true,true,true,true,false,false,false,false,false,false,false,false,false,false,false,false] rfl rfl (by kernel_rfl) (fun _ _ _ h=>h) (Or.inr ⟨by rfl,rfl⟩) ?_ ?_
 rotate_left
 ·simp only[Act.put,List.setIfInBounds_toArray,List.set_cons_zero,List.set_cons_succ,i64_w,i32_w];rfl
 refine pure_ (i:=16) (N:=some 21) (v:=undef) (a':=?_) #[true,true,true,true,true,true,true,true,true,true,true,true,true,true,true,true,true,false,false,false,false,false,false,false,false,false,false,false] rfl rfl (by kernel_rfl) (fun _ _ _ h=>h) (Or.inr ⟨by rfl,rfl⟩) ?_ ?_
 rotate_left
 ·simp only[Act.put,List.setIfInBounds_toArray,List.set_cons_zero,List.set_cons_succ,i64_w,i32_w];rfl
 refine pure_ (i:=17) (N:=some 22) (v:=undef) (a':=?_) #[true,true,true,true,true,true,true,true,true,true,true,true,true,true,true,true,true,true,false,false,false,false,false,false,false,false,false,false] rfl rfl (by kernel_rfl) (fun _ _ _ h=>h) (Or.inr ⟨by rfl,rfl⟩) ?_ ?_
 rotate_left
 ·simp only[Act.put,List.setIfInBounds_toArray,List.set_cons_zero,List.set_cons_succ,i64_w,i32_w];rfl
 refine pure_ (i:=18) (N:=some 23) (v:=undef) (a':=?_) #[true,true,true,true,true,true,true,true,true,true,true,true,true,true,true,true,true,true,true,false,false,false,false,false,false,false,false,false] rfl rfl (by kernel_rfl) (fun _ _ _ h=>h) (Or.inr ⟨by rfl,rfl⟩) ?_ ?_
 rotate_left
 ·simp only[Act.put,List.setIfInBounds_toArray,List.set_cons_zero,List.set_cons_succ,i64_w,i32_w];rfl
 refine pure_ (i:=19) (N:=some 24) (v:=undef) (a':=?_) #[true,true,true,true,true,true,true,true,true,true,true,true,true,true,true,true,true,true,true,true,false,false,false,false,false,false,false,false] rfl rfl (by kernel_rfl) (fun _ _ _ h=>h) (Or.inr ⟨by rfl,rfl⟩) ?_ ?_
 rotate_left
 ·simp only[Act.put,List.setIfInBounds_toArray,List.set_cons_zero,List.set_cons_succ,i64_w,i32_w];rfl
 refine pure_ (i:=20) (N:=some 25) (v:=undef) (a':=?_) #[true,true,true,true,true,true,true,true,true,true,true,true,true,true,true,true,true,true,true,true,true,false,false,false,false,false,false,false] rfl rfl (by kernel_rfl) (fun _ _ _ h=>h) (Or.inr ⟨by rfl,rfl⟩) ?_ ?_
 rotate_left
 ·simp only[Act.put,List.setIfInBounds_toArray,List.set_cons_zero,List.set_cons_succ,i64_w,i32_w];rfl
 refine pure_ (i:=21) (N:=some 26) (v:=undef) (a':=?_) #[true,true,true,true,true,true,true,true,true,true,true,true,true,true,true,true,true,true,true,true,true,true,false,false,false,false,false,false] rfl rfl (by kernel_rfl) (fun _ _ _ h=>h) (Or.inr ⟨by rfl,rfl⟩) ?_ ?_
 rotate_left
 ·simp only[Act.put,List.setIfInBounds_toArray,List.set_cons_zero,List.set_cons_succ,i64_w,i32_w];rfl
 refine pure_ (i:=22) (N:=some 27) (v:=undef) (a':=?_) #[true,true,true,true,true,true,true,true,true,true,true,true,true,true,true,true,true,true,true,true,true,true,true,false,false,false,false,false] rfl rfl (by kernel_rfl) (fun _ _ _ h=>h) (Or.inr ⟨by rfl,rfl⟩) ?_ ?_
 rotate_left
 ·simp only[Act.put,List.setIfInBounds_toArray,List.set_cons_zero,List.set_cons_succ,i64_w,i32_w];rfl
 refine pure_ (i:=23) (N:=some 28) (v:=undef) (a':=?_) #[true,true,true,true,true,true,true,true,true,true,true,true,true,true,true,true,true,true,true,true,true,true,true,true,false,false,false,false] rfl rfl (by kernel_rfl) (fun _ _ _ h=>h) (Or.inr ⟨by rfl,rfl⟩) ?_ ?_
 rotate_left
 ·simp only[Act.put,List.setIfInBounds_toArray,List.set_cons_zero,List.set_cons_succ,i64_w,i32_w];rfl
 refine pure_ (i:=24) (N:=some 29) (v:=undef) (a':=?_) #[true,true,true,true,true,true,true,true,true,true,true,true,true,true,true,true,true,true,true,true,true,true,true,true,true,false,false,false] rfl rfl (by kernel_rfl) (fun _ _ _ h=>h) (Or.inr ⟨by rfl,rfl⟩) ?_ ?_
 rotate_left
 ·simp only[Act.put,List.setIfInBounds_toArray,List.set_cons_zero,List.set_cons_succ,i64_w,i32_w];rfl
 refine pure_ (i:=25) (N:=some 30) (v:=undef) (a':=?_) #[true,true,true,true,true,true,true,true,true,true,true,true,true,true,true,true,true,true,true,true,true,true,true,true,true,true,false,false] rfl rfl (by kernel_rfl) (fun _ _ _ h=>h) (Or.inr ⟨by rfl,rfl⟩) ?_ ?_
 rotate_left
 ·simp only[Act.put,List.setIfInBounds_toArray,List.set_cons_zero,List.set_cons_succ,i64_w,i32_w];rfl
 refine pure_ (i:=26) (N:=some 31) (v:=?_) (a':=?_) #[true,true,true,true,true,true,true,true,true,true,true,true,true,true,true,true,true,true,true,true,true,true,true,true,true,true,true,false] rfl rfl (by kernel_rfl) (fun _ _ _ h=>h) (Or.inl ⟨by rfl,?_⟩) ?_ ?_
 rotate_left
 ·(intro w';go_simp;(try with_reducible rfl))
 rotate_left
 ·simp only[Act.put,List.setIfInBounds_toArray,List.set_cons_zero,List.set_cons_succ,i64_w,i32_w];rfl
 refine pure_ (i:=27) (N:=some 4) (v:=?_) (a':=?_) #[true,true,true,true,true,true,true,true,true,true,true,true,true,true,true,true,true,true,true,true,true,true,true,true,true,true,true,true] rfl rfl (by kernel_rfl) (fun _ _ _ h=>h) (Or.inl ⟨by rfl,?_⟩) ?_ ?_
 rotate_left
 ·(intro w';go_simp;(try with_reducible rfl))
 rotate_left
 ·simp only[Act.put,List.setIfInBounds_toArray,List.set_cons_zero,List.set_cons_succ,i64_w,i32_w];rfl
 refine done_ (by kernel_rfl) ?_
 go_wp2_with fail
 go_ret
 exact⟨rfl,below_drew HB.out⟩
end Go.Proofs.YthlakefgobflnaaGreatDoor.G
namespace Go.Proofs.YthlakefgobflnaaGreatDoor.G
open Go.RowKit Go.Proofs.YthlakefgobflnaaGreatDoorW.PrintWords Go.Proofs.YthlakefgobflnaaGreatDoorW.PrintLast Go.Proofs.YthlakefgobflnaaGreatDoorW.PrintMore Go.Proofs.YthlakefgobflnaaGreatDoor.S
set_option linter.unusedVariables false
set_option linter.unusedSimpArgs false
def Dst(w:World)(z:Value)(r:Option Nat):Prop:=(z= .slice none 0 0∧r=none)∨∃g n L,z= .slice (some ⟨g,0,none⟩) n L.length∧RowAt w g L∧n≤L.length∧L.length≤100000∧L64.Ok L∧r=some g
def Made(w w':World)(r:Option Nat)(g n:Nat)(L:List Int):Prop:=RowAt w' g L∧n≤L.length∧L.length≤100000∧L64.Ok L∧(r=some g∨w.heap.size≤g)
theorem ok_zeros(c:Nat):L64.Ok (List.replicate c 0):=fun x hx=>by
 obtain rfl:=(List.mem_replicate.1 hx).2;omega
set_option maxRecDepth 100000 in
theorem makeD_is(z:Value)(r:Option Nat)(n:Nat)(w:World)(hz:Dst w z r)(h0:0<n)(hn:n≤1000):
 Calls Tryz.prog 56 #[z,.int .i64 (n:Int)] w fun e w'=>∃g L,e= .returned (.slice (some ⟨g,0,none⟩) n L.length)∧Made w w' r g n L∧Below w.heap.size w w':=by
 rcases hz with⟨rfl,rfl⟩|⟨g,m,L,rfl,hR,hm,hL,hok,rfl⟩
 ·refine(make_is n h0 hn w).mono ?_;rintro e w' ⟨g,c,rfl,hg,hc,hc2,hR,hb⟩;exact⟨g,List.replicate c 0,by rw[List.length_replicate],⟨hR,by rw[List.length_replicate];exact hc,by rw[List.length_replicate];omega,ok_zeros c,.inr hg⟩,hb⟩
 ·by_cases hnc:n≤L.length
  ·have HF:=ak (And.intro hR (And.intro hnc (And.intro hL hok)));have c0:decide ((n:Int)≤(L.length:Int))=true:=decide_eq_true (by omega);have c1:decide (n≤L.length)=true:=decide_eq_true hnc;have h2:(0:Int)≤(n:Int):=by omega
   have h3:(n:Int)≤(L.length:Int):=by omega
   clear hR hm hL hok h0 hn hnc
   go_enter Tryz.func56,Tryz.ntmps56
   go_wp2_with fail
   go_ret
   exact⟨g,L,rfl,⟨HF.out.1,HF.out.2.1,HF.out.2.2.1,HF.out.2.2.2,.inl rfl⟩,Below.refl _ _⟩
  ·have hrow: ∀c,RowAt (w.alloc (.cells (Array.replicate c (.int .u64 0)) 81)) w.heap.size (List.replicate c 0):=fun c=>by
    unfold RowAt;rw[u64s_zeros];exact blk_new w _
   have c0:decide ((n:Int)≤(L.length:Int))=false:=decide_eq_false (by omega);have c1:decide (n≤L.length)=false:=decide_eq_false hnc;have HN:=ak hn;by_cases hn1:n=1
   ·subst hn1;have hmk:=fun w=>(show(Instr.makeSlice 53 (.int .i64 1) (.int .i64 1)).run Tryz.prog w= .ok (.slice (some ⟨w.heap.size,0,none⟩) 1 1) (w.alloc (.cells (Array.replicate 1 (.int .u64 0)) 81))from makeW_at 1 1 w (Nat.le_refl _) (by omega))
    have HR:=ak (hrow 1);have hl0:L.length=0:=by omega
    clear hrow h0 hn hR hm hL hok hnc
    go_enter Tryz.func56,Tryz.ntmps56
    go_wp2_with fail
    exact bodyPost_ret (v:=.slice (some ⟨w.heap.size,0,none⟩) 1 1) (by simp[results,Tryz.results56,go_sem]) rfl ⟨w.heap.size,List.replicate 1 0,rfl,⟨HR.out,Nat.le_refl _,by decide,ok_zeros 1,.inr (Nat.le_refl _)⟩,below_alloc (Below.refl _ _) _⟩
   ·have hmk:=fun w=>makeW_at n (n+4) w (by omega) (by omega)
    have HR:=ak (hrow (n+4));have hw:wrap64 ((n:Int)+4)=((n+4:Nat):Int):=by unfold wrap64;omega
    rw[←hw]at hmk;have hn0: ¬n=0:=by omega
    have hn1':((n:Int)==1)=false:=by simp;omega
    have HW:=ak hw;clear hw hrow h0 hn hR hm hL hok hnc
    go_enter Tryz.func56,Tryz.ntmps56
    go_wp2_with fail
    exact bodyPost_ret (v:=.slice (some ⟨w.heap.size,0,none⟩) n (n+4)) (by simp[results,Tryz.results56,go_sem]) rfl ⟨w.heap.size,List.replicate (n+4) 0,by rw[List.length_replicate],⟨HR.out,by rw[List.length_replicate];omega,by rw[List.length_replicate];have:=HN.out;omega,ok_zeros _,.inr (Nat.le_refl _)⟩,below_alloc (Below.refl _ _) _⟩
end Go.Proofs.YthlakefgobflnaaGreatDoor.G
