/- THE REFERENCE's LOGARITHM BY WORTH: LnSpan for numbers from 1 to 2. -/
import Derived.Test.YthlakefgobflnaaGreatDoorBan
namespace Go.Proofs.YthlakefgobflnaaGreatDoor.R
open Go.Proofs.YthlakefgobflnaaGreatDoor.G Go.RowKit Go.Proofs.YthlakefgobflnaaGreatDoorW.PrintWords Go.Proofs.YthlakefgobflnaaGreatDoorW.PrintLast Go.Proofs.YthlakefgobflnaaGreatDoorW.PrintMore Go.Proofs.YthlakefgobflnaaGreatDoor.S
set_option linter.unusedVariables false
set_option linter.unusedSimpArgs false
theorem first_zero(f:Nat→Nat)(N:Nat)(h:f N=0): ∃m,m≤N∧f m=0∧∀k,k<m→f k≠0:=by
 induction N with
 |zero=>exact⟨0,Nat.le_refl _,h,fun k hk=>absurd hk (by omega)⟩
 |succ N ih=>
  by_cases e:f N=0
  ·obtain⟨m,h1,h2,h3⟩:=ih e;exact⟨m,by omega,h2,h3⟩
  ·by_cases e2: ∃m,m≤N∧f m=0
   ·obtain⟨m0,h4,h5⟩:=e2;by_cases e3:m0=N
    ·subst e3;exact absurd h5 e
    ·clear ih;induction m0 using Nat.strongRecOn with
     |_ m0 ih2=>
      by_cases e4: ∃k,k<m0∧f k=0
      ·obtain⟨k,h6,h7⟩:=e4;exact ih2 k h6 (by omega) h7 (by omega)
      ·exact⟨m0,by omega,h5,fun k hk hz=>e4 ⟨k,hk,hz⟩⟩
   ·exact⟨N+1,Nat.le_refl _,h,fun k hk hz=>e2 ⟨k,by omega,hz⟩⟩
theorem dpow_end(pl p q:Nat)(hq:0<q)(h3:3*p≤q)(hpl:pl≤300): ∃N,N≤1000∧An.dpow (10^pl) p q N=0∧∀k,k<N→An.dpow (10^pl) p q k≠0:=by
 have h1:=An.dpow_bound (10^pl) p q hq h3 (2*pl+1);have h2:10^pl<9^(2*pl+1):=by
  rw[Nat.pow_succ,Nat.pow_mul];have:=Nat.pow_le_pow_left (show 10≤9^2 by decide) pl;have:0<10^pl:=Nat.pow_pos (by omega);omega
 have h4:An.dpow (10^pl) p q (2*pl+1)=0:=by
  rcases Nat.eq_zero_or_pos (An.dpow (10^pl) p q (2*pl+1))with h|h
  ·exact h
  ·have:=Nat.le_mul_of_pos_left (9^(2*pl+1)) h;omega
 obtain⟨m,a,b,c⟩:=first_zero _ _ h4;exact⟨m,by omega,b,c⟩
theorem cast_sub{a b:Nat}(h:b≤a):((a-b:Nat):Rat)=(a:Rat)-(b:Rat):=by
 have:((a-b:Nat):Rat)+(b:Rat)=(a:Rat):=by exact_mod_cast Nat.sub_add_cancel h
 grind
open An in
theorem span_a(n D P N:Nat)(hD:0<D)(hP:0<P)(h1:D≤n)(h2:n<2*D)(h0:dpow P (n-D) (n+D) N=0):
 UB (((2*dsum P (n-D) (n+D) N+(5*N+10):Nat):Rat)/(P:Rat)) ((n:Rat)/(D:Rat))∧UB (-((2*dsum P (n-D) (n+D) N:Nat):Rat)/(P:Rat)) ((D:Rat)/(n:Rat)):=by
 obtain⟨c1,c2⟩:=dbl_cert P (n-D) (n+D) N hP (by omega) (by omega) h0;have hn:=npos (show 0<n by omega);have hd:=npos hD;have e1:(((n+D:Nat):Rat)+((n-D:Nat):Rat))/(((n+D:Nat):Rat)-((n-D:Nat):Rat))=(n:Rat)/(D:Rat):=by
  rw[cast_sub h1,Rat.natCast_add]
  grind
 have e2:(((n+D:Nat):Rat)-((n-D:Nat):Rat))/(((n+D:Nat):Rat)+((n-D:Nat):Rat))=(D:Rat)/(n:Rat):=by
  rw[cast_sub h1,Rat.natCast_add]
  grind
 rw[e1]at c1;rw[e2]at c2;refine⟨?_,?_⟩
 ·rw[show((2*dsum P (n-D) (n+D) N+(5*N+10):Nat):Rat)=2*(dsum P (n-D) (n+D) N:Rat)+5*(N:Rat)+10 by push_cast;grind];exact c1
 ·rw[show((2*dsum P (n-D) (n+D) N:Nat):Rat)=2*(dsum P (n-D) (n+D) N:Rat) by push_cast;rfl];exact c2
open An in
theorem span_b(n D P N N2:Nat)(hD:0<D)(hP:0<P)(h1:D≤n)(h2:n<2*D)(h0:dpow P (2*D-n) (2*D+n) N=0)(h0':dpow P 1 3 N2=0):
 UB (((-((2*dsum P (2*D-n) (2*D+n) N:Nat):Int)+((2*dsum P 1 3 N2+(5*N2+10):Nat):Int):Int):Rat)/(P:Rat)) ((n:Rat)/(D:Rat))∧
 UB (-((-((2*dsum P (2*D-n) (2*D+n) N+(5*N+10):Nat):Int)+((2*dsum P 1 3 N2:Nat):Int):Int):Rat)/(P:Rat)) ((D:Rat)/(n:Rat)):=by
 obtain⟨c1,c2⟩:=dbl_cert P (2*D-n) (2*D+n) N hP (by omega) (by omega) h0;obtain⟨d1,d2⟩:=dbl_cert P 1 3 N2 hP (by omega) (by omega) h0';have hn:=npos (show 0<n by omega);have hd:=npos hD;have hp:=npos hP;have e0:((2*D-n:Nat):Rat)=2*(D:Rat)-(n:Rat):=by rw[cast_sub (by omega),Rat.natCast_mul];rfl
 have e3:((2*D+n:Nat):Rat)=2*(D:Rat)+(n:Rat):=by rw[Rat.natCast_add,Rat.natCast_mul];rfl
 rw[e0,e3]at c1 c2;have hdn:0<(D:Rat)/(n:Rat):=div_pos hd hn;have hnd:0<(n:Rat)/(D:Rat):=div_pos hn hd;have f1:(2*(D:Rat)+(n:Rat)+(2*(D:Rat)-(n:Rat)))/(2*(D:Rat)+(n:Rat)-(2*(D:Rat)-(n:Rat)))=2*((D:Rat)/(n:Rat)):=by grind
 have f2:(2*(D:Rat)+(n:Rat)-(2*(D:Rat)-(n:Rat)))/(2*(D:Rat)+(n:Rat)+(2*(D:Rat)-(n:Rat)))=1/2*((n:Rat)/(D:Rat)):=by grind
 have f3:(((3:Nat):Rat)+((1:Nat):Rat))/(((3:Nat):Rat)-((1:Nat):Rat))=2:=by decide+kernel
 have f4:(((3:Nat):Rat)-((1:Nat):Rat))/(((3:Nat):Rat)+((1:Nat):Rat))=1/2:=by decide+kernel
 rw[f1]at c1;rw[f2]at c2;rw[f3]at d1;rw[f4]at d2;have k1:=c2.add d1 (by grind) (by decide+kernel);have k2:=c1.add d2 (by grind) (by decide+kernel);refine⟨k1.mono ?_ ?_,k2.mono ?_ ?_⟩
 ·simp only[Rat.intCast_add,Rat.intCast_neg,Rat.intCast_natCast,Rat.natCast_add,Rat.natCast_mul]
  grind
 ·grind
 ·simp only[Rat.intCast_add,Rat.intCast_neg,Rat.intCast_natCast,Rat.natCast_add,Rat.natCast_mul]
  grind
 ·grind
end Go.Proofs.YthlakefgobflnaaGreatDoor.R
