import PyProof.Rows.All
import Wide.All
import OpenK.AllK
import Wide.FinOn
import KE.IntBitsLaws
import Lean
import PySem.Challenge.RW_wk0052_01
set_option Elab.async false
set_option linter.all false
set_option maxRecDepth 1000000
set_option maxHeartbeats 8000000
set_option exponentiation.threshold 200000
section
open PySem PySem.W PyProof.Rows
namespace Mine
def viewQ:Program:=view PySem.Challenge.pw_wk0052_01 [0,1,3,4,5,8,9,10,11,12,13,14,15,16,18,19,21,22,23,25,27,28,29,30,31,32,33,34,35]
def looseQ:List Str:=["compute_powers","tspecials","_name_disallowed_re","_value_disallowed_re","_formatparam"]
def xtQ(s:Shared):Bool:=xlAt viewQ [] s&&recOk (RowW.records PySem.Challenge.rw_wk0052_01.row.toRowW) s
theorem left_two{p q:Program}{Z:List Str}{U:Shared->Bool}{X:Type}{W:Shared->X}{V:World->X}{N:Nat}(R:∀w,(openEnds treeTable p w N).map (fun s=>openSeen q Z (importedModules p.main.body) U true s)=some (openGood q Z))(S:∀w,(openEnds treeTable p w N).map W=some (V w)):LeftO p q Z U W V N:=fun w=>by
 obtain⟨s,T,Q⟩:=Option.map_eq_some_iff.mp (R w);have Y:=S w;rw [T]at Y ⊢
 rw [Option.map_some,Option.some.injEq]at Y
 rw [Option.map_some,Q,Y]
end Mine
local macro_rules | `(tactic| o_law) => `(tactic| refine holds_law (l := PySem.Challenge.rw_wk0052_01) (by decide +kernel) fun said => ?_)
open PySem.W.Fast in
theorem Mine.quick_ends{w:World}{N:Nat}{X:Type}{f:Shared->X}{x:X}(h:((((tw10274390034422433532 tw14364793385576792824 (opening PySem.Challenge.pw_wk0052_01) w N (tw1435165496053646825 (opening PySem.Challenge.pw_wk0052_01)).1 (tw1435165496053646825 (opening PySem.Challenge.pw_wk0052_01)).2).bind (tw14289696077712309145 PySem.Challenge.pw_wk0052_01)).bind fun Z=>match Z.heap.isNs mainGlobals&&Z.gens.size==0 with
  |true=>(tw14082659384304107361 tw14364793385576792824 PySem.Challenge.pw_wk0052_01 w Z.heap.objs.size (Z.heap.nsMap mainGlobals "__annotations__") N Z (topStub PySem.Challenge.pw_wk0052_01)).bind fun Y=>match staticsOk (importedModules PySem.Challenge.pw_wk0052_01.main.body) Z.heap Y.heap&&namesBound PySem.Challenge.pw_wk0052_01 Y.heap&&gensDone Y&&laidKept Z.heap Y.heap with
   |true=>some Y
   |false=>none
  |false=>none).map f)=some x):(openEnds treeTable PySem.Challenge.pw_wk0052_01 w N).map f=some x:=by
 unfold openEnds fencedOpening topFrom;rw [te14082659384304107361,te14364793385576792824,te10274390034422433532,te14289696077712309145,te1435165496053646825];exact h
open PySem.W.Fast in
theorem Mine.quick_seen{w:World}:(openEnds treeTable PySem.Challenge.pw_wk0052_01 w 3762).map (fun s=>openSeen Mine.viewQ Mine.looseQ (importedModules PySem.Challenge.pw_wk0052_01.main.body) Mine.xtQ true s)=some (openGood Mine.viewQ Mine.looseQ):=by
 rw [te4187177175401517315];exact Mine.quick_ends (by kernel_rfl)
local macro_rules | `(tactic| o_head $H) => `(tactic| (
  refine holds_open (q := Mine.viewQ) (loose := Mine.looseQ) (Xt := Mine.xtQ) (XP := XL Mine.viewQ []) (Yf := Hook.obs $H) (Ya := Hook.val $H) (YP := Hook.says $H) (N := 3762) ?hl (Hook.of $H) (Hook.keeps $H) (fun s e => xl_of s (Bool.and_eq_true_iff.mp e).1) XL.keeps (by rfl) (by rfl) (by rfl) (fun s e => recFacts_of (Bool.and_eq_true_iff.mp e).2) (by rfl) (by first | assumption | decide +kernel) (by decide +kernel) ⟨rfl, rfl, rfl, rfl, rfl, by decide +kernel⟩ ?hw ?hc
  (case hl => exact Mine.left_two (fun w => Mine.quick_seen) (fun w => Mine.quick_ends (by kernel_rfl)))))
namespace Mine
set_option compiler.extract_closed false in
open_top hd for PySem.Challenge.rw_wk0052_01
end Mine
end
set_option genSizeOf false
set_option genInjectivity false
namespace Mine
inductive L|v(i:Nat)|n(k:Nat)|a(x y:L)|m(k:Nat)(x:L)|w(i:Nat)|s(x y:L)|g(x:L)|c(x:L)
noncomputable def L.nat(c:List Nat):L->Nat
 |.v i=>c.getD i 0
 |.n k=>k
 |.a x y=>x.nat c+y.nat c
 |.m k x=>k*x.nat c
 |_=>0
noncomputable def L.int(c:List Nat)(d:List Int):L->Int
 |.a x y=>x.int c d+y.int c d
 |.m k x=>(k:Int)*x.int c d
 |.w i=>d.getD i 0
 |.s x y=>x.int c d-y.int c d
 |.g x=>- x.int c d
 |.c x=>(x.nat c:Int)
 |_=>0
noncomputable def Po:List Int->List Int->List Int
 |[],q=>q
 |x::p,q=>(x+q.headD 0)::Po p q.tail
noncomputable def St(k:Int)(p:List Int):List Int:=p.map (k*·)
noncomputable def one(i:Nat):List Int:=List.replicate i 0++[1]
noncomputable def L.pn:L->List Int
 |.v i=>one (i+1)
 |.n k=>[(k:Int)]
 |.a x y=>Po x.pn y.pn
 |.m k x=>St k x.pn
 |_=>[]
abbrev P2:=List Int×List Int
noncomputable def mu(k:Int)(p:P2):P2:=(St k p.1,St k p.2)
noncomputable def kb(p q:P2):P2:=(Po p.1 q.1,Po p.2 q.2)
noncomputable def L.pz:L->P2
 |.a x y=>kb x.pz y.pz
 |.m k x=>mu k x.pz
 |.w i=>([],one i)
 |.s x y=>kb x.pz (mu (-1) y.pz)
 |.g x=>mu (-1) x.pz
 |.c x=>(x.pn,[])
 |_=>([],[])
noncomputable def nU:List Int->List Int->Int
 |x::p,y::c=>x*y+nU p c
 |_,_=>0
theorem UO(c:List Int):nU [] c=0:=rfl
theorem HI:∀p:List Int,nU p []=0
 |[]=>rfl
 |_::_=>rfl
theorem nb:∀(p q:List Int) (c:List Int),nU (Po p q) c=nU p c+nU q c
 |[],q,c=>(Int.zero_add _).symm
 |x::p,q,[]=>by rw [HI,HI,HI];rfl
 |x::p,[],z::c=>by
  show(x+0)*z+nU (Po p []) c=x*z+nU p c+0;rw [nb p [] c,Int.add_zero,Int.add_zero];show _+(nU p c+0)=_;rw [Int.add_zero]
 |x::p,y::q,z::c=>by
  show(x+y)*z+nU (Po p q) c=x*z+nU p c+(y*z+nU q c);rw [nb p q c,Int.add_mul,Int.add_assoc,Int.add_assoc,Int.add_left_comm (y*z)]
theorem ql(k:Int):∀(p:List Int) (c:List Int),nU (St k p) c=k*nU p c
 |[],c=>(Int.mul_zero k).symm
 |x::p,[]=>(Int.mul_zero k).symm
 |x::p,z::c=>by
  show k*x*z+nU (St k p) c=k*(x*z+nU p c);rw [ql k p c,Int.mul_add,Int.mul_assoc]
theorem uS:∀(i:Nat) (c:List Int),nU (one i) c=c.getD i 0
 |0,[]=>rfl
 |0,z::c=>(Int.add_zero _).trans (Int.one_mul z)
 |i+1,[]=>rfl
 |i+1,z::c=>by
  show 0*z+nU (one i) c=_;rw [uS i c,Int.zero_mul,Int.zero_add];rfl
noncomputable def RJ:List Nat->List Int
 |[]=>[]
 |x::c=>(x:Int)::RJ c
theorem wP:∀(c:List Nat) (i:Nat),(RJ c).getD i 0=((c.getD i 0:Nat):Int)
 |[],i=>rfl
 |x::c,0=>rfl
 |x::c,i+1=>wP c i
theorem L.pn_nat(c:List Nat)(e:L):nU e.pn (1::RJ c)=(e.nat c:Int):=by
 induction e with
 |v i=>exact(uS (i+1) _).trans (wP c i)
 |n k=>exact(Int.add_zero _).trans (Int.mul_one _)
 |a x y Z Y=>exact(nb _ _ _).trans (by rw [Z,Y];rfl)
 |m k x Z=>exact(ql _ _ _).trans (by rw [Z];rfl)
 |_=>rfl
noncomputable def ev(c:List Nat)(d:List Int)(p:P2):Int:=nU p.1 (1::RJ c)+nU p.2 d
theorem jz(c d)(k:Int)(p):ev c d (mu k p)=k*ev c d p:=by
 unfold ev mu;rw [ql,ql,Int.mul_add]
theorem jx(c d)(p q):ev c d (kb p q)=ev c d p+ev c d q:=by
 unfold ev kb;rw [nb,nb,Int.add_assoc,Int.add_assoc,Int.add_left_comm (nU q.1 _)]
theorem L.pz_int(c:List Nat)(d:List Int)(e:L):ev c d e.pz=e.int c d:=by
 induction e with
 |a x y Z Y=>exact(jx _ _ _ _).trans (by rw [Z,Y];rfl)
 |m k x Z=>exact(jz _ _ _ _).trans (by rw [Z];rfl)
 |w i=>exact(Int.zero_add _).trans (uS i d)
 |s x y Z Y=>exact(jx _ _ _ _).trans (by rw [jz,Z,Y,Int.neg_mul,Int.one_mul];rfl)
 |g x Z=>exact(jz _ _ _ _).trans (by rw [Z,Int.neg_mul,Int.one_mul];rfl)
 |c x=>exact(Int.add_zero _).trans (pn_nat c x)
 |_=>rfl
noncomputable def UB(a b:Nat):Nat->Prop
 |0=>a<=b
 |1=>a<b
 |2=>a=b
 |3=>¬a<=b
 |_=>¬a<b
noncomputable def Ry(a b:Int):Nat->Prop
 |0=>a<=b
 |1=>a<b
 |2=>a=b
 |3=>¬a<=b
 |_=>¬a<b
noncomputable def Sw(a b:Int):Nat->Int
 |0=>b-a
 |1=>b-a-1
 |2=>b-a
 |3=>a-b-1
 |_=>a-b
theorem Qt(a b:Nat):∀o,UB a b o->Ry (a:Int) (b:Int) o
 |0,h=>Int.ofNat_le.mpr h
 |1,h=>Int.ofNat_lt.mpr h
 |2,h=>congrArg _ h
 |3,h=>fun q=>h (Int.ofNat_le.mp q)
 |_+4,h=>fun q=>h (Int.ofNat_lt.mp q)
theorem DB(a b:Int):∀o,Ry a b o->0<=Sw a b o
 |0,h=>Int.sub_nonneg_of_le h
 |1,h=>Int.le_sub_one_of_lt (Int.sub_pos_of_lt h)
 |2,h=>Int.sub_nonneg_of_le (Int.le_of_eq h)
 |3,h=>Int.le_sub_one_of_lt (Int.sub_pos_of_lt (Int.not_le.mp h))
 |_+4,h=>Int.sub_nonneg_of_le (Int.not_lt.mp h)
noncomputable def Jw(p q:P2):Nat->P2
 |0=>kb q (mu (-1) p)
 |1=>kb (kb q (mu (-1) p)) ([-1],[])
 |2=>kb q (mu (-1) p)
 |3=>kb (kb p (mu (-1) q)) ([-1],[])
 |_=>kb p (mu (-1) q)
theorem rM(c d)(p q:P2):ev c d (kb p (mu (-1) q))=ev c d p-ev c d q:=by
 rw [jx,jz,Int.neg_mul,Int.one_mul];rfl
theorem uk(c d)(p q:P2):∀o,ev c d (Jw p q o)=Sw (ev c d p) (ev c d q) o
 |0=>rM c d q p
 |1=>by show ev c d (kb _ _)=_;rw [jx,rM];rfl
 |2=>rM c d q p
 |3=>by show ev c d (kb _ _)=_;rw [jx,rM];rfl
 |_+4=>rM c d p q
noncomputable def fz{Z:Type}(k:Nat)(f:Nat->Z):Z:=Nat.rec (f 0) (fun k _=>f (k+1)) k
theorem lQ{Z:Type}(k:Nat)(f:Nat->Z):fz k f=f k:=by cases k<;>rfl
noncomputable def sQ(c:List Nat)(d:List Int)(o:Nat)(l r:L):Prop:=cond (Nat.ble 8 o) (Ry (l.int c d) (r.int c d) (o-8)) (UB (l.nat c) (r.nat c) o)
noncomputable def BH(o:Nat)(l r:L):P2:=cond (Nat.ble 8 o) (Jw l.pz r.pz (o-8)) (Jw (l.pn,[]) (r.pn,[]) o)
theorem RT(c d)(o:Nat)(l r:L)(h:sQ c d o l r):0<=ev c d (BH o l r):=by
 unfold sQ at h
 unfold BH;cases Z:Nat.ble 8 o with
 |true=>rw [Z]at h;rw [cond_true,uk,L.pz_int,L.pz_int];exact DB _ _ _ h
 |false=>
  rw [Z]at h
  have e (x:L):ev c d (x.pn,[])=(x.nat c:Int):=L.pz_int c d (.c x);rw [cond_false,uk,e,e];exact DB _ _ _ (Qt _ _ _ h)
noncomputable def Lf(o:Nat):Bool:=Nat.beq o 2||Nat.beq o 10
theorem Vd(c d)(o:Nat)(l r:L)(Z:Lf o=true)(h:sQ c d o l r):ev c d (BH o l r)=0:=by
 unfold Lf at Z
 rw [Bool.or_eq_true]at Z
 rcases Z with Z|Z<;>(have Z:=Nat.eq_of_beq_eq_true Z;subst Z)
 .show ev c d (Jw _ _ 2)=0
  have h:l.nat c=r.nat c:=h;have e (x:L):ev c d (x.pn,[])=(x.nat c:Int):=L.pz_int c d (.c x);rw [uk,e,e,h];exact Int.sub_self _
 .show ev c d (Jw _ _ 2)=0
  have h:l.int c d=r.int c d:=h;rw [uk,L.pz_int,L.pz_int,h];exact Int.sub_self _
noncomputable def take(k o:Nat)(l r:L):P2:=cond (Nat.ble 16 k&&Lf o) (mu (16-(k:Int)) (BH o l r)) (mu k (BH o l r))
theorem Sk(c d)(k o:Nat)(l r:L)(h:sQ c d o l r):0<=ev c d (take k o l r):=by
 unfold take;cases Z:Nat.ble 16 k&&Lf o with
 |true=>
  rw [Bool.and_eq_true]at Z
  rw [cond_true,jz,Vd c d o l r Z.2 h,Int.mul_zero];exact Int.le_refl 0
 |false=>rw [cond_false,jz];exact Int.mul_nonneg (Int.natCast_nonneg k) (RT c d o l r h)
noncomputable def UL:Int->Bool|.ofNat n=>Nat.beq n 0|_=>true
noncomputable def Up(p:P2):Bool:=match p.1 with
 |.negSucc _::q=>q.all UL&&p.2.all fun x=>x==0
 |_=>false
theorem QZ:∀{x:Int},UL x=true->x<=0
 |.ofNat n,h=>Int.le_of_eq (congrArg Int.ofNat (Nat.eq_of_beq_eq_true h))
 |.negSucc n,_=>Int.le_of_lt (Int.negSucc_lt_zero n)
theorem Jc:∀(q:List Int),q.all UL=true->∀c:List Nat,nU q (RJ c)<=0
 |[],_,c=>Int.le_refl 0
 |x::q,h,[]=>Int.le_refl 0
 |x::q,h,z::c=>by
  rw [List.all_cons,Bool.and_eq_true]at h
  exact Int.add_le_add (Int.mul_nonpos_of_nonpos_of_nonneg (QZ h.1) (Int.natCast_nonneg z)) (Jc q h.2 c)
theorem wp:∀(q:List Int),(q.all fun x=>x==0)=true->∀c:List Int,nU q c=0
 |[],_,c=>rfl
 |x::q,h,[]=>rfl
 |x::q,h,z::c=>by
  rw [List.all_cons,Bool.and_eq_true]at h
  have Z:x=0:=eq_of_beq h.1;show x*z+nU q c=0;rw [Z,wp q h.2 c,Int.zero_mul];rfl
theorem Ih(c d){p:P2}(h:Up p=true)(V:0<=ev c d p):False:=by
 obtain⟨W,Z⟩:=p
 match W,h with
 |.negSucc k::q,h=>
  have h:(q.all UL&&Z.all fun x=>x==0)=true:=h;rw [Bool.and_eq_true]at h
  have X:0<=(Int.negSucc k*(1:Int)+nU q (RJ c))+nU Z d:=V;have Y:=Int.add_le_add_left (Jc q h.1 c) (Int.negSucc k);rw [wp Z h.2 d,Int.add_zero,Int.mul_one]at X
  rw [Int.add_zero]at Y
  exact absurd (Int.le_trans X Y) (Int.not_le.mpr (Int.negSucc_lt_zero k))
noncomputable def rd{Z:Type}:Nat->Nat->(L->Nat->Z)->Z
 |0,k,f=>f (.n 0) k
 |u+1,k,f=>match k%32 with
  |0=>fz (k/32%32) fun i=>fz (k/1024) fun k=>f (.v i) k
  |1=>fz (k/32%32) fun i=>fz (k/1024) fun k=>f (.n i) k
  |2=>fz (k/32) fun k=>rd u k fun x k=>rd u k fun y k=>f (.a x y) k
  |3=>fz (k/32%32) fun i=>fz (k/1024) fun k=>rd u k fun x k=>f (.m i x) k
  |4=>fz (k/32%1024) fun i=>fz (k/32768) fun k=>f (.n i) k
  |5=>fz (k/32%1048576) fun i=>fz (k/33554432) fun k=>f (.n i) k
  |6=>fz (k/32%34359738368) fun i=>fz (k/1099511627776) fun k=>f (.n i) k
  |7=>fz (k/32%1180591620717411303424) fun i=>fz (k/37778931862957161709568) fun k=>f (.n i) k
  |8=>fz (k/32%32) fun i=>fz (k/1024) fun k=>f (.w i) k
  |9=>fz (k/32) fun k=>rd u k fun x k=>f (.c x) k
  |12=>fz (k/32) fun k=>rd u k fun x k=>rd u k fun y k=>f (.s x y) k
  |_=>fz (k/32) fun k=>rd u k fun x k=>f (.g x) k
theorem VA{Z:Type}(u k:Nat)(f:L->Nat->Z):rd (u+1) k f=(match k%32 with
  |0=>fz (k/32%32) fun i=>fz (k/1024) fun k=>f (.v i) k
  |1=>fz (k/32%32) fun i=>fz (k/1024) fun k=>f (.n i) k
  |2=>fz (k/32) fun k=>rd u k fun x k=>rd u k fun y k=>f (.a x y) k
  |3=>fz (k/32%32) fun i=>fz (k/1024) fun k=>rd u k fun x k=>f (.m i x) k
  |4=>fz (k/32%1024) fun i=>fz (k/32768) fun k=>f (.n i) k
  |5=>fz (k/32%1048576) fun i=>fz (k/33554432) fun k=>f (.n i) k
  |6=>fz (k/32%34359738368) fun i=>fz (k/1099511627776) fun k=>f (.n i) k
  |7=>fz (k/32%1180591620717411303424) fun i=>fz (k/37778931862957161709568) fun k=>f (.n i) k
  |8=>fz (k/32%32) fun i=>fz (k/1024) fun k=>f (.w i) k
  |9=>fz (k/32) fun k=>rd u k fun x k=>f (.c x) k
  |12=>fz (k/32) fun k=>rd u k fun x k=>rd u k fun y k=>f (.s x y) k
  |_=>fz (k/32) fun k=>rd u k fun x k=>f (.g x) k):=rfl
noncomputable def Fx{Z:Type}(k:Nat)(f:Nat->L->L->Nat->Z):Z:=fz (k%32) fun o=>fz (k/32) fun k=>rd 14 k fun x k=>rd 14 k fun y k=>f o x y k
theorem lg:∀(u k:Nat),∃x X,∀{Y:Type} (f:L->Nat->Y),rd u k f=f x X
 |0,k=>⟨_,_,fun f=>rfl⟩
 |u+1,k=>by
  have W (g:L->L->L):∃x X,∀{Y:Type} (f:L->Nat->Y),(fz (k/32) fun k=>rd u k fun x k=>rd u k fun y k=>f (g x y) k)=f x X:=by
   obtain⟨x,V,U⟩:=lg u (k/32);obtain⟨y,T,S⟩:=lg u V;exact⟨g x y,T,fun f=>by rw [lQ,U,S]⟩
  have Z (g:L->L):∃x X,∀{Y:Type} (f:L->Nat->Y),(fz (k/32) fun k=>rd u k fun x k=>f (g x) k)=f x X:=by
   obtain⟨x,V,U⟩:=lg u (k/32);exact⟨g x,V,fun f=>by rw [lQ,U]⟩
  have lit (g:Nat->L) (a b:Nat):∃x X,∀{Y:Type} (f:L->Nat->Y),(fz a fun i=>fz b fun k=>f (g i) k)=f x X:=⟨g a,b,fun f=>by rw [lQ,lQ]⟩;dsimp only [VA]
  match k%32 with
  |0=>exact lit .v _ _
  |1=>exact lit .n _ _
  |2=>exact W .a
  |3=>
   obtain⟨x,V,U⟩:=lg u (k/1024);exact⟨.m _ x,V,fun f=>by show fz _ _=_;rw [lQ,lQ,U]⟩
  |4=>exact lit .n _ _
  |5=>exact lit .n _ _
  |6=>exact lit .n _ _
  |7=>exact lit .n _ _
  |8=>exact lit .w _ _
  |9=>exact Z .c
  |10=>exact Z .g
  |11=>exact Z .g
  |12=>exact W .s
  |_+13=>exact Z .g
theorem xh(k:Nat):∃o l r W,∀{Z:Type} (f:Nat->L->L->Nat->Z),Fx k f=f o l r W:=by
 obtain⟨x,X,U⟩:=lg 14 (k/32);obtain⟨y,Y,V⟩:=lg 14 X;exact⟨k%32,x,y,Y,fun f=>by unfold Fx;rw [lQ,lQ,U,V]⟩
noncomputable def Kt(c:List Nat)(d:List Int):Nat->Nat->Prop
 |0,k=>match k%32 with
  |0=>False
  |_=>Fx (k/32) fun o l r _=>sQ c d o l r
 |n+1,k=>Fx (k/32) fun o l r Z=>sQ c d o l r->Kt c d n Z
theorem Rn(c d k):Kt c d 0 k=(match k%32 with
  |0=>False
  |_=>Fx (k/32) fun o l r _=>sQ c d o l r):=rfl
noncomputable def SG(o:Nat):Bool:=(Nat.beq o 0||Nat.beq o 1)||(Nat.beq o 8||Nat.beq o 9)
theorem NJ(c d)(o:Nat)(l r:L)(Z:SG o=true)(Y:¬sQ c d o l r):sQ c d (o+3) l r:=by
 unfold SG at Z
 rw [Bool.or_eq_true,Bool.or_eq_true,Bool.or_eq_true]at Z
 rcases Z with(Z|Z)|(Z|Z)<;>(have Z:=Nat.eq_of_beq_eq_true Z;subst Z;exact Y)
noncomputable def Ka:Nat->Nat->P2->P2
 |0,k,s=>match k%32 with
  |0=>s
  |j=>Fx (k/32) fun o l r _=>cond (SG o) (kb s (mu j (BH (o+3) l r))) ([],[])
 |n+1,k,s=>Fx (k/32) fun o l r Z=>Ka n Z (kb s (take (k%32) o l r))
theorem QG(k s):Ka 0 k s=(match k%32 with
  |0=>s
  |j=>Fx (k/32) fun o l r _=>cond (SG o) (kb s (mu j (BH (o+3) l r))) ([],[])):=rfl
theorem Iz(c d):∀(n k:Nat) (s:P2),0<=ev c d s->Up (Ka n k s)=true->Kt c d n k
 |0,k,s,X,Z=>by
  rw [QG]at Z
  rw [Rn]
  revert Z
  match k%32 with
  |0=>exact fun Z=>Ih c d Z X
  |j+1=>
   obtain⟨o,l,r,Y,h⟩:=xh (k/32);show Up (Fx _ _)=true->Fx _ _;rw [h,h];cases V:SG o with
   |false=>exact fun Z=>nomatch Z
   |true=>
    rw [cond_true];intro Z;refine Classical.byContradiction fun U=>Ih c d Z ?_
    rw [jx,jz];exact Int.add_nonneg X (Int.mul_nonneg (Int.natCast_nonneg _) (RT c d _ l r (NJ c d o l r V U)))
 |n+1,k,s,X,Z=>by
  obtain⟨o,l,r,Y,h⟩:=xh (k/32);have Z:Up (Fx (k/32) fun o l r Y=>Ka n Y (kb s (take (k%32) o l r)))=true:=Z;show Fx (k/32) fun o l r Y=>sQ c d o l r->Kt c d n Y
  rw [h]at Z ⊢
  intro W;refine Iz c d n Y _ ?_ Z
  rw [jx];exact Int.add_nonneg X (Sk c d _ o l r W)
theorem ok{P:Prop}(h:P):P:=h
theorem Vi(a:Int):a<=(a.natAbs:Int):=Int.le_natAbs
theorem VF(a:Int):-a<=(a.natAbs:Int):=by rw [<-Int.natAbs_neg];exact Int.le_natAbs
noncomputable def fd(c:List Nat)(d:List Int)(k:Nat):Prop:=fz (k%32) fun n=>fz (k/32) fun k=>Kt c d n k
noncomputable def fo(k:Nat):Bool:=Up (fz (k%32) fun n=>fz (k/32) fun k=>Ka n k ([],[]))
theorem wi(c:List Nat)(d:List Int)(k:Nat)(h:fo k=true):fd c d k:=by
 unfold fo at h;unfold fd
 rw [lQ,lQ]at h ⊢
 exact Iz c d _ _ ([],[]) (Int.le_refl 0) h
theorem uZ(k:Nat)(h:fo k=true):fd [] [] k:=wi _ _ k h
theorem gW{Z:Int}(k:Nat)(h:fo k=true):fd [] [Z] k:=wi _ _ k h
theorem Tq{Y Z:Int}(k:Nat)(h:fo k=true):fd [] [Y,Z] k:=wi _ _ k h
theorem aH{Z:Nat}(k:Nat)(h:fo k=true):fd [Z] [] k:=wi _ _ k h
theorem hH{Y:Nat}{Z:Int}(k:Nat)(h:fo k=true):fd [Y] [Z] k:=wi _ _ k h
theorem FA{X:Nat}{Y Z:Int}(k:Nat)(h:fo k=true):fd [X] [Y,Z] k:=wi _ _ k h
theorem bb{Y Z:Nat}(k:Nat)(h:fo k=true):fd [Y,Z] [] k:=wi _ _ k h
theorem qf{X Y:Nat}{Z:Int}(k:Nat)(h:fo k=true):fd [X,Y] [Z] k:=wi _ _ k h
theorem Hw{W X:Nat}{Y Z:Int}(k:Nat)(h:fo k=true):fd [W,X] [Y,Z] k:=wi _ _ k h
theorem ci{X Y Z:Nat}(k:Nat)(h:fo k=true):fd [X,Y,Z] [] k:=wi _ _ k h
theorem Vv{W X Y:Nat}{Z:Int}(k:Nat)(h:fo k=true):fd [W,X,Y] [Z] k:=wi _ _ k h
theorem gP{W X Y Z:Nat}(k:Nat)(h:fo k=true):fd [W,X,Y,Z] [] k:=wi _ _ k h
theorem nL{V W X Y Z:Nat}(k:Nat)(h:fo k=true):fd [V,W,X,Y,Z] [] k:=wi _ _ k h
theorem VP{U V W X Y:Nat}{Z:Int}(k:Nat)(h:fo k=true):fd [U,V,W,X,Y] [Z] k:=wi _ _ k h
theorem FB{U V W X Y Z:Nat}(k:Nat)(h:fo k=true):fd [U,V,W,X,Y,Z] [] k:=wi _ _ k h
theorem UF{T U V W X Y Z:Nat}(k:Nat)(h:fo k=true):fd [T,U,V,W,X,Y,Z] [] k:=wi _ _ k h
theorem dY{Y Z:Nat}:fd [Y,Z] [] 0x1000000840000021:=bb _ rfl
theorem hV{Y Z:Nat}:fd [Y,Z] [] 0x1000000840000421:=bb _ rfl
theorem pJ{Z:Int}:fd [] [Z] 0x1000a501020014a021:=gW _ rfl
theorem pU{Y Z:Nat}:fd [Y,Z] [] 0x4000840001021:=bb _ rfl
theorem qj{Y Z:Nat}:fd [Y,Z] [] 0x40108002004200840010021:=bb _ rfl
theorem wj{Y Z:Nat}:fd [Y,Z] [] 0x8000004200840010021:=bb _ rfl
theorem Bv{Z:Int}:fd [] [Z] 0x1000a501020014a421:=gW _ rfl
theorem EC{Z:Nat}:fd [Z] [] 0x3e8200000a82000821:=aH _ rfl
theorem Fy{Z:Nat}:fd [Z] [] 0x4200800108021:=aH _ rfl
theorem KG{Z:Nat}:fd [Z] [] 0x4200800008421:=aH _ rfl
theorem sE{Y:Nat}{Z:Int}:fd [Y] [Z] 0x902101020004aa21:=hH _ rfl
theorem sM{Y:Nat}{Z:Int}:fd [Y] [Z] 0x10002501020004a821:=hH _ rfl
theorem sD{Z:Nat}:fd [Z] [] 0x24014a020:=aH _ rfl
theorem vB{Y Z:Nat}:fd [Y,Z] [] 0x8000084200840010021:=bb _ rfl
theorem vz{Y Z:Nat}:fd [Y,Z] [] 0x8021004200840010021:=bb _ rfl
theorem vX{Z:Nat}:fd [Z] [] 0x210004000020:=aH _ rfl
theorem vq{Y Z:Nat}:fd [Y,Z] [] 0x1000028840000422:=bb _ rfl
theorem xY{Z:Nat}:fd [Z] [] 0xa4004a421:=aH _ rfl
theorem yd{Y Z:Nat}:fd [Y,Z] [] 0x409001280840000021:=bb _ rfl
theorem AV{U V W X Y Z:Nat}:fd [U,V,W,X,Y,Z] [] 0x4050082118080280420880400860084400804000a23:=FB _ rfl
theorem EW{Y Z:Nat}:fd [Y,Z] [] 0x1000010840000421:=bb _ rfl
theorem Ef{Y Z:Nat}:fd [Y,Z] [] 0x20004010804000a21:=bb _ rfl
theorem EB{Y Z:Nat}:fd [Y,Z] [] 0x8000004010804000821:=bb _ rfl
theorem Fr{Z:Nat}:fd [Z] [] 0x9005290800008421:=aH _ rfl
theorem EH{X Y Z:Nat}:fd [X,Y,Z] [] 0x10000004400800010821:=ci _ rfl
theorem DV{Y Z:Nat}:fd [Y,Z] [] 0x40000421084020840010421:=bb _ rfl
theorem IJ{Y Z:Nat}:fd [Y,Z] [] 0x4010840000022:=bb _ rfl
theorem Hv{W X Y Z:Nat}:fd [W,X,Y,Z] [] 0x42300800004400842010c02144400800010822:=gP _ rfl
theorem GU{W X Y Z:Nat}:fd [W,X,Y,Z] [] 0xc0108002004400806010a22004210080010822:=gP _ rfl
theorem Hp{Z:Nat}:fd [Z] [] 0x1080000842000021:=aH _ rfl
theorem Jq{Z:Int}:fd [] [Z] 0x29021010052042021:=gW _ rfl
theorem GF{Z:Nat}:fd [Z] [] 0x80020800008422:=aH _ rfl
theorem Je{X Y Z:Nat}:fd [X,Y,Z] [] 0x1000108040084200840010a22:=ci _ rfl
theorem JO{Y Z:Nat}:fd [Y,Z] [] 0x4000840000a21:=bb _ rfl
theorem FE{Z:Nat}:fd [Z] [] 0x410004008420:=aH _ rfl
theorem FR{Z:Nat}:fd [Z] [] 0x61a8140000403e80a000021:=aH _ rfl
theorem Hz{X Y Z:Nat}:fd [X,Y,Z] [] 0x40200020008010840000022:=ci _ rfl
theorem Gj{Z:Nat}:fd [Z] [] 0x8210800608021:=aH _ rfl
theorem KH{Z:Nat}:fd [Z] [] 0x1210a4210004962020:=aH _ rfl
theorem KN{Z:Nat}:fd [Z] [] 0x8521080024b0004a020:=aH _ rfl
theorem Ng{Y Z:Nat}:fd [Y,Z] [] 0x42100800104010800210020:=bb _ rfl
theorem Lj{Y Z:Nat}:fd [Y,Z] [] 0x40108002104210080010020:=bb _ rfl
theorem MN{X Y Z:Nat}:fd [X,Y,Z] [] 0x100840004400800010a21:=ci _ rfl
theorem MW{X Y Z:Nat}:fd [X,Y,Z] [] 0x80000402004400800010821:=ci _ rfl
theorem LG{Y Z:Nat}:fd [Y,Z] [] 0x40000021084020840010021:=bb _ rfl
theorem MX{Y:Nat}{Z:Int}:fd [Y] [Z] 0x400000003000108100025418052042022:=hH _ rfl
theorem Mf{Y Z:Nat}:fd [Y,Z] [] 0xc84080210004200464204210080010021:=bb _ rfl
theorem Nn{Z:Int}:fd [] [Z] 0x200224081002940408320896a421:=gW _ rfl
theorem KY{Y Z:Nat}:fd [Y,Z] [] 0x14084010800210034084210080010021:=bb _ rfl
theorem MA{Z:Nat}:fd [Z] [] 0x3e82000009c2000821:=aH _ rfl
theorem Lg{X Y Z:Nat}:fd [X,Y,Z] [] 0x2024004a022004000840000022:=ci _ rfl
theorem MS{Y:Nat}{Z:Int}:fd [Y] [Z] 0x1000a5010012042a21:=hH _ rfl
theorem Nu{Y Z:Nat}:fd [Y,Z] [] 0x8400104010840000422:=bb _ rfl
theorem LK{Y Z:Nat}:fd [Y,Z] [] 0x138805080010002000427100a000022:=bb _ rfl
theorem KL{X Y Z:Nat}:fd [X,Y,Z] [] 0x80000022004000840000422:=ci _ rfl
theorem Mo{Z:Nat}:fd [Z] [] 0x7d04000010f08000021:=aH _ rfl
theorem NH{Z:Int}:fd [] [Z] 0x8520435800a501020014ac21:=gW _ rfl
theorem KU{Z:Nat}:fd [Z] [] 0x3e8200000942000821:=aH _ rfl
theorem Rh{Z:Int}:fd [] [Z] 0x10040000000000000001d2d40408010000000000000000e96a021:=gW _ rfl
theorem Rp{Z:Int}:fd [] [Z] 0x40000000000000001d204242020000000000000001d2042421:=gW _ rfl
theorem OZ{V W X Y Z:Nat}:fd [V,W,X,Y,Z] [] 0x4008000840108c02200428800300802104200840010823:=nL _ rfl
theorem Qj{W X Y Z:Nat}:fd [W,X,Y,Z] [] 0x601000108021000430085100440104200840010023:=gP _ rfl
theorem Pm{V W X Y Z:Nat}:fd [V,W,X,Y,Z] [] 0x4008000800301002144200846010802104200840010a23:=nL _ rfl
theorem Qg{V W X Y Z:Nat}:fd [V,W,X,Y,Z] [] 0x20060004012005110021080430084110021000428840000024:=nL _ rfl
theorem Rw{Y Z:Nat}:fd [Y,Z] [] 0x80000000000000007484094840008021fa08000022:=bb _ rfl
theorem QE{W X Y:Nat}{Z:Int}:fd [W,X,Y] [Z] 0x100011012042a2102408484200840010a23:=Vv _ rfl
theorem Qf{U V W X Y Z:Nat}:fd [U,V,W,X,Y,Z] [] 0x500c020000110080280428900100c02144400800010823:=FB _ rfl
theorem RC{U V W X Y Z:Nat}:fd [U,V,W,X,Y,Z] [] 0x500c000080120020280428900200c02104400800010823:=FB _ rfl
end Mine
open PySem PySem.W PyProof.Rows PySem.Calls PySem.Spec
set_option genSizeOf false
set_option tactic.hygienic false
set_option bootstrap.genMatcherCode false
set_option genInjectivity false
noncomputable section
namespace Mine
def aA:=@Nat.sub_add_cancel
def aZ:=@Option.some.inj
def bB:=@Nat.le_antisymm
def aR:=@wpAny_bind
def cG:=@Int.toNat_of_nonneg
def cJ:=@List.mem_singleton
def aC:=@if_pos
def dU:=@Heap.get?_push_of_some
def fC:=@List.getElem?_eq_getElem
def bG:=@wpAny_mono
def cm:=@List.length_cons
def ce:=@Int.le_antisymm
def bo:=@wpAny_pure
def bJ:=@Nat.le_trans
def df:=@List.length_append
def bL:=@Heap.lt_size
def aF:=@if_neg
def cR:=@Bool.and_eq_true
def eg:=@Nat.sub_eq_zero_of_le
def cU:=@List.lookup_cons
def dl:=@List.all_eq_true
def cW:=@List.length_map
def gv:=@List.getD_eq_getElem?_getD
def bZ:=@Nat.le_refl
def cN:=@List.mem_cons
def cP:=@List.map_cons
def eF:=@Nat.lt_or_gt_of_ne
def fJ:=@Nat.le_of_ble_eq_true
def cF:=@Nat.mul_comm
def dX:=@F.plainAttrs_list
def dF:=@Nat.div_add_mod
def bv:=@congrArg
def dq:=@decide_eq_true
def ig:=@List.getElem?_eq_some_iff
def fX:=@Nat.ble_eq_true_of_le
def fF:=@Int.natAbs_of_nonneg
def fj:=@Nat.lt_of_lt_of_le
def fq:=@F.type_list_append
def fw:=@F.slot_list_append
def fp:=@Int.toNat_natCast
def fy:=@List.flatten_cons
def gp:=@beq_eq_false_iff_ne
def ip:=@Nat.eq_of_beq_eq_true
def ic:=@List.mem_of_getElem?
def fh:=@decide_eq_false
def gw:=@of_decide_eq_true
def eG:=@Nat.lt_irrefl
def dP:=@Nat.le_total
def fG:=@List.length_nil
def fM:=@Nat.min_eq_left
def gJ:=@decide_eq_true_eq
def iI:=@Heap.get?_push_size
def kq:=@Int.fmod_nonneg_of_pos
def kN:=@Option.map_eq_some_iff
def nO:=@Int.fdiv_eq_ediv_of_nonneg
def iH:=@List.append_assoc
def lb:=@Bool.and_eq_true_iff
def ku:=@Nat.mul_le_mul_right
def iO:=@Option.bind_some
def iE:=@F.plainAttrs_str
def ix:=@Nat.not_lt_zero
def pC:=@Int.ofNat_natAbs_of_nonpos
def jS:=@List.getElem?_map
def gI:=@wpAny_holding
def kD:=@Bool.false_ne_true
def eM:=@cond_false
def mZ:=@Nat.div_lt_iff_lt_mul
def gn:=@Nat.ne_of_lt
def jh:=@Nat.two_pow_pos
def eU:=@Nat.mod_lt
def py:=@Option.bind_eq_some_iff
def kJ:=@Bool.eq_false_iff
def lH:=@Int.fmod_lt_of_pos
def kB:=@Nat.lt_succ_self
def iM:=@wpAny_standAt
def gm:=@Nat.one_mul
def iq:=@List.mem_map
def ub:=@Int.fmod_eq_emod_of_nonneg
def mS:=@Int.natCast_nonneg
def kQ:=@List.mem_append
def fm:=@cond_true
def lM:=@List.not_mem_nil
def tm:=@List.getElem?_append_left
def mW:=@Bool.not_eq_true'
def hO:=@Nat.add_mul
def lJ:=@List.head?_drop
def lU:=@List.map_append
def lT:=@List.append_nil
def rF:=@Nat.pow_le_pow_right
def lK:=@seg_execs_cons
def pw:=@Int.max_eq_right
def oY:=@List.length_take
def pg:=@List.length_drop
def rN:=@Nat.lt_of_le_of_lt
def pF:=@Nat.le_add_right
def pB:=@List.getElem_mem
def jO:=@Nat.pow_add
def sf:=@Nat.le_succ_of_le
def pG:=@Int.min_eq_left
def pp:=@List.nil_append
def oU:=@List.replicate_succ
def rV:=@List.take_of_length_le
def sq:=@wpAny_Call_method_late
def qC:=@List.drop_of_length_le
def iR:=@Nat.le_of_lt
def mL:=@Nat.min_eq_right
def oI:=@List.mem_cons_self
def kG:=@intBits_le_iff
def qZ:=@Int.mul_ediv_add_emod
def rg:=@List.contains_iff_mem
def uT:=@List.pairwise_iff_getElem
def mO:=@List.nodup_cons
def qQ:=@List.getElem?_of_mem
def ib:=@typeIs_str
def ri:=@List.mem_map_of_mem
def oK:=@callWith_builtin
def vd:=@decide_eq_false_iff_not
def rf:=@Option.getD_some
def oJ:=@List.cons_append
def jo:=@Nat.le_succ
def jy:=@Nat.zero_le
def sk:=@List.zip_cons_cons
def iS:=@beq_iff_eq
def kR:=@Int.le_total
def vV:=@Around.under_of_weight
def ky:=@Nat.pow_succ
def og:=@Heap.dictOf_iff
def va:=@List.mem_append_right
def kd:=@Int.one_mul
def uq:=@List.mem_append_left
def kE:=@Int.neg_mul
def Bw:=@Array.getElem?_eq_some_iff
def Bd:=@List.getElem?_append_right
def vi:=@wpAny_newFunctionEnv
def Ao:=@Array.getElem?_eq_none_iff
def kT:=@wpAny_of_eq
def vJ:=@Name_function_global
def qz:=@beq_self_eq_true
def mK:=@Nat.succ_pos
def mt:=@codeAny_mono
def mI:=@Nat.add_comm
def Bq:=@List.extract_eq_take_drop
def zX:=@wpAny_assignInOrder_more
def oF:=@Nat.mul_assoc
def qE:=@List.forIn_cons
def rG:=@F.slot_str_join
def ra:=@F.type_str_join
def rm:=@Nat.div_le_self
def kK:=@call_meets
def kz:=@Nat.not_lt
def uD:=@Nat.one_lt_two_pow
def vv:=@Bool.false_eq_true
def zo:=@List.lookup_eq_none_iff
def zT:=@Nat.le_mul_of_pos_right
def nQ:=@Int.le_of_lt
def vx:=@Sem.bind_eq_wrap'
def iY:=@or_false
def zy:=@Nat.le_mul_of_pos_left
def AQ:=@SeqAt.canLay_of_shaped
def uO:=@List.size_toArray
def AU:=@Nat.lt_of_succ_lt_succ
def oB:=@List.map_map
def vr:=@callWith_function
def rX:=@List.nodup_nil
def uV:=@Nat.lt_succ_of_lt
def BE:=@F.slot_int_bit_length
def AB:=@F.type_int_bit_length
def zV:=@codeAny_call_function
def Bf:=@wpAny_storeName_local
def zC:=@builtinLookup_eq_fast
def vA:=@F.slot_str_split
def wf:=@wpAny_execs_cons
def uh:=@List.mem_reverse
def uF:=@Nat.div_eq_of_lt
def uG:=@Nat.mod_eq_of_lt
def rO:=@Sem.wrap_wrap
def AG:=@wpAny_loadName_local
def JN:=@List.drop_append_of_le_length
def Jd:=@List.take_append_of_le_length
def oj:=@codeHd_of_K
def Bm:=@List.drop_eq_nil_iff
def nX:=@Int.add_mul
def zM:=@Nat.pow_lt_pow_right
def vQ:=@F.slot_list_pop
def wb:=@codeAny_of_tree
def uj:=@Int.natCast_mul
def BK:=@List.length_reverse
def BN:=@List.map_congr_left
def Bh:=@PySem.callWith_type
def Ay:=@F.slot_list_reverse
def Aa:=@Heap.SameBut.update
def Am:=@List.map_eq_nil_iff
def AY:=@ne_true_of_eq_false
def Bn:=@List.flatten_append
def Bc:=@Int.toNat_of_nonpos
def AR:=@Nat.lt_two_pow_self
def zm:=@List.filterMap_cons
def ja:=@if_true
def Ij:=@Nat.two_pow_add_eq_or_of_lt
def sh:=@Nat.ne_of_gt
def rH:=@spliced_cons
def uX:=@evalArgs_plain
def vc:=@Heap.size_push
def BG:=@wpAny_Constant_str
def zu:=@Nat.eq_zero_or_pos
def uU:=@wpAny_runValue
def vK:=@List.drop_zero
def AK:=@Int.emod_lt_of_pos
def By:=@Array.find?_toList
def zG:=@F.args_str_split_2
def FO:=@PySem.Calls.call_len_list
def JP:=@List.getLast?_eq_getElem?
def FC:=@Array.getElem?_eq_getElem
def Hd:=@List.getElem?_eq_none_iff
def Js:=@List.drop_eq_getElem_cons
def zv:=@List.reverse_cons
def zx:=@F.entry_str_split
def qT:=@spliced_nil
def Bx:=@F.plainAttrs_dict
def rT:=@Nat.mul_add
def uz:=@wpAny_onRaise
def FI:=@wpAny_assignInOrder_none
def oA:=@eq_of_beq
def AW:=@Sem.bind_eq_wrap
def HP:=@List.getElem?_cons_succ
def zU:=@Nat.succ_ne_zero
def Ar:=@wpAny_call_entry
def Au:=@List.map_reverse
def BO:=@F.plainAttrs_int
def Al:=@Array.toList_inj
def ma:=@if_false
def zS:=@List.any_eq_true
def uu:=@Nat.beq_refl
def GS:=@Nat.div_div_eq_div_mul
def GV:=@List.append_eq_nil_iff
def zW:=@Bool.or_eq_true
def AP:=@Int.emod_nonneg
def Ak:=@typeLookup_type
def AL:=@F.slot_dict_get
def zA:=@Nat.min_le_left
def Bg:=@List.foldl_cons
def JV:=@List.take_append_drop
def JA:=@wpAny_allTrue_Or_cons
def IZ:=@List.length_replicate
def Jp:=@List.singleton_append
def Iv:=@List.concat_eq_append
def FM:=@Int.add_mul_ediv_left
def FT:=@List.getElem?_toArray
def GP:=@List.eq_nil_or_concat
def FQ:=@List.lookup_cons_self
def GT:=@Int.ediv_emod_unique
def Ig:=@Nat.eq_of_testBit_eq
def IX:=@List.mem_cons_of_mem
def uJ:=@wpAny_noted
def GJ:=@List.mem_of_mem_take
def Ib:=@F.type_list_reverse
def FL:=@Sem.onRaise_eq_wrap
def Ik:=@Nat.mul_le_mul_left
def IT:=@Array.toList_append
def Ga:=@BindsTo.of_defaults
def It:=@List.take_succ_cons
def HX:=@wpAny_Constant_bool
def Ic:=@List.getElem_of_mem
def zI:=@List.cons.inj
def FF:=@Int.lt_or_gt_of_ne
def Ko:=@loadGlobal_builtin
def uM:=@bne_iff_ne
def HJ:=@Nat.mul_right_comm
def Kg:=@wpAny_Constant_int
def vb:=@wpAny_Name
def FJ:=@Int.sub_eq_add_neg
def zK:=@Nat.succ.inj
def GI:=@loadGlobal_global
def IB:=@Array.toList_push
def zR:=@call_type_of
def nS:=@Ne.symm
def FX:=@wpAny_Assign_Name
def Gk:=@F.slot_dict_items
def GH:=@bne_self_eq_false
def FW:=@wpAny_newObj_type
def Gs:=@List.mem_range'_1
def Ad:=@Int.add_comm
def As:=@Nat.zero_add
def JK:=@Int.natAbs_add_le
def GO:=@F.slot_str_rstrip
def GD:=@Nat.mul_left_comm
def AX:=@codeAny_func
def Bb:=@List.any_map
def HF:=@wpAny_assign_Name
def HK:=@List.length_range
def Ki:=@List.take_add_one
def IP:=@Option.getD_none
def Ke:=@List.range'_succ
def Iy:=@F.entry_list_pop
def Jh:=@F.slot_str_lower
def GL:=@List.take_length
def Jl:=@F.type_str_lower
def Ju:=@Nat.le_of_not_lt
def vk:=@seg_again
def Kc:=@wpAny_askSetting
def He:=@Nat.succ_le_succ
def zz:=@Nat.pow_pos
def BM:=@Int.mul_neg
def Bk:=@Nat.log2_lt
def Ip:=@Bool.decide_and
def Gx:=@Nat.and_le_left
def Kk:=@F.type_dict_get
def FD:=@F.slot_str_find
def Gp:=@Option.map_some
def Hx:=@Nat.mul_add_mod
def II:=@wpAny_specialOf
def HE:=@F.type_list_pop
def Jx:=@List.of_mem_zip
def Ku:=@Nat.testBit_and
def Gb:=@F.slot_int_rmul
def Gf:=@Nat.mul_add_div
def An:=@Nat.sub_le
def Km:=@List.drop_drop
def GM:=@Nat.mul_le_mul
def zp:=@typeIs_int
def Gd:=@sliceRange_one
def Io:=@Sem.wrap_congr
def AE:=@Int.not_le
def Ja:=@setObjOf_fresh
def IR:=@List.mem_range
def JB:=@List.drop_take
def JS:=@Int.natAbs_neg
def Ap:=@isInt_self
def HD:=@List.forIn_nil
def HA:=@wpAny_loadPart
def JZ:=@F.slot_set_pop
def Hb:=@wpAny_bindName
def IE:=@List.tail_drop
def Gv:=@Nat.testBit_or
def BL:=@seg_wrap
local macro_rules | `(tactic| left) => `(tactic| kernel_rfl)
@[elab_as_elim] theorem rE.{u}{α:Sort u}{a b:α}{P:α->Prop}(h:a=b)(k:P b):P a:=h▸k
local macro_rules
  | `(tactic| rw [$rs,*]) => do
    let ts ← rs.getElems.mapM fun r => match r with
      | `(Lean.Parser.Tactic.rwRule| ← $t:term) => `(tactic| first | refine rE (Eq.symm $t) ?_ | rewrite [← $t:term])
      | `(Lean.Parser.Tactic.rwRule| $t:term) => `(tactic| first | refine rE $t ?_ | rewrite [$t:term])
      | _ => Lean.Macro.throwUnsupported
    `(tactic| ($[$ts];*; try (with_reducible rfl)))
section
variable {G:Prop}{α β:Type}
theorem aW{x:α}(h:none=some x):G:=by cases h
theorem mU(h:false=true):G:=by cases h
theorem Uj{x:α}{l:List α}(h:[]=x::l):G:=by cases h
theorem KC{x:α}{l:List α}(h:x::l=[]):G:=by cases h
@[elab_as_elim] theorem Ah{G:α->β->Prop}{a b:α}{c d:β}(h:some (a,c)=some (b,d))(k:G a c):G b d:=by cases h;exact k
theorem LE{c:Prop}[Decidable c]{a b r:α}(h:(if c then a else b)=r)(k:c->a=r->G)(Y:¬c->b=r->G):G:=by
 by_cases Z:c
 .rw [aC Z]at h;exact k Z h
 .rw [aF Z]at h;exact Y Z h
end
structure Wd where
 F:Addr->Option Obj
 ρ:Nat->Addr
 n:Nat
inductive PV where
 |none
 |bool (b:Bool)
 |int (i:Int)
 |str (s:Str)
 |tup (vs:List PV)
 |loc (i:Nat)
 |val (v:Value)
 |hdr (C:Addr) (l:Nat)
 |rng (a b:Int)
 |fl (ns:List Int)
 |clo (name qual:Str) (params:Arguments) (body:List Stmt) (scope:Scope) (cs:List (Str×Nat))
abbrev cI(x:Int):Option PV:=some (.int x)
abbrev cL(x:Nat):Option PV:=some (.loc x)
abbrev cS(x:Str):Option PV:=some (.str x)
noncomputable def FH(F:Addr->Option Obj)(h:Heap):Prop:=∀a o,F a=some o->h.get? a=some o
noncomputable def nk(X:Obj)(x:Addr):Prop:=∃Y W,X.data=.dict Y W/\StrKeys Y/\∀Z,nsFind Y Z=if Z=("_headers":Str)then some (.ref x)else none
noncomputable def Dj(F:Addr->Option Obj)(S:Nat->Addr)(W Y:Str)(Z:Arguments)(U:List Stmt)(X:Scope)(P:List (Str×Nat))(o:Obj):Prop:=
 o.cls=.type "function"/\∃T R O V Q,o.data=.func (fnX W Y Z U X (P.map fun x=>(x.1,S x.2)) .none .none T R O V Q)/\(∀h:Heap,FH F h->h.CodeRec V Y)
mutual
noncomputable def bk(W:Wd):PV->Value->Prop
 |.none,v=>v=.none
 |.bool b,v=>v=.bool b
 |.int i,v=>∃t,v=.int i t
 |.str s,v=>∃t,v=.str s t
 |.tup P,v=>∃a S n,v=.ref a/\W.F a=some {cls:=.type "tuple",data:=.seq S n}/\aP W P S.toList
 |.loc i,v=>i<W.n/\v=.ref (W.ρ i)
 |.val x,v=>v=x
 |.hdr C l,v=>l<W.n/\∃a D R,v=.ref a/\W.F a=some {cls:=.ref C,dict:=some D,data:=.plain}/\W.F D=some R/\nk R (W.ρ l)
 |.rng a b,v=>∃r t u w,v=.ref r/\W.F r=some {cls:=.type "range",dict:=none,data:=.fields #[.int a t,.int b u,.int 1 w],slots:=#[]}
 |.fl O,v=>∃(a:Addr) (o:Obj) (n:Nat) (T:List (Int×Tok)),v=.ref a/\W.F a=some o/\o.cls=.type "list"/\o.data=.seq (T.map fun x=>Value.int x.1 x.2).toArray n/\T.map (·.1)=O
 |.clo V X Z U Y Q,v=>(∀x∈Q,x.2<W.n)/\∃a o,v=.ref a/\W.F a=some o/\Dj W.F W.ρ V X Z U Y Q o
noncomputable def aP(W:Wd):List PV->List Value->Prop
 |[],Y=>Y=[]
 |p::X,Y=>∃v Z,Y=v::Z/\bk W p v/\aP W X Z
end
inductive AO where
 |list (ps:List PV)
 |cell (p:Option PV)
 |dict (kvs:List (Str×PV))
 |set (ps:List PV)
noncomputable def nM(T:World)(W:Wd):AO->Obj->Prop
 |.list X,o=>∃S n,o={cls:=.type "list",data:=.seq S n}/\aP W X S.toList
 |.cell p,o=>∃v,o.data=.cell v/\(match p with|some p=>∃x,v=some x/\bk W p x|none=>True)
 |.dict Y,o=>∃U:List (Str×Value),(∀Z,o.IsDictOf (PySem.strKind Z T) U)/\U.map (·.1)=Y.map (·.1)/\aP W (Y.map (·.2)) (U.map (·.2))
 |.set X,o=>∃V:List Int,X=V.map .int/\∀Z,o.SetObjOf (PySem.intKind Z T) (fun k=>decide (k∈V)) V.length
structure cH(W:Wd)(h:Heap)(W':Wd)(h':Heap):Prop where
 F:∀a o,W.F a=some o->W'.F a=some o
 fr:∀a o,W'.F a=some o->W.F a=some o\/h.get? a=none
 n:W.n<=W'.n
 ρ:∀i,i<W.n->W'.ρ i=W.ρ i
 th:∀b o,h.get? b=some o->∃o',h'.get? b=some o'
theorem cH.refl(W:Wd)(h:Heap):cH W h W h:=⟨fun _ _ e=>e,fun _ _ e=>.inl e,bZ _,fun _ _=>rfl,fun _ o e=>⟨o,e⟩⟩
theorem cH.trans{W P T:Wd}{h Q X:Heap}(g:cH W h P Q)(V:cH P Q T X):cH W h T X where
 F:=fun a o e=>V.F a o (g.F a o e)
 fr:=fun a o e=>by
  rcases V.fr a o e with e|e
  .exact g.fr a o e
  .refine .inr ?_
   cases q:h.get? a with
   |none=>rfl
   |some Z=>
    obtain⟨S,Y⟩:=g.th a Z q;rw [e]at Y
    exact aW Y
 n:=bJ g.n V.n
 ρ:=fun i R=>(V.ρ i (fj R g.n)).trans (g.ρ i R)
 th:=fun b o e=>let⟨Z,U⟩:=g.th b o e;V.th b Z U
theorem cH.heap{W:Wd}{h Z:Heap}(e:∀b o,h.get? b=some o->∃Y,Z.get? b=some Y):cH W h W Z:=⟨fun _ _ e=>e,fun _ _ e=>.inl e,bZ _,fun _ _=>rfl,e⟩
theorem cH.keep{W:Wd}{h h':Heap}(e:∀b o,h.get? b=some o->h'.get? b=some o):cH W h W h':=cH.heap fun b o q=>⟨o,e b o q⟩
structure GK(W W':Wd):Prop where
 F:∀a o,W.F a=some o->W'.F a=some o
 n:W.n<=W'.n
 ρ:∀i,i<W.n->W'.ρ i=W.ρ i
theorem cH.ext{W Z:Wd}{h Y:Heap}(g:cH W h Z Y):GK W Z:=⟨g.F,g.n,g.ρ⟩
theorem Dj.mono{W S:Wd}(g:GK W S){V X:Str}{Z:Arguments}{U:List Stmt}{Y:Scope}{T:List (Str×Nat)}{o:Obj}
  (N:∀x∈T,x.2<W.n) (h:Dj W.F W.ρ V X Z U Y T o):Dj S.F S.ρ V X Z U Y T o:=by
 obtain⟨H,R,P,E,Q,G,I,M⟩:=h;refine⟨H,R,P,E,Q,G,?_,fun h e=>M h fun a o q=>e a o (g.F a o q)⟩;have:(T.map fun x=>(x.1,S.ρ x.2))=T.map fun x=>(x.1,W.ρ x.2):=BN fun x O=>by rw [g.ρ x.2 (N x O)]
 rw [this];exact I
mutual
theorem bk.mono{W P:Wd}(g:GK W P):∀{p:PV} {v:Value},bk W p v->bk P p v
 |.none,_,h=>h
 |.bool _,_,h=>h
 |.int _,_,h=>h
 |.str _,_,h=>h
 |.tup B,v,h=>by
  obtain⟨a,N,n,e,G,H⟩:=h;exact⟨a,N,n,e,g.F _ _ G,aP.mono g H⟩
 |.loc i,v,h=>⟨fj h.1 g.n,by rw [g.ρ i h.1];exact h.2⟩
 |.val _,_,h=>h
 |.hdr C l,v,h=>by
  obtain⟨S,a,D,M,e,Z,Y,E⟩:=h;exact⟨fj S g.n,a,D,M,e,g.F _ _ Z,g.F _ _ Y,by rw [g.ρ l S];exact E⟩
 |.rng a b,v,h=>by
  obtain⟨r,t,u,w,e,Z⟩:=h;exact⟨r,t,u,w,e,g.F _ _ Z⟩
 |.fl A,v,h=>by
  obtain⟨a,o,n,O,e,Z,Y⟩:=h;exact⟨a,o,n,O,e,g.F _ _ Z,Y⟩
 |.clo T U X Q V z,v,h=>by
  obtain⟨R,a,o,e,Z,Y⟩:=h;exact⟨fun x I=>fj (R x I) g.n,a,o,e,g.F _ _ Z,Y.mono g R⟩
theorem aP.mono{W V:Wd}(g:GK W V):∀{X:List PV} {Y:List Value},aP W X Y->aP V X Y
 |[],_,h=>h
 |p::X,Y,h=>by
  obtain⟨v,Z,e,T,U⟩:=h;exact⟨v,Z,e,bk.mono g T,aP.mono g U⟩
end
theorem nM.mono{Y:World}{W X:Wd}(g:GK W X){Z:AO}{o:Obj}(h:nM Y W Z o):nM Y X Z o:=by
 cases Z with
 |list T=>obtain⟨V,n,e,r⟩:=h;exact⟨V,n,e,r.mono g⟩
 |cell p=>
  obtain⟨v,e,r⟩:=h;refine⟨v,e,?_⟩;cases p with
  |none=>exact trivial
  |some p=>obtain⟨x,N,U⟩:=r;exact⟨x,N,U.mono g⟩
 |dict S=>obtain⟨R,O,P,Q⟩:=h;exact⟨R,O,P,Q.mono g⟩
 |set T=>exact h
structure Fz where
 h:Addr->Option Obj
 g:Nat->Option GenState
structure Tp where
 prog:Program
 w:World
 gl:List (Str×Value)
 bl:List (Str×Value)
 K:Frag
 tabs:List Addr
 os:OsState
 tl:Addr->Nat×Nat×Str
noncomputable def NW(Z:Nat×Nat×Str)(F:Addr->Option Obj)(Y:Array Value):Prop:=
 Y=#[]\/∃c:Addr,Y=#[rawInt Z.1,rawInt Z.2.1,.ref c]/\∀h:Heap,FH F h->h.CodeRec (.ref c) Z.2.2
structure ki(T:Tp)(F:Addr->Option Obj):Prop where
 kin:∀a o,T.K.lookup a=some o->F a=some o
 glob:∀(i:Nat) x v,T.gl[i]?=some (x,v)->∀h:Heap,FH F h->∃mg,h.Ns mainGlobals mg/\mg x=some v
 blt:∀(i:Nat) x v,T.bl[i]?=some (x,v)->∀h:Heap,FH F h->∃mg mb,h.Ns mainGlobals mg/\mg x=none/\h.Ns builtinsNs mb/\mb x=some v
 nolim:∀h:Heap,FH F h->h.NoLimit
 big:∃a o,F a=some o/\sysModules<a
 bm:∀h:Heap,FH F h->∃mg bm ob,h.Ns mainGlobals mg/\mg "__builtins__"=some (.ref bm)/\bm≠builtinsNs/\F bm=some ob/\ob.cls=.type "module"/\ob.dict=some builtinsNs/\ob.data=.plain
theorem ki.mono{T:Tp}{F X:Addr->Option Obj}(t:ki T F)(e:∀a o,F a=some o->X a=some o):ki T X:=
 ⟨fun a o h=>e a o (t.kin a o h),fun i x v Y h Z=>t.glob i x v Y h fun a o q=>Z a o (e a o q),fun i x v Y h Z=>t.blt i x v Y h fun a o q=>Z a o (e a o q),fun h Z=>t.nolim h fun a o q=>Z a o (e a o q),let⟨a,o,Y,Z⟩:=t.big;⟨a,o,e a o Y,Z⟩,fun h Z=>let⟨V,O,W,P,Q,R,S,U⟩:=t.bm h fun a o q=>Z a o (e a o q);⟨V,O,W,P,Q,R,e _ _ S,U⟩⟩
structure gQ(T:Tp)(R:Fz)(W:Wd)(st:List (Nat×AO))(s:Shared):Prop where
 top:ki T W.F
 hF:FH W.F s.heap
 hR:FH R.h s.heap
 hG:∀g x,R.g g=some x->s.gens[g]?=some x
 trk:∀i ao,st.lookup i=some ao->i<W.n/\∃o,s.heap.get? (W.ρ i)=some o/\nM T.w W ao o
 fre:∀i,i<W.n->W.F (W.ρ i)=none/\R.h (W.ρ i)=none/\W.ρ i∉T.tabs/\∃o,s.heap.get? (W.ρ i)=some o
 inj:∀i j,i<W.n->j<W.n->W.ρ i=W.ρ j->i=j
 tabs:∀P∈T.tabs,W.F P=none/\R.h P=none/\∃ps,s.heap.get? P=some (tabObj ps)/\NW (T.tl P) W.F ps
 bare:AllBare s.gens
 os:s.os=T.os
 sysm:∀i,i<W.n->W.ρ i≠sysModules
structure Cx where
 env:Env
 vars:List Str
 cv:List (Str×Nat)
structure AS where
 loc:List (Option PV)
 st:List (Nat×AO)
 nx:Nat
noncomputable def fB:List (Option PV)->Nat->Option PV
 |[],_=>none
 |x::_,0=>x
 |_::l,i+1=>fB l i
theorem Df(w1_):fB [] w1_=(none):=rfl
theorem BX(x w1_):fB (x::w1_) 0=(x):=rfl
theorem Cu(Z l i):fB (Z::l) (i+1)=(fB l i):=rfl
noncomputable def pT:List (Option PV)->Nat->PV->List (Option PV)
 |[],_,_=>[]
 |_::l,0,p=>some p::l
 |x::l,i+1,p=>x::pT l i p
theorem Cs(w1_ w2_):pT [] w1_ w2_=([]):=rfl
theorem Dc(Z l p):pT (Z::l) 0 p=(some p::l):=rfl
theorem Ci(x l i p):pT (x::l) (i+1) p=(x::pT l i p):=rfl
theorem ti:∀(l:List (Option PV)) (i j:Nat) (p:PV),fB (pT l i p) j=if i=j/\i<l.length then some p else fB l j
 |[],i,j,p=>by simp [Cs,Dc,Ci,Df,BX,Cu]
 |x::l,0,0,p=>by rfl
 |x::l,0,j+1,p=>by rfl
 |x::l,i+1,0,p=>by rfl
 |x::l,i+1,j+1,p=>by
  simp only [Cs,Dc,Ci,Df,BX,Cu,ti l i j p,cm];simp
structure Nv(T:Tp)(X:Cx)(R:Fz)(W:Wd)(loc:List (Option PV))(s:Shared):Prop where
 m:∃m,s.heap.Ns X.env.locals m/\∀(i:Nat) x p,X.vars[i]?=some x->fB loc i=some p->∃v,m x=some v/\bk W p v
 nF:W.F X.env.locals=none
 nR:R.h X.env.locals=none
 t:X.env.locals∉T.tabs
 ρ:∀i,i<W.n->W.ρ i≠X.env.locals
 cv:∀(j:Nat) x i,X.cv[j]?=some (x,i)->i<W.n/\X.env.cells.lookup x=some (W.ρ i)
structure cj(T:Tp)(X:Cx)(R:Fz)(W:Wd)(σ:AS)(s:Shared):Prop where
 r:gQ T R W σ.st s
 l:Nv T X R W σ.loc s
 nx:σ.nx=W.n
structure bA(X:Cx):Prop where
 kind:X.env.scope.kind=.function
 glob:X.env.globals=mainGlobals
 blt:X.env.builtins=builtinsNs
 vars:∀x∈X.vars,X.env.scope.names.lookup x=some .local
 cvs:∀x∈X.cv,X.env.scope.names.lookup x.1=some .cell\/X.env.scope.names.lookup x.1=some .free
 nodup:X.vars.Nodup
 dbg:∀x∈X.vars,(x==("__debug__":Str))=false
 dbgc:∀x∈X.cv,(x.1==("__debug__":Str))=false/\(x.1==("__classdict__":Str))=false
noncomputable def kg:List Str->Bool
 |[]=>true
 |x::Z=>!Z.contains x&&kg Z
theorem EL:kg []=(true):=rfl
theorem Ej(x xs):kg (x::xs)=(!xs.contains x&&kg xs):=rfl
theorem du:∀{Z:List Str},kg Z=true->Z.Nodup
 |[],_=>rX
 |x::Z,h=>by
  dsimp only [EL,Ej]at h
  rw [cR,mW]at h
  refine mO.mpr ⟨fun Y=>?_,du h.2⟩;rw [rg.mpr Y]at h
  exact absurd h.1 (by decide)
noncomputable def VI(sc:Scope)(vars Z:List Str):Bool:=
 decide (sc.kind=.function)&&vars.all (fun x=>decide (sc.names.lookup x=some .local)&&!(x==("__debug__":Str)))&&kg vars &&
 Z.all (fun x=>decide (sc.names.lookup x=some .cell\/sc.names.lookup x=some .free)&&!(x==("__debug__":Str))&&!(x==("__classdict__":Str)))
theorem bA.of{X:Cx}(h:VI X.env.scope X.vars (X.cv.map (·.1))=true)(W:X.env.globals=mainGlobals)(Y:X.env.builtins=builtinsNs):bA X:=by
 unfold VI at h
 simp only [cR,dl,gJ,mW,iq]at h
 obtain⟨⟨⟨a,c⟩,d⟩,e⟩:=h;exact⟨a,W,Y,fun x Z=>(c x Z).1,fun x Z=>(e x.1 ⟨x,Z,rfl⟩).1.1,du d,fun x Z=>(c x Z).2,fun x Z=>⟨(e x.1 ⟨x,Z,rfl⟩).1.2,(e x.1 ⟨x,Z,rfl⟩).2⟩⟩
structure jb(b:Nat)(A:Around):Prop where
 dep:A.depth+b<recursionLimit
 uni:A.units+8*b+100<cLine
 hnd:A.handled=none
noncomputable def bf:Value->Shared->Prop:=fun _ _=>False
inductive aL(T:Tp)(X:Cx)(R:Fz)(W:Wd)(s:Shared)(pv:PV)(σ':AS)(v:Value)(s':Shared):Prop
 |mk(W':Wd)(g:cH W s.heap W' s'.heap)(hv:bk W' pv v)(hr:cj T X R W' σ' s')
noncomputable abbrev ER:=AS->Option (PV×AS)
structure aN(T:Tp)(b:Nat)(X:Cx)(e:Expr)(f:ER):Prop where
 go:
  ∀A R W σ s pv σ',jb b A->f σ=some (pv,σ')->cj T X R W σ s->wpAny (model T.prog T.w) A (eval e X.env) (aL T X R W s pv σ') bf s
theorem ar{E:Value->Shared->Prop}:∀e s,bf e s->E e s:=fun _ _ h=>h.elim
section
variable {T:Tp}{X:Cx}{R:Fz}{W:Wd}{σ:AS}{s s':Shared}{b:Nat}{A:Around}
theorem gQ.ext(h:gQ T R W σ.st s)(Z:∀b o,s.heap.get? b=some o->s'.heap.get? b=some o)(Q:s'.gens=s.gens)(N:s'.os=s.os):gQ T R W σ.st s' where
 top:=h.top
 hF:=fun a o e=>Z a o (h.hF a o e)
 hR:=fun a o e=>Z a o (h.hR a o e)
 hG:=fun g x e=>by rw [Q];exact h.hG g x e
 trk:=fun i H e=>let⟨U,o,V,Y⟩:=h.trk i H e;⟨U,o,Z _ _ V,Y⟩
 fre:=fun i M=>let⟨U,V,Y,o,S⟩:=h.fre i M;⟨U,V,Y,o,Z _ _ S⟩
 inj:=h.inj
 tabs:=fun P I=>let⟨U,V,O,Y,S⟩:=h.tabs P I;⟨U,V,O,Z _ _ Y,S⟩
 bare:=by rw [Q];exact h.bare
 os:=by rw [N];exact h.os
 sysm:=h.sysm
theorem Nv.ext{loc:List (Option PV)}(h:Nv T X R W loc s)(Z:∀b o,s.heap.get? b=some o->s'.heap.get? b=some o):Nv T X R W loc s':=
 ⟨let⟨m,V,Y⟩:=h.m;⟨m,V.keeps Z,Y⟩,h.nF,h.nR,h.t,h.ρ,h.cv⟩
theorem cj.ext(h:cj T X R W σ s)(Z:∀b o,s.heap.get? b=some o->s'.heap.get? b=some o)(V:s'.gens=s.gens)(Y:s'.os=s.os):cj T X R W σ s':=
 ⟨h.r.ext Z V Y,h.l.ext Z,h.nx⟩
theorem cj.tok(h:cj T X R W σ s)(k:Nat):cj T X R W σ {s with toks:=k}:=h.ext (fun _ _ e=>e) rfl rfl
theorem cj.push(h:cj T X R W σ s)(o:Obj)(k:Nat):cj T X R W σ {s with heap:=s.heap.push o,toks:=k}:=
 h.ext (fun _ _ e=>dU _ e) rfl rfl
theorem cH.push(W:Wd)(h:Heap)(o:Obj):cH W h W (h.push o):=cH.keep fun _ _ e=>dU _ e
theorem eh{W:Wd}(i:Int)(t:Tok):bk W (.int i) (.int i t):=⟨t,rfl⟩
theorem nA{W:Wd}(x:Str)(t:Tok):bk W (.str x) (.str x t):=⟨t,rfl⟩
theorem fY{W:Wd}(x:Bool):bk W (.bool x) (.bool x):=rfl
theorem Dz{W:Wd}:bk W .none .none:=rfl
theorem aL.same(h:cj T X R W σ s){Z:PV}{v:Value}{k:Nat}(Y:bk W Z v):aL T X R W s Z σ v {s with toks:=k}:=
 ⟨W,cH.refl ..,Y,h.tok k⟩
theorem aL.same'(h:cj T X R W σ s){Z:PV}{v:Value}(Y:bk W Z v):aL T X R W s Z σ v s:=
 ⟨W,cH.refl ..,Y,h⟩
theorem aL.from{Y:Shared}{V:Wd}{S:PV}{U:AS}{v:Value}{Z:Shared}(g:cH W s.heap V Y.heap)(h:aL T X R V Y S U v Z):aL T X R W s S U v Z:=
 let⟨N,O,Q,P⟩:=h;⟨N,g.trans O,Q,P⟩
end
noncomputable abbrev GR:=List PV->ER
noncomputable abbrev g1(f:PV->ER):GR
 |[p]=>f p
 |_=>fun _=>none
noncomputable abbrev g2(f:PV->PV->ER):GR
 |[p,q]=>f p q
 |_=>fun _=>none
noncomputable abbrev g3(f:PV->PV->PV->ER):GR
 |[p,q,r]=>f p q r
 |_=>fun _=>none
noncomputable abbrev oq(f:Int->ER):PV->ER
 |.int a=>f a
 |_=>fun _=>none
noncomputable abbrev vY(f:Str->ER):PV->ER
 |.str a=>f a
 |_=>fun _=>none
noncomputable abbrev ES(f:Nat->ER):PV->ER
 |.loc i=>f i
 |_=>fun _=>none
noncomputable def ud(i:Nat)(f:List PV->ER):ER:=fun Z=>match Z.st.lookup i with
 |some (.list Y)=>f Y Z
 |_=>none
noncomputable def zJ(i:Nat)(f:List PV->ER):ER:=ud i fun Z Y=>if Z.length<=2^20 then f Z Y else none
noncomputable def fS{X Y:Type}(f:AS->Option (X×AS))(g:X->AS->Option Y):AS->Option Y:=fun W=>match f W with
 |some (p,Z)=>g p Z
 |none=>none
theorem aS{W X:Type}{f:AS->Option (W×AS)}{g:W->AS->Option X}{Y:AS}{r:X}(h:fS f g Y=some r):∃p Z,f Y=some (p,Z)/\g p Z=some r:=by
 unfold fS at h
 cases e:f Y with
 |none=>rw [e]at h;exact aW h
 |some x=>rw [e]at h;exact⟨x.1,x.2,rfl,h⟩
theorem aY{Z X:Type}{f:AS->Option (Z×AS)}{g:Z->AS->Option X}{Y σ₁:AS}{p:Z}(h:f Y=some (p,σ₁)):fS f g Y=g p σ₁:=by unfold fS;rw [h]
noncomputable def dN:Option AO->Option (List PV)
 |some (.list Z)=>some Z
 |_=>none
theorem gC{o:Option AO}{Z:List PV}(h:dN o=some Z):o=some (.list Z):=by
 cases o with
 |none=>exact aW h
 |some Y=>cases Y with
  |list l=>obtain rfl:=(aZ h).symm;rfl
  |_=>exact aW h
noncomputable def oe:Option AO->Option (List (Str×PV))
 |some (.dict Z)=>some Z
 |_=>none
theorem pc{o:Option AO}{Z:List (Str×PV)}(h:oe o=some Z):o=some (.dict Z):=by
 cases o with
 |none=>exact aW h
 |some Y=>cases Y with
  |dict l=>obtain rfl:=(aZ h).symm;rfl
  |_=>exact aW h
section
variable {W:Wd}{σ τ:AS}{r:PV×AS}{p q:PV}{u:Value}{vs:List Value}
@[elab_as_elim] theorem bx{G:PV->AS->Prop}(h:some (p,σ)=some (q,τ))(k:G p σ):G q τ:=by cases h;exact k
theorem gU{c:Prop}[Decidable c]{Y:Type}{a:Option Y}{r:Y}{G:Prop}(h:(if c then a else none)=some r)(k:c->a=some r->G):G:=by
 by_cases Z:c
 .rw [aC Z]at h;exact k Z h
 .rw [aF Z]at h;exact aW h
@[elab_as_elim] theorem Fw{G:List Value->Prop}{f:PV->ER}{Z:List PV}(h:g1 f Z σ=some r)(X:aP W Z vs)(k:∀p u,f p σ=some r->bk W p u->G [u]):G vs:=by
 cases Z with
 |nil=>exact aW h
 |cons p Z=>cases Z with
  |cons _ _=>exact aW h
  |nil=>obtain⟨u,Y,rfl,V,rfl⟩:=X;exact k p u h V
@[elab_as_elim] theorem KD{G:List Value->Prop}{f:PV->PV->ER}{Z:List PV}(h:g2 f Z σ=some r)(Y:aP W Z vs)(k:∀p q u v,f p q σ=some r->bk W p u->bk W q v->G [u,v]):G vs:=by
 cases Z with
 |nil=>exact aW h
 |cons p Z=>cases Z with
  |nil=>exact aW h
  |cons q Z=>cases Z with
   |cons _ _=>exact aW h
   |nil=>obtain⟨u,_,rfl,V,v,_,rfl,X,rfl⟩:=Y;exact k p q u v h V X
@[elab_as_elim] theorem VT{G:List Value->Prop}{f:PV->PV->PV->ER}{Z:List PV}(h:g3 f Z σ=some r)(X:aP W Z vs)(k:∀p q Y u v w,f p q Y σ=some r->bk W p u->bk W q v->bk W Y w->G [u,v,w]):G vs:=by
 cases Z with
 |nil=>exact aW h
 |cons p Z=>cases Z with
  |nil=>exact aW h
  |cons q Z=>cases Z with
   |nil=>exact aW h
   |cons Y Z=>cases Z with
    |cons _ _=>exact aW h
    |nil=>obtain⟨u,_,rfl,T,v,_,rfl,U,w,_,rfl,V,rfl⟩:=X;exact k p q Y u v w h T U V
@[elab_as_elim] theorem eV{G:Value->Prop}{f:Int->ER}(h:oq f p σ=some r)(Z:bk W p u)(k:∀a t,f a σ=some r->G (.int a t)):G u:=by
 cases p with
 |int a=>obtain⟨t,rfl⟩:=Z;exact k a t h
 |_=>exact aW h
@[elab_as_elim] theorem jY{G:Value->Prop}{f:Str->ER}(h:vY f p σ=some r)(Z:bk W p u)(k:∀a t,f a σ=some r->G (.str a t)):G u:=by
 cases p with
 |str a=>obtain⟨t,rfl⟩:=Z;exact k a t h
 |_=>exact aW h
@[elab_as_elim] theorem pP{G:Value->Prop}{f:Nat->ER}(h:ES f p σ=some r)(Z:bk W p u)(k:∀i,f i σ=some r->i<W.n->G (.ref (W.ρ i))):G u:=by
 cases p with
 |loc i=>obtain⟨Y,rfl⟩:=Z;exact k i h Y
 |_=>exact aW h
theorem yx{G:Prop}{i:Nat}{f:List PV->ER}(h:ud i f σ=some r)(k:∀Z,σ.st.lookup i=some (.list Z)->f Z σ=some r->G):G:=by
 unfold ud at h
 cases e:σ.st.lookup i with
 |none=>rw [e]at h;exact aW h
 |some Y=>cases Y with
  |list Z=>rw [e]at h;exact k Z e h
  |_=>rw [e]at h;exact aW h
theorem jE{i:Nat}{f:List PV->ER}{Z:List PV}(h:σ.st.lookup i=some (.list Z)):ud i f σ=f Z σ:=by unfold ud;rw [h]
theorem EA{G:Prop}{i:Nat}{f:List PV->ER}(h:zJ i f σ=some r)(k:∀Z,σ.st.lookup i=some (.list Z)->Z.length<=2^20->f Z σ=some r->G):G:=yx h fun Z e h=>gU h fun Y h=>k Z e Y h
theorem mi{i:Nat}{f:List PV->ER}{Z:List PV}(h:σ.st.lookup i=some (.list Z))(Y:Z.length<=2^20):zJ i f σ=f Z σ:=(jE h).trans (aC Y)
theorem dh{Y Z:Type}{o:Option Y}{f:Y->Option Z}{r:Z}{G:Prop}(h:o.bind f=some r)(k:∀x,o=some x->f x=some r->G):G:=by
 cases o with
 |none=>exact aW h
 |some x=>exact k x rfl h
end
noncomputable def zB(T:Tp)(b:Nat)(t:Value->Sem Value)(g:PV->ER):Prop:=
 ∀X A R W Y s p u V Z,jb b A->g p Y=some (V,Z)->cj T X R W Y s->bk W p u->wpAny (model T.prog T.w) A (t u) (aL T X R W s V Z) bf s
noncomputable def bH(T:Tp)(b:Nat)(t:Value->Value->Sem Value)(g:PV->PV->ER):Prop:=
 ∀X A R W Y s p q u v V Z,jb b A->g p q Y=some (V,Z)->cj T X R W Y s->bk W p u->bk W q v->wpAny (model T.prog T.w) A (t u v) (aL T X R W s V Z) bf s
section
variable {T:Tp}{X:Cx}{b:Nat}
theorem aI{A:Around}{R:Fz}{W:Wd}{s:Shared}{p:PV}{V:AS}{t:Sem Value}{C:Value->Shared->Prop}{E:Value->Shared->Prop}
  (h:wpAny (model T.prog T.w) A t (aL T X R W s p V) bf s)
  (Q:∀Y v Z,cH W s.heap Y Z.heap->bk Y p v->cj T X R Y V Z->C v Z):wpAny (model T.prog T.w) A t C E s:=
 bG h (fun v Z ⟨Y,g,U,S⟩=>Q Y v Z g U S) ar
theorem dB{A:Around}{R:Fz}{W Y:Wd}{s Z:Shared}{t:Sem Value}{U:PV}{V:AS}(g:cH W s.heap Y Z.heap)
  (h:wpAny (model T.prog T.w) A t (aL T X R Y Z U V) bf Z):wpAny (model T.prog T.w) A t (aL T X R W s U V) bf Z:=
 bG h (fun _ _ S=>S.from g) ar
noncomputable def ab(Y:PV):ER:=fun Z=>some (Y,Z)
theorem aN.int(i:Int){k:Nat}{Z:Pos}:aN T b X (.Constant (.int i) k Z) (ab (.int i)):=by
 refine⟨?_⟩;intro A R W S s Q Y P U V;cases U;exact Kg (aL.same V (eh _ _))
theorem aN.str(x:Str){k:Nat}{Z:Pos}:aN T b X (.Constant (.str x) k Z) (ab (.str x)):=by
 refine⟨?_⟩;intro A R W S s Q Y P U V;cases U;exact BG (aL.same V (nA _ _))
theorem aN.bool(x:Bool){k:Nat}{Z:Pos}:aN T b X (.Constant (.bool x) k Z) (ab (.bool x)):=by
 refine⟨?_⟩;intro A R W S s Q Y P U V;cases U;exact HX (aL.same' V rfl)
theorem aN.none{k:Nat}{Z:Pos}:aN T b X (.Constant .none k Z) (ab .none):=by
 refine⟨?_⟩;intro A R W S s Q Y P U V;cases U;exact wpAny_Constant_none (aL.same' V rfl)
noncomputable def aa(i:Nat):ER:=fun Z=>(fB Z.loc i).bind fun p=>some (p,Z)
noncomputable def Ge:Option AO->Option PV
 |some (.cell (some p))=>some p
 |_=>none
theorem yv{o:Option AO}{p:PV}(h:Ge o=some p):o=some (.cell (some p)):=by
 cases o with
 |none=>exact aW h
 |some Z=>cases Z with
  |cell q=>cases q with
   |none=>exact aW h
   |some q=>obtain rfl:=(aZ h).symm;rfl
  |_=>exact aW h
noncomputable def bi(i:Nat):ER:=fun Z=>(Ge (Z.st.lookup i)).bind fun p=>some (p,Z)
theorem aN.loc(U:bA X)(i:Nat){x:Str}{pos:Pos}(Z:X.vars[i]?=some x:=by rfl):aN T b X (.Name x pos) (aa i):=by
 refine⟨?_⟩;intro A R W M s I Q H V S;refine dh V fun p e V=>bx V ?_
 obtain⟨m,O,N⟩:=S.l.m;obtain⟨v,P,Y⟩:=N i x p Z e;exact vb (AG U.kind (U.vars x (ic Z)) O P (aL.same' S Y)) (U.dbg x (ic Z))
theorem aN.glob(V:bA X)(i:Nat){x:Str}{v:Value}{Z:Pos}(S:T.gl[i]?=some (x,v):=by rfl)(Q:X.env.scope.names.lookup x=some .globalImplicit:=by left)(O:(x==("__debug__":Str))=false:=by rfl):
  aN T b X (.Name x Z) (ab (.val v)):=by
 refine⟨?_⟩;intro A R W I s H U F P Y;cases P;obtain⟨G,M,N⟩:=Y.r.top.glob i x v S s.heap Y.r.hF;exact vJ V.kind Q (GI (by rw [V.glob];exact M) N (aL.same' Y rfl)) O
theorem aN.blt(V:bA X)(i:Nat){x:Str}{v:Value}{Z:Pos}(S:T.bl[i]?=some (x,v):=by rfl)(Q:X.env.scope.names.lookup x=some .globalImplicit:=by left)(O:(x==("__debug__":Str))=false:=by rfl):
  aN T b X (.Name x Z) (ab (.val v)):=by
 refine⟨?_⟩;intro A R W G s F U C P Y;cases P;obtain⟨E,D,H,I,M,N⟩:=Y.r.top.blt i x v S s.heap Y.r.hF;exact vJ V.kind Q (Ko (by rw [V.glob];exact H) I (by rw [V.blt];exact M) N (aL.same' Y rfl)) O
theorem aN.cell(S:bA X)(j i:Nat){x:Str}{Q:Pos}(P:X.cv[j]?=some (x,i)):aN T b X (.Name x Q) (bi i):=by
 refine⟨?_⟩;intro A R W F s E I D O U;refine dh O fun p e O=>bx O ?_
 obtain⟨_,V⟩:=U.l.cv j x i P;obtain⟨M,G⟩:=S.dbgc (x,i) (ic P);obtain⟨_,o,H,v,Y,w,rfl,N⟩:=U.r.trk i _ (yv e);have Z:s.heap.IsCell (W.ρ i) (some w):=⟨_,H,Y⟩;rcases S.cvs (x,i) (ic P)with h|h
 .exact vb (wpAny_loadName_cell S.kind h V Z (aL.same' U N)) M
 .exact vb (wpAny_loadName_free S.kind h V Z (aL.same' U N) G) M
noncomputable def cY(f:ER)(g:PV->ER):ER:=fS f g
noncomputable def ae(Y Z:ER)(g:PV->PV->ER):ER:=fS Y fun p=>fS Z (g p)
theorem lx{f:ER}{g:PV->ER}{Y:AS}{r:PV×AS}(h:cY f g Y=some r):∃p Z,f Y=some (p,Z)/\g p Z=some r:=aS h
theorem lq{V W:ER}{g:PV->PV->ER}{U:AS}{r:PV×AS}(h:ae V W g U=some r):∃p Y q Z,V U=some (p,Y)/\W Y=some (q,Z)/\g p q Z=some r:=
 let⟨p,Y,e,h⟩:=aS h
 let⟨q,Z,S,h⟩:=aS h
 ⟨p,Y,q,Z,e,S,h⟩
theorem aN.binop{l r:Expr}{x:Operator}{z:Pos}{S U:ER}{g:PV->PV->ER}(I:aN T b X l S)(M:aN T b X r U)(k:bH T b (binaryOp x) g):
  aN T b X (.BinOp l x r z) (ae S U g):=by
 refine⟨?_⟩;intro A R W w s t B y j m;obtain⟨p,Y,q,Z,E,F,G⟩:=lq j;refine wpAny_BinOp (aI (I.1 A R W w s p Y y E m) fun C u N H n P=>?_);exact aI (M.1 A R C Y N q Z y F P) fun D v O V o Q=>dB (H.trans V) (k X A R D Z O p q u v t B y G Q (n.mono V.ext) o)
theorem aN.unop{x:Expr}{M:UnaryOp}{N:Pos}{f:ER}{g:PV->ER}(h:aN T b X x f)(D:zB T b (unaryOp M) g):
  aN T b X (.UnaryOp M x N) (cY f g):=by
 refine⟨?_⟩;intro A R W H s G O I C E;obtain⟨p,Z,Q,S⟩:=lx C;exact wpAny_UnaryOp (aI (h.1 A R W H s p Z I Q E) fun P u V U F Y=>dB U (D X A R P Z V p u G O I S Y F))
theorem aN.cmp{l r:Expr}{y:CmpOp}{z:Pos}{S U:ER}{g:PV->PV->ER}(I:aN T b X l S)(M:aN T b X r U)(j:bH T b (compareOp y) g)(k:behindInMarks y r=false:=by rfl):
  aN T b X (.Compare l [y] [r] z) (ae S U g):=by
 refine⟨?_⟩;intro A R W w s t B x i m;obtain⟨p,Y,q,Z,E,F,G⟩:=lq i;refine wpAny_Compare1 (aI (I.1 A R W w s p Y x E m) fun C u N H n P=>?_) k;exact aI (M.1 A R C Y N q Z x F P) fun D v O V o Q=>dB (H.trans V) (j X A R D Z O p q u v t B x G Q (n.mono V.ext) o)
end
noncomputable def fits(a:Int):Bool:=decide (a.natAbs<2^100000)
noncomputable def rS(a:Int):Bool:=decide (a.natAbs<2^8900)
noncomputable def gH(k:Int->Int->Option Int)(p q:PV):ER:=oq (fun a=>oq (fun b Z=>(k a b).bind fun c=>some (.int c,Z)) q) p
noncomputable def Nj(a b:Int):Option Int:=some (a+b)
noncomputable def Vb(a b:Int):Option Int:=some (a-b)
noncomputable def vG(a b:Int):Option Int:=if fits a&&fits b then some (a*b)else none
noncomputable def lP(a b:Int):Option Int:=if b≠0/\rS b=true then some (Int.fdiv a b)else none
noncomputable def yN(a b:Int):Option Int:=if b≠0 then some (Int.fmod a b)else none
noncomputable def Hc(a n:Int):Option Int:=if 0<=n/\n<=1000000/\a.natAbs<2^64 then some (a^n.toNat)else none
noncomputable def Ra(a n:Int):Option Int:=if 0<=n/\n<=100000/\fits a=true then some (a*2^n.toNat)else none
noncomputable def NC(a n:Int):Option Int:=if 0<=n then some (Int.fdiv a (2^n.toNat))else none
noncomputable def QO(a b:Int):Option Int:=some (Builtin.bitAnd a b)
noncomputable def Vy(a b:Int):Option Int:=some (Builtin.bitOr a b)
noncomputable def Qi(a b:Int):Option Int:=some (Builtin.bitXor a b)
noncomputable def cO:=gH Vb
noncomputable def cz:=gH vG
noncomputable def de:=gH lP
noncomputable def eu:=gH yN
noncomputable def xK:=gH Hc
noncomputable def eI:=gH Ra
noncomputable def eQ:=gH NC
noncomputable def iA:=gH QO
noncomputable def KA:=gH Vy
noncomputable def Me:=gH Qi
noncomputable def Iw(a b:Str):ER:=fun Z=>if a.length+b.length<=2^20 then some (.str (a++b),Z)else none
noncomputable def PT(i j:Nat):ER:=ud i fun X=>ud j fun Y Z=>if X.length+Y.length<=2^20 then some (.loc Z.nx,{Z with st:=(Z.nx,.list (X++Y))::Z.st,nx:=Z.nx+1})else none
noncomputable def ba(p q:PV):ER:=match p with
 |.str a=>vY (fun b=>Iw a b) q
 |.loc i=>ES (fun j=>PT i j) q
 |_=>gH Nj p q
noncomputable def jg(p q:PV):ER:=match p with
 |.str a=>vY (fun b=>Iw a b) q
 |_=>gH Nj p q
noncomputable def im(p:PV):ER:=oq (fun a=>ab (.int (-a))) p
noncomputable def nd(p:PV):ER:=oq (fun a=>ab (.int (Builtin.bitNot a))) p
noncomputable def Wd.add(W:Wd)(a:Addr):Wd:={W with ρ:=fun i=>if i=W.n then a else W.ρ i,n:=W.n+1}
noncomputable def Wd.fz(W:Wd)(a:Addr)(o:Obj):Wd:={W with F:=fun b=>if b=a then some o else W.F b}
theorem Wd.add_ext(W:Wd)(a:Addr):GK W (W.add a):=
 ⟨fun _ _ e=>e,jo _,fun i Z=>by show(if i=W.n then a else W.ρ i)=W.ρ i;rw [aF (gn Z)]⟩
theorem Wd.fz_ext(W:Wd){a:Addr}{o:Obj}(h:W.F a=none):GK W (W.fz a o):=
 ⟨fun b Z e=>by show(if b=a then some o else W.F b)=some Z;rw [aF (fun q=>by rw [q,h]at e;exact aW e)];exact e,bZ _,fun i Y=>rfl⟩
section
variable {T:Tp}{X:Cx}{R:Fz}{W:Wd}{σ:AS}{s:Shared}{b:Nat}{A:Around}
theorem aX{F:Addr->Option Obj}{h:Heap}(Y:FH F h){a:Addr}(Z:h.objs.size<=a):F a=none:=by
 cases e:F a with
 |none=>rfl
 |some o=>exact absurd (bL (Y a o e)) (kz.mpr Z)
theorem cj.newId(Z:cj T X R W σ s){o:Obj}(f:o.isFreed=false){ao:AO}(c:nM T.w (W.add s.heap.objs.size) ao o)(k:Nat):
  cH W s.heap (W.add s.heap.objs.size) (s.heap.push o)/\cj T X R (W.add s.heap.objs.size) {σ with st:=(σ.nx,ao)::σ.st,nx:=σ.nx+1} {s with heap:=s.heap.push o,toks:=k}:=by
 have U:=Wd.add_ext W s.heap.objs.size;have Y:(W.add s.heap.objs.size).ρ W.n=s.heap.objs.size:=by show(if W.n=W.n then _ else _)=_;rw [aC rfl]
 have V:∀i,i<(W.add s.heap.objs.size).n->i≠W.n->i<W.n:=fun i Q M=>by
  have:i<W.n+1:=Q;exact(eF M).elim (fun D=>EW D) (fun D=>(bb 0x20084210804000422 rfl this D:False).elim)
 refine⟨⟨U.F,fun a o e=>.inl e,U.n,U.ρ,fun _ o e=>⟨o,dU _ e⟩⟩,⟨?_,?_,?_⟩⟩
 .refine⟨Z.r.top,fun a O e=>dU _ (Z.r.hF a O e),fun a O e=>dU _ (Z.r.hR a O e),Z.r.hG,fun i z e=>?_,fun i Q=>?_,fun i j Q g e=>?_,fun P B=>?_,Z.r.bare,Z.r.os,fun i Q=>?_⟩
  .rw [cU]at e
   cases C:i==σ.nx with
   |true=>
    rw [C]at e;obtain rfl:=aZ e
    have Q:i=W.n:=(oA C).trans Z.nx;subst Q;exact⟨kB _,o,by rw [Y];exact iI _ f,c⟩
   |false=>
    rw [C]at e
    obtain⟨S,O,N,E⟩:=Z.r.trk i z e;exact⟨uV S,O,by rw [U.ρ i S];exact dU _ N,E.mono U⟩
  .by_cases M:i=W.n
   .subst M
    rw [Y];refine⟨aX Z.r.hF (bZ _),aX Z.r.hR (bZ _),fun B=>?_,o,iI _ f⟩;obtain⟨_,_,y,E,_⟩:=Z.r.tabs _ B;exact absurd (bL E) (eG _)
   .have h:=V i Q M
    rw [U.ρ i h];obtain⟨S,N,E,O,G⟩:=Z.r.fre i h;exact⟨S,N,E,O,dU _ G⟩
  .by_cases H:i=W.n<;>by_cases I:j=W.n
   .rw [H,I]
   .subst H
    have h:=V j g I;rw [Y,U.ρ j h]at e
    obtain⟨_,_,_,O,G⟩:=Z.r.fre j h;exact absurd (bL G) (by rw [<-e];exact eG _)
   .subst I
    have h:=V i Q H;rw [Y,U.ρ i h]at e
    obtain⟨_,_,_,O,G⟩:=Z.r.fre i h;exact absurd (bL G) (by rw [e];exact eG _)
   .have h:=V i Q H
    have d:=V j g I;rw [U.ρ i h,U.ρ j d]at e
    exact Z.r.inj i j h d e
  .obtain⟨S,N,y,E,G⟩:=Z.r.tabs P B
   exact⟨S,N,y,dU _ E,G⟩
  .by_cases M:i=W.n
   .subst M;rw [Y]
    obtain⟨a,O,S,N⟩:=Z.r.top.big;exact fun q=>absurd (bL (Z.r.hF a O S)) (by rw [q];exact kz.mpr (iR N))
   .have h:=V i Q M
    rw [U.ρ i h];exact Z.r.sysm i h
 .obtain⟨m,u,hl⟩:=Z.l.m
  refine⟨⟨m,u.push o,fun i x p S N=>let⟨v,E,G⟩:=hl i x p S N;⟨v,E,G.mono U⟩⟩,Z.l.nF,Z.l.nR,Z.l.t,fun i Q=>?_,fun j x i h=>?_⟩
  .by_cases M:i=W.n
   .subst M;rw [Y];exact sh u.lt
   .have h:=V i Q M
    rw [U.ρ i h];exact Z.l.ρ i h
  .obtain⟨S,N⟩:=Z.l.cv j x i h
   exact⟨uV S,by rw [U.ρ i S];exact N⟩
 .show σ.nx+1=W.n+1
  rw [Z.nx]
theorem cj.newF(Z:cj T X R W σ s){o:Obj}(y:o.isFreed=false)(k:Nat):
  cH W s.heap (W.fz s.heap.objs.size o) (s.heap.push o)/\(W.fz s.heap.objs.size o).F s.heap.objs.size=some o/\cj T X R (W.fz s.heap.objs.size o) σ {s with heap:=s.heap.push o,toks:=k}:=by
 have D:W.F s.heap.objs.size=none:=aX Z.r.hF (bZ _);have Q:=Wd.fz_ext W (o:=o) D;have V:∀b,b≠s.heap.objs.size->(W.fz s.heap.objs.size o).F b=W.F b:=fun b h=>by show(if b=_ then _ else _)=_;rw [aF h]
 have M:(W.fz s.heap.objs.size o).F s.heap.objs.size=some o:=by show(if _=_ then _ else _)=_;rw [aC rfl]
 refine⟨⟨Q.F,fun a Y e=>?_,Q.n,Q.ρ,fun _ Y e=>⟨Y,dU _ e⟩⟩,M,⟨?_,?_,Z.nx⟩⟩
 .by_cases h:a=s.heap.objs.size
  .refine .inr ?_
   cases q:s.heap.get? a with
   |none=>rfl
   |some H=>exact absurd (bL q) (by rw [h];exact eG _)
  .rw [V a h]at e;exact .inl e
 .refine⟨Z.r.top.mono Q.F,fun a Y e=>?_,fun a Y e=>dU _ (Z.r.hR a Y e),Z.r.hG,fun i I e=>?_,fun i B=>?_,Z.r.inj,fun P w=>?_,Z.r.bare,Z.r.os,Z.r.sysm⟩
  .by_cases h:a=s.heap.objs.size
   .subst h;rw [M]at e;obtain rfl:=aZ e;exact iI _ y
   .rw [V a h]at e;exact dU _ (Z.r.hF a Y e)
  .obtain⟨N,Y,O,S⟩:=Z.r.trk i I e
   exact⟨N,Y,dU _ O,S.mono Q⟩
  .obtain⟨N,O,S,Y,U⟩:=Z.r.fre i B
   exact⟨(V _ (gn (bL U))).trans N,O,S,Y,dU _ U⟩
  .obtain⟨N,O,E,S,U⟩:=Z.r.tabs P w
   refine⟨(V _ (gn (bL S))).trans N,O,E,dU _ S,?_⟩;rcases U with U|⟨c,e,u⟩
   .exact .inl U
   .exact   .inr ⟨c,e,fun h z=>u h fun a Y j=>z a Y (Q.F a Y j)⟩
 .obtain⟨m,G,C⟩:=Z.l.m
  exact⟨⟨m,G.push o,fun i x p N O=>let⟨v,S,U⟩:=C i x p N O;⟨v,S,U.mono Q⟩⟩,(V _ (gn G.lt)).trans Z.l.nF,Z.l.nR,Z.l.t,Z.l.ρ,Z.l.cv⟩
theorem aP.length:∀{Y:List PV} {Z:List Value},aP W Y Z->Y.length=Z.length
 |[],_,h=>by rw [show _=[]from h];rfl
 |p::Y,Z,h=>by
  obtain⟨v,V,rfl,_,U⟩:=h;simp [aP.length U]
theorem aP.append:∀{S U:List PV} {V Z:List Value},aP W S V->aP W U Z->aP W (S++U) (V++Z)
 |[],_,_,_,h,Q=>by rw [show _=[]from h];exact Q
 |p::S,U,V,Z,h,Q=>by
  obtain⟨v,Y,rfl,O,P⟩:=h;exact⟨v,Y++Z,rfl,O,aP.append P Q⟩
theorem aP.get:∀{Y:List PV} {Z:List Value},aP W Y Z->∀{i:Nat} {p:PV},Y[i]?=some p->∃v,Z[i]?=some v/\bk W p v
 |[],_,h,i,p,e=>by trivial
 |p::Y,Z,h,0,q,e=>by
  obtain⟨v,V,rfl,S,U⟩:=h;obtain rfl:=aZ e;exact⟨v,rfl,S⟩
 |p::Y,Z,h,i+1,q,e=>by
  obtain⟨v,V,rfl,S,U⟩:=h;exact aP.get U (i:=i) (p:=q) (by simpa using e)
theorem aP.set:∀{V:List PV} {Y:List Value},aP W V Y->∀{i:Nat} {p:PV} {v:Value},bk W p v->aP W (V.set i p) (Y.set i v)
 |[],_,h,i,p,v,U=>by rw [show _=[]from h];rfl
 |p::V,Y,h,0,q,u,U=>by
  obtain⟨v,Z,rfl,Q,S⟩:=h;exact⟨u,Z,rfl,U,S⟩
 |p::V,Y,h,i+1,q,u,U=>by
  obtain⟨v,Z,rfl,Q,S⟩:=h;exact⟨v,Z.set i u,rfl,Q,aP.set S U⟩
theorem ve(V:cj T X R W σ s){Z:List PV}{Y:List Value}(U:aP W Z Y)(S:Z.length<=2^20):
  wpAny (model T.prog T.w) A (newList Y) (aL T X R W s (.loc σ.nx) {σ with st:=(σ.nx,.list Z)::σ.st,nx:=σ.nx+1}) bf s:=by
 refine wpAny_newList ?_ (by rw [<-U.length];exact bJ S (by decide))
 have h:=V.newId (o:={cls:=.type "list",data:=.seq Y.toArray}) rfl (ao:=.list Z) ⟨_,_,rfl,by simpa using U.mono (Wd.add_ext W s.heap.objs.size)⟩ s.toks;refine⟨_,h.1,⟨by rw [V.nx];exact kB _,?_⟩,h.2⟩;show Value.ref _=.ref (if σ.nx=W.n then _ else _);rw [aC V.nx]
theorem sS(S:cj T X R W σ s){Y:List PV}{Z:List Value}(V:aP W Y Z)(U:Y.length<=2^20):
  wpAny (model T.prog T.w) A (newTuple Z) (aL T X R W s (.tup Y) σ) bf s:=by
 refine wpAny_newTuple ?_ (by rw [<-V.length];exact bJ U (by decide))
 have h:=S.newF (o:={cls:=.type "tuple",data:=.seq Z.toArray}) rfl s.toks;exact⟨_,h.1,⟨_,Z.toArray,0,rfl,h.2.1,by simpa using V.mono h.1.ext⟩,h.2.2⟩
end
theorem mC{c:Int}(X:fits c=true):Builtin.Int.intBits c<=100001:=by
 unfold Builtin.Int.intBits
 split
 .exact uZ 0x61a84a008020 rfl
 .rename_i h
  have W:c≠0:=fun e=>h (by rw [e];rfl)
  have:c.natAbs.log2<100000:=(Bk (by exact(fun Y=>(FF W).elim (fun Z=>hH 0x86800954401481090802000823 rfl Y Z (pC (gW 0x29021010052042421 rfl Z))) (fun Z=>hH 0x4000954408005290802000823 rfl Y Z (fF (Bv Z)))))).mpr (gw X);exact aH 0x61a84a10800200461a80a000421 rfl this
theorem xO{a b:Int}(Y:fits a=true)(Z:fits b=true):IntMulOk a b:=by
 have W:=mC Y;have X:=mC Z;unfold IntMulOk Builtin.Int.intTooBig bitsLine;intro h;simp only [cR,gJ]at h
 exact bb 0x10240048804000000192908c350942000461a84a000023 rfl W X h.2
theorem px{a b:Int}(X:rS b=true):Builtin.divisionGoesByPylong a b=false:=by
 have:(if b==0 then 0 else b.natAbs.log2/30+1)<=300:=by
  split
  .exact uZ 0x4b08008020 rfl
  .rename_i h
   have W:b≠0:=fun e=>h (by rw [e];rfl)
   have:b.natAbs.log2<8900:=(Bk (by exact(fun Y=>(FF W).elim (fun Z=>hH 0x86800954401481090802000823 rfl Y Z (pC (gW 0x29021010052042421 rfl Z))) (fun Z=>hH 0x4000954408005290802000823 rfl Y Z (fF (Bv Z)))))).mpr (gw X);exact ci 0x258408420103c0008010786210408b10a000422 rfl this (dF _ 30)
 unfold Builtin.divisionGoesByPylong;simp only [Bool.and_eq_false_imp,gJ,vd]
 omega
section
variable {T:Tp}{b:Nat}
theorem bH.int{U:Value->Value->Sem Value}{k:Int->Int->Option Int}(h:∀X A R W Y s a c d t V,jb b A->k a c=some d->cj T X R W Y s->wpAny (model T.prog T.w) A (U (.int a t) (.int c V)) (aL T X R W s (.int d) Y) bf s):bH T b U (gH k):=by
 intro X A R W Y s p q u v I S M Z O P Q;exact eV Z P fun a t Z=>eV Z Q fun c V Z=>dh Z fun d N Z=>bx Z (h X A R W Y s a c d t V M N O)
theorem gk:bH T b (binaryOp .Sub) cO:=.int fun X A R W V s a c d t U S Y Z=>by
 cases Y;with_reducible exact PyProof.Rows.sub_int (aL.same Z (eh _ _))
theorem Sa:bH T b (binaryOp .BitOr) KA:=.int fun X A R W V s a c d t U S Y Z=>by
 obtain rfl:=aZ Y;with_reducible exact PyProof.Rows.or_int (aL.same Z (eh _ _))
theorem xD{a c:Int}(h:0<=c/\c<=100000/\fits a=true):((Builtin.Int.intBits a:Nat):Int)+c<=2^27:=by have:=mC h.2.2;have:=h.2.1;omega
theorem fE:bH T b (binaryOp .Mult) cz:=.int fun X A R W U s a c d t S Q Y V=>gU Y fun Z Y=>by
 cases Y;with_reducible exact PyProof.Rows.mul_int (aL.same V (eh _ _)) (xO (lb.mp Z).1 (lb.mp Z).2)
theorem kY:bH T b (binaryOp .LShift) eI:=.int fun X A R W U s a c d t S Q Y V=>gU Y fun Z Y=>by
 cases Y;with_reducible exact PyProof.Rows.lshift_int Z.1 (xD Z) (aL.same V (eh _ _))
theorem lI:bH T b (binaryOp .RShift) eQ:=.int fun X A R W S s a c d t Q U Y V=>gU Y fun Z Y=>by
 cases Y;with_reducible exact PyProof.Rows.rshift_int_or U.hnd (fun h=>absurd Z (AE.mpr h)) (fun _=>aL.same V (eh _ _))
theorem BQ:bH T b (inplaceOp .Sub) cO:=.int fun X A R W V s a c d t U S Y Z=>by
 cases Y;with_reducible exact PyProof.Rows.isub_int (aL.same Z (eh _ _))
theorem SV:bH T b (inplaceOp .BitOr) KA:=.int fun X A R W V s a c d t U S Y Z=>by
 obtain rfl:=aZ Y;with_reducible exact PyProof.Rows.ior_int (aL.same Z (eh _ _))
theorem Hf:bH T b (inplaceOp .LShift) eI:=.int fun X A R W U s a c d t S Q Y V=>gU Y fun Z Y=>by
 cases Y;with_reducible exact PyProof.Rows.ilshift_int Z.1 (xD Z) (aL.same V (eh _ _))
theorem QL:bH T b (inplaceOp .RShift) eQ:=.int fun X A R W S s a c d t Q U Y V=>gU Y fun Z Y=>by
 cases Y;with_reducible exact PyProof.Rows.irshift_int_or U.hnd (fun h=>absurd Z (AE.mpr h)) (fun _=>aL.same V (eh _ _))
theorem tc:bH T b (binaryOp .BitAnd) iA:=.int fun X A R W V s a c d t U S Y Z=>by
 obtain rfl:=aZ Y;with_reducible exact PyProof.Rows.and_int (aL.same Z (eh _ _))
theorem UE:bH T b (binaryOp .BitXor) Me:=.int fun X A R W V s a c d t U S Y Z=>by
 obtain rfl:=aZ Y;with_reducible exact PyProof.Rows.xor_int (aL.same Z (eh _ _))
theorem mE:bH T b (binaryOp .FloorDiv) de:=.int fun X A R W U s a c d t S Q Y V=>gU Y fun Z Y=>by
 cases Y;with_reducible exact PyProof.Rows.floordiv_int Z.1 (aL.same V (eh _ _)) (.inl (px Z.2))
theorem lS:bH T b (binaryOp .Mod) eu:=.int fun X A R W U s a c d t S Q Y V=>gU Y fun Z Y=>by
 cases Y;with_reducible exact PyProof.Rows.mod_int' Z (aL.same V (eh _ _))
theorem Ok:bH T b (binaryOp .Pow) xK:=.int fun X A R W U s a c d t S Q Y V=>gU Y fun Z Y=>by
 cases Y;with_reducible exact PyProof.Rows.pow_int_small Z.1 Z.2.1 Z.2.2 (aL.same V (eh _ _))
theorem Rc:bH T b (binaryOp .Add) (gH Nj):=.int fun X A R W V s a c d t U S Y Z=>by
 cases Y;with_reducible exact PyProof.Rows.add_int (aL.same Z (eh _ _))
theorem Lm:bH T b (inplaceOp .Add) (gH Nj):=.int fun X A R W V s a c d t U S Y Z=>by
 cases Y;with_reducible exact PyProof.Rows.iadd_int (aL.same Z (eh _ _))
theorem oZ:zB T b (unaryOp .USub) im:=by
 intro X A R W S s p u Q Y P Z U V;exact eV Z V fun a t Z=>bx Z (by with_reducible exact PyProof.Rows.neg_int (aL.same U (eh _ _)))
theorem CQ:zB T b (unaryOp .Invert) nd:=by
 intro X A R W S s p u Q Y P Z U V;exact eV Z V fun a t Z=>bx Z (by with_reducible exact PyProof.Rows.invert_int (aL.same U (eh _ _)))
theorem FU{h:Heap}{l:Addr}{Z:Array Value}{n:Nat}(e:h.get? l=some {cls:=.type "list",data:=.seq Z n}):IsL h l Z n:=e
theorem xE{X:Cx}{R:Fz}{W:Wd}{S:AS}{s:Shared}{A:Around}{x y:Str}{V:PV}{Z:AS}(U:Iw x y S=some (V,Z))(Q:cj T X R W S s)(t Y:Tok):
  wpAny (model T.prog T.w) A (binaryOp .Add (.str x t) (.str y Y)) (aL T X R W s V Z) bf s/\wpAny (model T.prog T.w) A (inplaceOp .Add (.str x t) (.str y Y)) (aL T X R W s V Z) bf s:=by
 refine gU U fun P U=>bx U ?_
 exact⟨by with_reducible exact PyProof.Rows.add_str (fun Y k=>aL.same Q (nA _ _)) (bJ P (by decide)),by with_reducible exact PyProof.Rows.iadd_str (fun Y k=>aL.same Q (nA _ _)) (bJ P (by decide))⟩
theorem qL:bH T b (inplaceOp .Add) jg:=by
 intro X A R W Q s p q u v O Y N Z S U V;cases p with
 |str a=>
  obtain⟨t,rfl⟩:=U;exact jY Z V fun c P Z=>(xE Z S t P).2
 |int a=>exact Lm X A R W Q s (.int a) q u v O Y N Z S U V
 |_=>exact aW Z
theorem bR:bH T b (binaryOp .Add) ba:=by
 intro X A R W H s p q u v D S y Z Y M N;cases p with
 |str a=>
  obtain⟨t,rfl⟩:=M;exact jY Z N fun c E Z=>(xE Z Y t E).1
 |loc i=>
  obtain⟨e,rfl⟩:=M;refine pP Z N fun j Z f=>yx Z fun F l Z=>yx Z fun G m Z=>gU Z fun z Z=>bx Z ?_
  obtain⟨_,o,C,O,n,rfl,U⟩:=Y.r.trk i _ l;obtain⟨_,k,I,Q,g,rfl,V⟩:=Y.r.trk j _ m;have B:O.size+Q.size<=2^20:=by
   have w:F.length=O.size:=U.length;have x:G.length=Q.size:=V.length;exact gP 0x10000030c020080118020144400005100020000060800010023 rfl z w x
  with_reducible refine P.add_list (FU C) (FU I) ?_ (bJ B (by decide))
  have h:=Y.newId (o:={cls:=.type "list",data:=.seq (O++Q)}) rfl (ao:=.list (F++G)) ⟨_,_,rfl,by
   rw [IT];exact(U.append V).mono (Wd.add_ext W s.heap.objs.size)⟩ s.toks
  refine⟨_,h.1,⟨by rw [Y.nx];exact kB _,?_⟩,h.2⟩;show Value.ref _=.ref (if H.nx=W.n then _ else _);rw [aC Y.nx]
 |int a=>exact Rc X A R W H s (.int a) q u v D S y Z Y M N
 |_=>exact aW Z
end
section
variable {prog:Program}{w:World}{A:Around}{E:Value->Shared->Prop}{s:Shared}
theorem wD{a:Addr}{o:Obj}{Y:Array (Int×Value)}{T:Nat}{t:SetTable}{Q:Value->Shared->Prop}
  (W:s.heap.get? a=some o) (hex:o.ExactSet) (U:o.data=.set Y T t) (V:t.fits Y.size=true) (Z:(Y.size:Int)<2^63)
  (h:Q (.int Y.size (s.toks+1)) {s with toks:=s.toks+1+1}):wpAny (model prog w) A (runValue (.builtin "len" ⟨[.ref a],[]⟩)) Q E s:=by
 refine uU (codeAny_builtin entry_len ?_);rw [Around.under_plainId plain_len _];exact bG (wpAny_len_body_set (Q:=Q) W hex U V Z h) (fun fin S ⟨r,e,X⟩=>by subst e;exact X) fun _ _ e=>e
theorem zs{a:Addr}{o:Obj}{Z:List Int}{Q:Bool->Shared->Prop}(T:s.heap.get? a=some o)(M:o.SetObjOf (PySem.intKind prog w) (fun k=>decide (k∈Z)) Z.length)(Y:Z.length<=2^30)
  (h:Q (!Z.isEmpty) {s with toks:=s.toks+1+1}):wpAny (model prog w) A (truthy (.ref a)) Q E s:=by
 obtain⟨hex,O,z,t,D,G,R,S,H⟩:=M;have P:s.TypeIs (.ref a) "set":=⟨o,T,hex.1⟩;have V:((O.size:Int) != 0)=!Z.isEmpty:=by
  rw [S];cases Z with
  |nil=>rfl
  |cons x B=>exact uM.mpr (by simp;exact fun N=>aH 0xa4214800912821 rfl N)
 have X:=wD (A:=A) (E:=E) (prog:=prog) (w:=w) (Q:=fun r U=>r=.int O.size (s.toks+1)/\Q (!Z.isEmpty) U) T hex D H (by rw [S];exact aH 0x80000000000000003a4004a42100000000c000021 rfl Y) ⟨rfl,h⟩;unfold truthy;refine aR (wpAny_callSpecial?_none (name:=Str.ofString "__bool__") P PySem.W.noBool_set ?_);refine aR (II (name:=Str.ofString "__len__") P F.slot_set_len.lookup ?_);exact aR (bG X (fun r U C=>by obtain⟨rfl,I⟩:=C;exact bo (V▸I)) fun _ _ e=>e)
theorem oz{Q:Nat->Shared->Prop}{src:Source}(h:∀d,Q 0 {s with drawn:=d}):wpAny (model prog w) A (choose src 1) Q E s:=by
 intro Y p Z;show 1≠0/\_;refine⟨Nat.one_ne_zero,?_⟩;rw [Nat.mod_one];exact h _
end
noncomputable def BZ:Option AO->Option Bool
 |some (.list Z)=>if Z.length<=2^30 then some (!Z.isEmpty)else none
 |some (.set Z)=>if Z.length<=2^30 then some (!Z.isEmpty)else none
 |_=>none
noncomputable def jC(st:List (Nat×AO)):PV->Option Bool
 |.none=>some false
 |.bool c=>some c
 |.int i=>some (i != 0)
 |.str x=>if x.length<=2^30 then some ((x.length:Int) != 0)else none
 |.tup Z=>if Z.length<=2^30 then some (!Z.isEmpty)else none
 |.loc i=>BZ (st.lookup i)
 |_=>none
inductive fg(T:Tp)(X:Cx)(R:Fz)(W:Wd)(s:Shared)(c:Bool)(σ':AS)(v:Bool)(s':Shared):Prop
 |mk(e:v=c)(W':Wd)(g:cH W s.heap W' s'.heap)(hr:cj T X R W' σ' s')
noncomputable abbrev BR:=AS->Option (Bool×AS)
structure fW(T:Tp)(b:Nat)(X:Cx)(e:Expr)(f:BR):Prop where
 go:
  ∀A R W σ s c σ',jb b A->f σ=some (c,σ')->cj T X R W σ s->wpAny (model T.prog T.w) A (isTrue e X.env (eval e X.env)) (fg T X R W s c σ') bf s
theorem fg.same{T:Tp}{X:Cx}{R:Fz}{W:Wd}{Z:AS}{s:Shared}(h:cj T X R W Z s){c:Bool}{k:Nat}:fg T X R W s c Z c {s with toks:=k}:=
 ⟨rfl,W,cH.refl ..,h.tok k⟩
theorem fg.from{T:Tp}{X:Cx}{R:Fz}{W V:Wd}{s Y:Shared}{c:Bool}{U:AS}{v:Bool}{Z:Shared}(g:cH W s.heap V Y.heap)(h:fg T X R V Y c U v Z):fg T X R W s c U v Z:=
 let⟨e,P,Q,S⟩:=h;⟨e,P,g.trans Q,S⟩
theorem ru{Z:List PV}{n:Nat}(h:Z.length=n):(!Z.isEmpty)=decide (n≠0):=by
 cases Z with
 |nil=>subst h;rfl
 |cons p Z=>subst h;rfl
theorem pt{Z:Array Value}{n:Nat}(h:n=Z.size):(!Z.isEmpty)=decide (n≠0):=by
 subst h;obtain⟨l⟩:=Z;cases l<;>rfl
section
variable {T:Tp}{X:Cx}{R:Fz}{W:Wd}{σ:AS}{s:Shared}{b:Nat}{A:Around}
theorem gq{p:PV}{u:Value}{c:Bool}(h:jC σ.st p=some c)(Y:cj T X R W σ s)(U:bk W p u):
  wpAny (model T.prog T.w) A (truthy u) (fg T X R W s c σ) bf s:=by
 cases p with
 |none=>subst U;obtain rfl:=aZ h;with_reducible exact truthy_none (fg.same (k:=s.toks) Y)
 |bool _=>subst U;obtain rfl:=(aZ h).symm;with_reducible exact wpAny_truthy_bool (fg.same (k:=s.toks) Y)
 |int _=>obtain⟨t,rfl⟩:=U;cases h;with_reducible exact PyProof.Rows.truthy_int (fg.same (k:=s.toks) Y)
 |str x=>
  obtain⟨t,rfl⟩:=U;refine gU h fun S h=>?_
  cases h
  with_reducible exact SBL.truthy (by omega) (fg.same Y)
 |tup P=>
  obtain⟨a,Q,n,rfl,I,V⟩:=U;refine gU h fun S h=>?_
  cases h;have Z:P.length=Q.size:=V.length;have N:IsTup s.heap a Q:=⟨_,Y.r.hF _ _ I,rfl,n,rfl⟩;refine truthy_tuple N (by exact(bb 0x20000000000000000e9081290840000a2100000000c000022 rfl S Z)) ?_
  rw [pt Z,ru rfl];exact fg.same Y
 |loc i=>
  obtain⟨F,rfl⟩:=U;have h:BZ (σ.st.lookup i)=some c:=h;cases e:σ.st.lookup i with
  |none=>rw [e]at h;exact aW h
  |some H=>
   rw [e]at h
   obtain⟨_,o,O,V⟩:=Y.r.trk i _ e;cases H with
   |list P=>
    obtain⟨Q,n,rfl,V⟩:=V;refine gU h fun S h=>?_
    cases h;have Z:P.length=Q.size:=V.length;refine wpAny_truthy_list ⟨_,O,rfl,n,rfl⟩ (by exact(bb 0x20000000000000000e9081290840000a2100000000c000022 rfl S Z)) ?_
    rw [pt Z,ru rfl];exact fg.same Y
   |set P=>
    obtain⟨G,rfl,M⟩:=V;refine gU h fun S h=>?_
    cases h;refine zs O (M _) (by simpa using S) ?_
    rw [List.isEmpty_map];exact fg.same Y
   |_=>exact aW h
 |_=>exact aW h
noncomputable def aq(f:ER):BR:=fS f fun p σ=>(jC σ.st p).bind fun c=>some (c,σ)
theorem kL{f:ER}{σ:AS}{r:Bool×AS}(h:aq f σ=some r):∃p,f σ=some (p,r.2)/\jC r.2.st p=some r.1:=
 let⟨p,_,e,h⟩:=aS h
 dh h fun c Z h=>by cases h;exact⟨p,e,Z⟩
theorem FN{p:PV}{Z:AS}{t:Sem Value}{c:Bool}(h:wpAny (model T.prog T.w) A t (aL T X R W s p Z) bf s)(Q:jC Z.st p=some c):
  wpAny (model T.prog T.w) A t (fun v Y=>wpAny (model T.prog T.w) A (truthy v) (fg T X R W s c Z) bf Y) bf s:=
 bG h (fun v Y ⟨V,g,U,S⟩=>bG (gq Q S U) (fun _ _ P=>P.from g) ar) ar
theorem fW.val{e:Expr}{f:ER}(h:aN T b X e f)(S:∀Z,isTrue e X.env Z=(do let v <-Z;standAt e.pos;holding [v] (truthy v)):=by intro _;rfl):fW T b X e (aq f):=by
 refine⟨?_⟩;intro A R W σ s c U O P Q;obtain⟨p,V,Y⟩:=kL P;exact wpAny_isTrue_value (FN (h.1 A R W σ s p U O V Q) Y) (S _)
noncomputable def SA(f:BR):BR:=fS f fun c σ=>some (!c,σ)
theorem fW.not{e:Expr}{V:Pos}{f:BR}(h:fW T b X e f):fW T b X (.UnaryOp .Not e V) (SA f):=by
 refine⟨?_⟩;intro A R W σ s c P O S U;obtain⟨Z,Y,e,S⟩:=aS S;cases S;exact wpAny_isTrue_Not (bG (h.1 A R W σ s Z _ O e U) (fun v Q ⟨e,N,g,U⟩=>⟨by rw [e],N,g,U⟩) ar)
theorem fW.cmp{l r:Expr}{o:CmpOp}{t:Pos}{Q S:ER}{g:PV->PV->ER}(G:aN T b X l Q)(H:aN T b X r S)(a:bH T b (compareOp o) g)(d:behindInMarks o r=false:=by rfl):
  fW T b X (.Compare l [o] [r] t) (aq (ae Q S g)):=by
 refine⟨?_⟩;intro A R W σ s c x n hf e;obtain⟨j,V,B⟩:=kL hf;obtain⟨p,Y,q,Z,V,C,D⟩:=lq V;refine wpAny_isTrue_Compare1 (aI (G.1 A R W σ s p Y n V e) fun y u I E f N=>?_) d;refine aI (H.1 A R y Y I q Z n C N) fun z v M U h O=>?_
 refine aI (a X A R z Z M p q u v j x n D O (f.mono U.ext) h) fun k w m F i P=>?_
 exact bG (gq B P i) (fun _ _ h'=>h'.from ((E.trans U).trans F)) ar
noncomputable def gG:BR:=fun σ=>some (true,σ)
noncomputable def ir:BR:=fun σ=>some (false,σ)
noncomputable def iy(f g:BR):BR:=fS f fun c=>cond c gG g
structure nY(T:Tp)(b:Nat)(X:Cx)(op:BoolOp)(es:List Expr)(f:BR):Prop where
 go:
  ∀A R W σ s c σ',jb b A->f σ=some (c,σ')->cj T X R W σ s->wpAny (model T.prog T.w) A (allTrue op es X.env) (fg T X R W s c σ') bf s
theorem nY.orNil:nY T b X .Or [] ir:=by
 refine⟨?_⟩;intro A R W σ s c Z U V Y;cases V;exact bo (fg.same (k:=s.toks) Y)
theorem nY.or{e:Expr}{G:List Expr}{f g:BR}(h:fW T b X e f)(F:nY T b X .Or G g):nY T b X .Or (e::G) (iy f g):=by
 refine⟨?_⟩;intro A R W σ s c N I O H;obtain⟨P,Y,Q,O⟩:=aS O;cases P with
 |false=>
  refine JA (bG (h.1 A R W σ s _ Y I Q H) (fun v S M=>?_) ar);obtain⟨rfl,U,V,Z⟩:=M;exact bG (F.1 A R U Y S c N I O Z) (fun _ _ q=>q.from V) ar
 |true=>
  cases O;refine JA (bG (h.1 A R W σ s _ _ I Q H) (fun v S M=>?_) ar);obtain⟨rfl,U,V,Z⟩:=M;exact⟨rfl,U,V,Z⟩
theorem fW.bool{V:BoolOp}{U:List Expr}{Y:Pos}{f:BR}(h:nY T b X V U f):fW T b X (.BoolOp V U Y) f:=by
 refine⟨?_⟩;intro A R W σ s c Z P Q S;exact wpAny_isTrue_BoolOp (h.1 A R W σ s c Z P Q S)
noncomputable def lD(t:BR)(f g:ER):ER:=fS t fun c=>cond c f g
theorem aN.ifexp{t x y:Expr}{N:Pos}{H:BR}{f g:ER}(E:fW T b X t H)(F:aN T b X x f)(G:aN T b X y g):aN T b X (.IfExp t x y N) (lD H f g):=by
 refine⟨?_⟩;intro A R W σ s I Q M O D;obtain⟨c,Z,P,O⟩:=aS O;refine wpAny_IfExp (bG (E.1 A R W σ s _ Z M P D) (fun v V C=>?_) ar);obtain⟨rfl,S,U,Y⟩:=C;cases v with
 |true=>exact dB U (F.1 A R S Z V I Q M O Y)
 |false=>exact dB U (G.1 A R S Z V I Q M O Y)
noncomputable def MY(k:Int->Int->Bool)(p q:PV):ER:=oq (fun a=>oq (fun b=>ab (.bool (k a b))) q) p
noncomputable def mQ:=MY fun a b=>decide (a<b)
noncomputable def EU:=MY fun a b=>decide (b<a)
noncomputable def PL:=MY fun a b=>decide (a<=b)
noncomputable def Oq:=MY fun a b=>decide (b<=a)
theorem sO:bH T b (compareOp .Lt) mQ:=by
 intro X A R W σ s p q u v P Y O Z S U V;exact eV Z U fun a t Z=>eV Z V fun c Q Z=>bx Z (by with_reducible exact PyProof.Rows.lt_int (aL.same' S (fY _)))
theorem Md:bH T b (compareOp .Gt) EU:=by
 intro X A R W σ s p q u v P Y O Z S U V;exact eV Z U fun a t Z=>eV Z V fun c Q Z=>bx Z (by with_reducible exact PyProof.Rows.gt_int (aL.same' S (fY _)))
theorem OY:bH T b (compareOp .LtE) PL:=by
 intro X A R W σ s p q u v P Y O Z S U V;exact eV Z U fun a t Z=>eV Z V fun c Q Z=>bx Z (by with_reducible exact PyProof.Rows.le_int (aL.same' S (fY _)))
theorem Ts:bH T b (compareOp .GtE) Oq:=by
 intro X A R W σ s p q u v P Y O Z S U V;exact eV Z U fun a t Z=>eV Z V fun c Q Z=>bx Z (by with_reducible exact PyProof.Rows.ge_int (aL.same' S (fY _)))
end
mutual
noncomputable def mm:PV->Option PyData
 |.none=>some .none
 |.bool b=>some (.bool b)
 |.int i=>some (.int i)
 |.str x=>some (.str x)
 |.tup Z=>(ee Z).map .tuple
 |_=>none
noncomputable def ee:List PV->Option (List PyData)
 |[]=>some []
 |p::Z=>match mm p,ee Z with
  |some d,some Y=>some (d::Y)
  |_,_=>none
end
noncomputable def oT(st:List (Nat×AO)):PV->Option PyData
 |.loc i=>match st.lookup i with
  |some (.list Z)=>(ee Z).map .list
  |_=>none
 |p=>mm p
set_option tactic.hygienic true in
mutual
theorem qN{W:Wd}{h:Heap}(V:FH W.F h):∀{p:PV} {d:PyData} {u:Value},mm p=some d->bk W p u->∃X,Reads h u d X
 |.none,d,u,e,Z=>by obtain rfl:=aZ e;subst Z;exact⟨_,.none⟩
 |.bool b,d,u,e,Z=>by obtain rfl:=aZ e;subst Z;exact⟨_,.bool b⟩
 |.int i,d,u,e,Z=>by obtain rfl:=aZ e;obtain⟨t,rfl⟩:=Z;exact⟨_,.int i t⟩
 |.str x,d,u,e,Z=>by obtain rfl:=aZ e;obtain⟨t,rfl⟩:=Z;exact⟨_,.str x t⟩
 |.tup U,d,u,e,Z=>by
  obtain⟨a,R,n,rfl,S,T⟩:=Z;replace e:(ee U).map PyData.tuple=some d:=e;obtain⟨Q,Y,rfl⟩:=kN.mp e;obtain⟨X,r⟩:=kC V Y T;exact⟨X,.tuple (V _ _ S) rfl rfl r⟩
 |.loc _,d,u,e,Z=>aW e
 |.val _,d,u,e,Z=>aW e
 |.hdr _ _,d,u,e,Z=>aW e
 |.rng _ _,d,u,e,Z=>aW e
 |.fl _,d,u,e,Z=>aW e
 |.clo ..,d,u,e,Z=>aW e
theorem kC{W:Wd}{h:Heap}(U:FH W.F h):∀{X:List PV} {Z:List PyData} {Y:List Value},ee X=some Z->aP W X Y->∃T,ReadsAll h Y Z T
 |[],Z,Y,e,V=>by obtain rfl:=aZ e;rw [show Y=[]from V];exact⟨_,.nil⟩
 |p::X,Z,Y,e,V=>by
  obtain⟨v,I,rfl,P,Q⟩:=V;replace e:(match mm p,ee X with|some d,some Z=>some (d::Z)|_,_=>none)=some Z:=e
  split at e
  .rename_i d M N O
   obtain rfl:=aZ e;obtain⟨T,R⟩:=qN U N P;obtain⟨H,S⟩:=kC U O Q;exact⟨_,.cons R S⟩
  .exact aW e
end
section
variable {T:Tp}{X:Cx}{R:Fz}{W:Wd}{σ:AS}{s:Shared}{b:Nat}{A:Around}
set_option tactic.hygienic true in
theorem ge(Y:cj T X R W σ s){p:PV}{d:PyData}{u:Value}(e:oT σ.st p=some d)(V:bk W p u):∃U,Reads s.heap u d U:=by
 cases p with
 |loc i=>
  obtain⟨M,rfl⟩:=V;simp only [oT]at e
  split at e
  .rename_i N P
   obtain⟨I,Z,rfl⟩:=kN.mp e;obtain⟨_,o,Q,O,n,rfl,S⟩:=Y.r.trk i _ P;obtain⟨U,r⟩:=kC Y.r.hF Z S;exact⟨_,.list Q rfl rfl r⟩
  .exact aW e
 |_=>exact qN Y.r.hF e V
noncomputable def fH(neg:Bool)(p q:PV):ER:=fun σ=>(oT σ.st p).bind fun d=>(oT σ.st q).bind fun e=>if SeqAt.shaped d&&SeqAt.shaped e then some (.bool (if neg then !PyData.eqv d e else PyData.eqv d e),σ)else none
theorem pb{neg:Bool}{p q:PV}{r:PV×AS}(h:fH neg p q σ=some r):∃d e,oT σ.st p=some d/\oT σ.st q=some e/\SeqAt.shaped d=true/\SeqAt.shaped e=true/\r=(.bool (if neg then !PyData.eqv d e else PyData.eqv d e),σ):=
 dh h fun d V h=>dh h fun e Y h=>gU h fun Z h=>⟨d,e,V,Y,(lb.mp Z).1,(lb.mp Z).2,(aZ h).symm⟩
noncomputable def jd(p q:PV):ER:=match p with
 |.int a=>(match q with|.int b=>ab (.bool (a==b))|_=>fH false p q)
 |.str a=>(match q with|.str b=>ab (.bool (a==b))|_=>fH false p q)
 |_=>fH false p q
noncomputable def mJ(p q:PV):ER:=match p with
 |.int a=>(match q with|.int b=>ab (.bool (a != b))|_=>fH true p q)
 |.str a=>(match q with|.str b=>ab (.bool (a != b))|_=>fH true p q)
 |_=>fH true p q
theorem jb.u64(h:jb b A):A.units+64<cLine:=by have:=h.uni;exact ci 0x40100800082110064204081800210421 rfl this
theorem mN:bH T b (compareOp .Eq) jd:=by
 intro X A R W σ s p q u v Q U M V S Y Z;have go {p q u v} (V:fH false p q σ=some (Q,U)) (Y:bk W p u) (Z:bk W q v):wpAny (model T.prog T.w) A (compareOp .Eq u v) (aL T X R W s Q U) bf s:=by
  obtain⟨d,e,E,F,H,I,G⟩:=pb V;cases G;obtain⟨C,N⟩:=ge S E Y;obtain⟨D,O⟩:=ge S F Z;exact SeqAt.compareEq_shaped N O H I M.u64 (aL.same' S (fY _))
 cases p with
 |int a=>
  cases q with
  |int b=>obtain⟨t,rfl⟩:=Y;obtain⟨P,rfl⟩:=Z;exact bx V (by with_reducible exact eq_int (aL.same' S (fY _)))
  |_=>exact go V Y Z
 |str a=>
  cases q with
  |str b=>obtain⟨t,rfl⟩:=Y;obtain⟨P,rfl⟩:=Z;exact bx V (by with_reducible exact eq_str (aL.same' S (fY _)))
  |_=>exact go V Y Z
 |_=>exact go V Y Z
theorem sW:bH T b (compareOp .NotEq) mJ:=by
 intro X A R W σ s p q u v Q U M V S Y Z;have go {p q u v} (V:fH true p q σ=some (Q,U)) (Y:bk W p u) (Z:bk W q v):wpAny (model T.prog T.w) A (compareOp .NotEq u v) (aL T X R W s Q U) bf s:=by
  obtain⟨d,e,E,F,H,I,G⟩:=pb V;cases G;obtain⟨C,N⟩:=ge S E Y;obtain⟨D,O⟩:=ge S F Z;exact SeqAt.compareNe_shaped N O H I M.u64 (aL.same' S (fY _))
 cases p with
 |int a=>
  cases q with
  |int b=>obtain⟨t,rfl⟩:=Y;obtain⟨P,rfl⟩:=Z;exact bx V (by with_reducible exact ne_int (aL.same' S (fY _)))
  |_=>exact go V Y Z
 |str a=>
  cases q with
  |str b=>obtain⟨t,rfl⟩:=Y;obtain⟨P,rfl⟩:=Z;exact bx V (by with_reducible exact ne_str (aL.same' S (fY _)))
  |_=>exact go V Y Z
 |_=>exact go V Y Z
noncomputable def TZ:PV->Option Bool
 |.none=>some true
 |.val _|.rng _ _|.fl _=>none
 |_=>some false
noncomputable def Ls(p q:PV):Option Bool:=match q with
 |.none=>TZ p
 |.bool d=>(match p with
  |.bool c=>some (c==d)
  |.none=>some false
  |_=>none)
 |.val w=>(match p with
  |.val v=>if plainIs v w then some (v==w)else none
  |_=>none)
 |_=>none
noncomputable def LD(p q:PV):ER:=fun σ=>(Ls p q).bind fun c=>some (.bool c,σ)
noncomputable def cK(p q:PV):ER:=fun σ=>(Ls p q).bind fun c=>some (.bool (!c),σ)
theorem ID{p:PV}{u:Value}{c:Bool}(h:TZ p=some c)(Z:bk W p u):(u==Value.none)=c:=by
 cases p with
 |none=>rw [show u=.none from Z];exact aZ h
 |bool b=>rw [show u=.bool b from Z];exact aZ h
 |int i=>obtain⟨t,rfl⟩:=Z;exact aZ h
 |str x=>obtain⟨t,rfl⟩:=Z;exact aZ h
 |tup V=>obtain⟨a,Y,n,rfl,_⟩:=Z;exact aZ h
 |loc i=>rw [Z.2];exact aZ h
 |hdr C l=>obtain⟨_,a,D,U,rfl,_⟩:=Z;exact aZ h
 |clo _ _ _ _ _ _=>obtain⟨_,a,o,rfl,_⟩:=Z;exact aZ h
 |_=>exact aW h
theorem CZ{p q:PV}{u v:Value}{c:Bool}(h:Ls p q=some c)(Z:bk W p u)(V:bk W q v)(Q:Value->Shared->Prop)(E:Value->Shared->Prop):
  (Q (.bool c) s->wpAny (model T.prog T.w) A (compareOp .Is u v) Q E s)/\(Q (.bool (!c)) s->wpAny (model T.prog T.w) A (compareOp .IsNot u v) Q E s):=by
 have plain {w u:Value} {c:Bool} (Y:plainIs u w=true) (e:(u==w)=c):(Q (.bool c) s->wpAny (model T.prog T.w) A (compareOp .Is u w) Q E s)/\(Q (.bool (!c)) s->wpAny (model T.prog T.w) A (compareOp .IsNot u w) Q E s):=by
  subst e;exact⟨fun h=>wpAny_is_plain Y h,fun h=>wpAny_isNot_plain Y h⟩
 cases q with
 |none=>
  rw [show v=.none from V];obtain rfl:=ID h Z;exact⟨fun h=>is_none_gen h,fun h=>isnot_none_gen h⟩
 |bool d=>
  rw [show v=.bool d from V];cases p with
  |none=>rw [show u=.none from Z];exact plain rfl (aZ h)
  |bool e=>rw [show u=.bool e from Z];obtain rfl:=aZ h;exact⟨fun h=>is_bool h,fun h=>isnot_bool h⟩
  |_=>exact aW h
 |val w=>
  rw [show v=w from V];cases p with
  |val x=>rw [show u=x from Z];exact gU h fun Y h=>plain Y (aZ h)
  |_=>exact aW h
 |_=>exact aW h
theorem NI:bH T b (compareOp .Is) LD:=by
 intro X A R W σ s p q u v Q Y P Z S U V;exact dh Z fun c e Z=>bx Z ((CZ e U V _ _).1 (aL.same' S (fY _)))
theorem eZ:bH T b (compareOp .IsNot) cK:=by
 intro X A R W σ s p q u v Q Y P Z S U V;exact dh Z fun c e Z=>bx Z ((CZ e U V _ _).2 (aL.same' S (fY _)))
noncomputable def CC(x y:Str):Bool:=!(Builtin.Str.occurrences x y 0 x.length 1).isEmpty
noncomputable def VK:PyData->Option (List PyData)
 |.list Z=>some Z
 |_=>none
theorem Kr{d:PyData}{Z:List PyData}(h:VK d=some Z):d=.list Z:=by
 cases d with
 |list Y=>obtain rfl:=(aZ h).symm;rfl
 |_=>exact aW h
noncomputable def vp(neg:Bool)(p q:PV):ER:=fun σ=>(oT σ.st p).bind fun d=>((oT σ.st q).bind VK).bind fun Z=>if SeqAt.shaped d&&SeqAt.shaped (.list Z)then some (.bool (if neg then !(Z.any fun y=>PyData.eqv y d)else(Z.any fun y=>PyData.eqv y d)),σ)else none
noncomputable def Dh(p q:PV):ER:=match p with
 |.str y=>(match q with|.str x=>ab (.bool (CC x y))|_=>vp false p q)
 |_=>vp false p q
theorem xP{neg:Bool}{p q:PV}{r:PV×AS}(h:vp neg p q σ=some r):∃d Z,oT σ.st p=some d/\oT σ.st q=some (.list Z)/\SeqAt.shaped d=true/\SeqAt.shaped (.list Z)=true/\r=(.bool (if neg then !(Z.any fun y=>PyData.eqv y d)else(Z.any fun y=>PyData.eqv y d)),σ):=
 dh h fun d Q h=>dh h fun Z S h=>gU h fun Y h=>⟨d,Z,Q,dh S fun y U V=>Kr V▸U,(lb.mp Y).1,(lb.mp Y).2,(aZ h).symm⟩
theorem vf{Z:List PyData}(h:SeqAt.shaped (.list Z)=true):PyData.canLayAll0 Z=true:=by
 have:=AQ h
 simpa [PyData.canLay0]using this
theorem wY{Z:List PyData}(h:SeqAt.shaped (.list Z)=true):PyData.depthAll Z<=64:=by
 have:=SeqAt.depth_of_shaped h;simp only [PyData.depth]at this
 exact aH 0x4020000088040840010021 rfl this
theorem Lc:bH T b (compareOp .In) Dh:=by
 intro X A R W σ s p q u v P Z I U S V Y;have go {p q u v} (U:vp false p q σ=some (P,Z)) (V:bk W p u) (Y:bk W q v):wpAny (model T.prog T.w) A (compareOp .In u v) (aL T X R W s P Z) bf s:=by
  obtain⟨d,Q,E,F,H,O,G⟩:=xP U;cases G;obtain⟨B,M⟩:=ge S E V;obtain⟨C,N⟩:=ge S F Y;exact SeqAt.in_list_reads N M (vf O) (AQ H) (by have:=I.uni;have:=wY O;have:min (PyData.depthAll Q) d.depth<=PyData.depthAll Q:=zA _ _;omega) (aL.same' S (fY _))
 cases p with
 |str y=>
  cases q with
  |str x=>obtain⟨t,rfl⟩:=V;obtain⟨D,rfl⟩:=Y;exact bx U (by with_reducible exact in_str (aL.same' S (fY _)))
  |_=>exact go U V Y
 |_=>exact go U V Y
end
section
variable {T:Tp}{X:Cx}{R:Fz}{W:Wd}{σ:AS}{s:Shared}{b:Nat}{A:Around}
noncomputable def nj(p q:PV):ER:=vY (fun y=>vY (fun x=>ab (.bool (!CC x y))) q) p
theorem zf:bH T b (compareOp .NotIn) nj:=by
 intro X A R W σ s p q u v P Y O Z S U V;exact jY Z U fun y t Z=>jY Z V fun x Q Z=>bx Z (by with_reducible exact notIn_str (aL.same' S (fY _)))
noncomputable abbrev LR:=AS->Option (List PV×AS)
inductive Ua(T:Tp)(X:Cx)(R:Fz)(W:Wd)(s:Shared)(ps:List PV)(σ':AS)(vs:List Value)(s':Shared):Prop
 |mk(W':Wd)(g:cH W s.heap W' s'.heap)(hv:aP W' ps vs)(hr:cj T X R W' σ' s')
structure gD(T:Tp)(b:Nat)(X:Cx)(es:List Expr)(f:LR):Prop where
 go:
  ∀A R W σ s ps σ' pos,jb b A->f σ=some (ps,σ')->cj T X R W σ s->wpAny (model T.prog T.w) A (spliced (backTo pos (starEach es X.env))) (Ua T X R W s ps σ') bf s
noncomputable def aj:LR:=fun σ=>some ([],σ)
noncomputable def ac(f:ER)(g:LR):LR:=fS f fun p=>fS g fun Z σ=>some (p::Z,σ)
theorem gD.nil:gD T b X [] aj:=by
 refine⟨?_⟩;intro A R W σ s S Z Y Q U V;cases U;exact qT ⟨W,cH.refl ..,rfl,V⟩
theorem gD.cons{e:Expr}{C:List Expr}{f:ER}{g:LR}(h:aN T b X e f)(o:gD T b X C g)(t:∀Q Y,starEach (e::Y) Q=(false,eval e Q)::starEach Y Q:=by intro _ _;rfl):
  gD T b X (e::C) (ac f g):=by
 refine⟨?_⟩;intro A R W σ s n y O z N r;obtain⟨p,Z,H,N⟩:=aS N;obtain⟨w,E,I,N⟩:=aS N;cases N;rw [t];show wpAny _ _ (spliced ((false,eval e X.env)::backTo O (starEach C X.env))) _ _ _;refine rH (aI (h.1 A R W σ s p Z z H r) fun F v P M u S=>?_);refine bG (o.1 A R F Z P w _ O z I S) (fun x B q=>?_) ar;obtain⟨G,V,D,U⟩:=q;exact⟨G,M.trans V,⟨v,x,rfl,u.mono V.ext,D⟩,U⟩
noncomputable def bD(f:LR):ER:=fS f fun Z σ=>if Z.length<=2^20 then some (.loc σ.nx,{σ with st:=(σ.nx,.list Z)::σ.st,nx:=σ.nx+1})else none
noncomputable def ey(f:LR):ER:=fS f fun Z σ=>if Z.length<=2^20 then some (.tup Z,σ)else none
theorem aN.list{N:List Expr}{V:Pos}{f:LR}(h:gD T b X N f):aN T b X (.List N V) (bD f):=by
 refine⟨?_⟩;intro A R W σ s B I D U G;obtain⟨H,Z,Q,U⟩:=aS U;refine gU U fun E U=>bx U ?_
 refine List_ (bG (h.1 A R W σ s H Z V D Q G) (fun C O F=>?_) ar);obtain⟨M,S,P,Y⟩:=F;exact dB S (ve Y P E)
theorem aN.tup{N:List Expr}{k:Nat}{Y:Pos}{f:LR}(h:gD T b X N f):aN T b X (.Tuple N k Y) (ey f):=by
 refine⟨?_⟩;intro A R W σ s B I D V G;obtain⟨H,Q,S,V⟩:=aS V;refine gU V fun E V=>bx V ?_
 refine Tuple_ (bG (h.1 A R W σ s H _ Y D S G) (fun C O F=>?_) ar);obtain⟨M,U,P,Z⟩:=F;exact dB U (sS Z P E)
noncomputable def pi{Z:Type}(k:Int)(n:Nat)(f:Nat->Option Z)(g:Z->PV):ER:=fun σ=>if -(2^62)<=k/\k<2^62 then((seqIndex? k n).bind f).bind fun p=>some (g p,σ)else none
noncomputable def QT(i:Nat)(q:PV):ER:=match q with
 |.int k=>ud i fun Y=>pi k Y.length (Y[·]?) id
 |.str x=>fun σ=>(oe (σ.st.lookup i)).bind fun Z=>(Z.lookup x).bind fun p=>some (p,σ)
 |_=>fun _=>none
noncomputable def aO(p q:PV):ER:=match p with
 |.tup Z=>oq (fun k=>pi k Z.length (Z[·]?) id) q
 |.str x=>oq (fun k=>pi k x.length (x.cps[·]?) fun c=>.str ⟨#[c]⟩) q
 |.fl Y=>oq (fun k σ=>if 0<=k/\k<2^62 then(Y[k.toNat]?).bind fun n=>some (.int n,σ)else none) q
 |.loc i=>QT i q
 |_=>fun _=>none
theorem Ac{Z:Type}{k:Int}{n:Nat}{f:Nat->Option Z}{g:Z->PV}{r:PV×AS}{G:Prop}(h:pi k n f g σ=some r)(V:(-(2^62)<=k/\k<2^62)->∀j p,seqIndex? k n=some j->f j=some p->some (g p,σ)=some r->G):G:=
 gU h fun Y h=>dh h fun p e h=>dh e fun j S U=>V Y j p S U h
theorem yP{Z:Type}{k:Int}{n j:Nat}{f:Nat->Option Z}{g:Z->PV}{p:Z}(V:-(2^62)<=k/\k<2^62)(U:seqIndex? k n=some j)(Y:f j=some p):pi k n f g σ=some (g p,σ):=by
 unfold pi;rw [aC V,U,iO,Y];rfl
theorem vO{i:Nat}{Z:List PV}{k:Int}{j:Nat}{p:PV}(h:σ.st.lookup i=some (.list Z))(V:-(2^62)<=k/\k<2^62)(U:seqIndex? k Z.length=some j)(Y:Z[j]?=some p):aO (.loc i) (.int k) σ=some (p,σ):=by
 show ud i (fun Z=>pi k Z.length (Z[·]?) id) σ=_;rw [jE h];exact yP V U Y
theorem Ey(Z:List Int)(k:Int)(σ:AS):aO (.fl Z) (.int k) σ=if 0<=k/\k<2^62 then(Z[k.toNat]?).bind fun n=>some (.int n,σ)else none:=rfl
theorem BW{Z:List (Str×PV)}{Y:List (Str×Value)}(U:Y.map (·.1)=Z.map (·.1))(N:aP W (Z.map (·.2)) (Y.map (·.2)))(x:Str):
  match Z.lookup x with|some p=>∃v,valueAt Y x=some v/\bk W p v|none=>valueAt Y x=none:=by
 induction Z generalizing Y with
 |nil=>
  cases Y with
  |nil=>rfl
  |cons _ _=>exact KC U
 |cons y Z M=>
  cases Y with
  |nil=>exact Uj U
  |cons z Y=>
   rw [cP,cP]at U
   injection U with V P
   rw [cP,cP]at N
   obtain⟨u,C,e,Q,S⟩:=N;injection e with E F
   subst E F;obtain⟨O,D⟩:=y;rw [cU];unfold valueAt;rw [List.find?_cons]
   by_cases h:x=O
   .subst h
    have G:z.1=x:=V;simp only [qz,G,decide_true];exact⟨_,rfl,Q⟩
   .have H:(x==O)=false:=by simp [h]
    have I:¬z.1=x:=fun q=>h (q.symm.trans V)
    simp only [H,I,decide_false];exact M P S
theorem lG{V:Program}{w:World}{E:Value->Shared->Prop}{l:Addr}{Z:Array Value}{k:Int}{t:Tok}{j:Nat}{x:Value}{Q:Value->Shared->Prop}
  (O:s.heap.IsList l Z) (M:-(2^62)<=k) (N:k<2^62) (Y:seqIndex? k Z.size=some j) (P:Z[j]?=some x) (h:Q x s):wpAny (model V w) A (getItem (.ref l) (.int k t)) Q E s:=by
 unfold seqIndex? at Y
 by_cases U:k<0
 .simp only [U,ja]at Y
  split at Y
  .rename_i S
   obtain rfl:=aZ Y;simp only [cR,gJ]at S
   exact wpAny_getItem_list_neg O U (by exact(hH 0x20004b50100120408014a021 rfl S.1)) (by exact(Rh M)) P h
  .exact aW Y
 .simp only [U,ma]at Y
  split at Y
  .rename_i S
   obtain rfl:=aZ Y;obtain⟨l⟩:=Z;exact getItem_listL O (by exact(gW 0x1000a5010052043021 rfl U)) (by exact(Rp N)) (by simpa using P) h
  .exact aW Y
noncomputable def Lq(slice:Expr):Prop:=∀o i,subscripted slice false o i=operate [o,i] (getItem o i)
noncomputable def Uh(Z:Program)(w:World)(A:Around)(o i:Value)(Q:Value->Shared->Prop)(E:Value->Shared->Prop)(s:Shared):Prop:=
 ∃(Y id:String),typeLookup (.type Y) "__getitem__"=pure (some (.builtin id))/\s.TypeIs o Y/\wpAny (model Z w) A (getItem o i) Q E s
theorem nN{p q:PV}{u v:Value}{h:PV}{P:AS}(Z:aO p q σ=some (h,P))(O:cj T X R W σ s)(g:bk W p u)(C:bk W q v):Uh T.prog T.w A u v (aL T X R W s h P) bf s:=by
 cases p with
 |tup H=>
  obtain⟨a,G,n,rfl,hf,U⟩:=g;refine eV Z C fun k t Z=>Ac Z fun V j p I M Z=>bx Z ?_
  obtain⟨x,e,N⟩:=U.get M;have ht:IsTup s.heap a G:=⟨_,O.r.hF _ _ hf,rfl,n,rfl⟩;have hl:H.length=G.size:=U.length;exact⟨_,_,F.slot_tuple_getitem.lookup,ht.typeIs,getItem_tuple ht (by exact(Rh V.1)) (by exact(Rp V.2)) (hl▸I) (by simpa using e) (aL.same' O N)⟩
 |str x=>
  obtain⟨t,rfl⟩:=g;refine eV Z C fun k l Z=>Ac Z fun V j c I hc Z=>bx Z ?_
  have Y:(seqIndex? k x.length).bind (x.cps[·]?)=some c:=by rw [I];exact hc
  exact⟨_,_,F.slot_str_getitem.lookup,ib s x t,getItem_str (by rw [Bool.or_eq_false_iff,vd,vd];exact⟨fun E=>gW 0x1000000000000000074b40848408010000000000000000e96a022 rfl V.1 E,fun E=>gW 0x401000000000000000074a02020000000000000001d2042422 rfl V.2 E⟩) Y (aL.same O (nA _ _))⟩
 |fl ns=>
  obtain⟨a,o,n,z,rfl,hf,hc,f,rfl⟩:=g;refine eV Z C fun k l Z=>gU Z fun V Z=>dh Z fun m Y Z=>bx Z ?_
  have S:s.heap.IsList a (z.map fun x=>Value.int x.1 x.2).toArray:=⟨_,O.r.hF _ _ hf,hc,n,f⟩;rw [jS]at Y
  obtain⟨y,hy,rfl⟩:=kN.mp Y;have z1:k.toNat<z.length:=(ig.mp hy).1;have I:seqIndex? k (z.map fun x=>Value.int x.1 x.2).toArray.size=some k.toNat:=by
   unfold seqIndex?;simp only [uO,cW];rw [show(if k<0 then k+(z.length:Int)else k)=k from aF (by exact(fun E=>gW 0x2902121020014a022 rfl V.1 E))];rw [aC];simp only [cR,gJ];exact⟨pJ V.1,qf 0x102408484080012a8840000422 rfl z1 (cG (pJ V.1))⟩
  exact⟨_,_,slot_list_getitem.lookup,S.typeIs,lG (x:=.int y.1 y.2) S (by exact(gW 0x400800000000000000074b501020014a021 rfl V.1)) V.2 I (by simp [hy]) (aL.same' O (eh _ _))⟩
 |loc i=>
  obtain⟨hi,rfl⟩:=g;cases q with
  |int k=>
   obtain⟨l,rfl⟩:=C;have Z:ud i (fun H=>pi k H.length (H[·]?) id) σ=some (h,P):=Z;refine yx Z fun H Q Z=>Ac Z fun V j p I M Z=>bx Z ?_
   obtain⟨_,o,ho,G,n,rfl,U⟩:=O.r.trk i _ Q;obtain⟨x,e,N⟩:=U.get M;have hl:H.length=G.size:=U.length;have S:s.heap.IsList (W.ρ i) G:=⟨_,ho,rfl,n,rfl⟩;exact⟨_,_,slot_list_getitem.lookup,S.typeIs,lG S V.1 V.2 (hl▸I) (by simpa using e) (aL.same' O N)⟩
  |str x=>
   obtain⟨l,rfl⟩:=C;have Z:(oe (σ.st.lookup i)).bind (fun D=>(D.lookup x).bind fun p=>some (p,σ))=some (h,P):=Z;refine dh Z fun D Q Z=>dh Z fun p Y Z=>bx Z ?_
   obtain⟨_,ob,ho,kv,h1,h2,h3⟩:=O.r.trk i _ (pc Q);have f:s.heap.DictOf (PySem.strKind T.prog T.w) (W.ρ i) kv:=og.mpr ⟨ob,ho,h1 _⟩;have B:=BW h2 h3 x;rw [Y]at B
   obtain⟨v,z0,d⟩:=B;exact⟨_,_,F.slot_dict_getitem.lookup,f.typeIs,wpAny_getItem_of (knd:=PySem.strKind T.prog T.w) (k:=x) (by show Value.isStrOf x (.str x l)=true;simp [Value.isStrOf]) f.mapOf z0 (aL.same O d)⟩
  |_=>exact aW Z
 |_=>exact aW Z
theorem aN.index{Y slice:Expr}{G:Pos}{f g:ER}(h:aN T b X Y f)(n:aN T b X slice g)(x:Lq slice:=by intro _ _;rfl):aN T b X (.Subscript Y slice G) (ae f g aO):=by
 refine⟨?_⟩;intro A R W σ s m C E w y;obtain⟨p,Z,q,U,I,M,N⟩:=lq w;refine Subscript_ (aI (h.1 A R W σ s p Z E I y) fun H u P O z Q=>?_);refine aI (n.1 A R H Z P q U E M Q) fun D v F V B S=>dB (O.trans V) ?_
 obtain⟨l,id,o,r,t⟩:=nN (A:=A) N S (z.mono V.ext) B;exact tail_any r o t (x _ _)
end
noncomputable def av:List (Nat×AO)->Nat->AO->List (Nat×AO)
 |[],i,Z=>[(i,Z)]
 |(j,x)::l,i,Z=>if i=j then(i,Z)::l else(j,x)::av l i Z
theorem Cq(i ao):av [] i ao=([(i,ao)]):=rfl
theorem CB(j x l i ao):av ((j,x)::l) i ao=(if i=j then(i,ao)::l else(j,x)::av l i ao):=rfl
theorem gu:∀(st:List (Nat×AO)) (i j:Nat) (Y:AO),(av st i Y).lookup j=if j=i then some Y else st.lookup j
 |[],i,j,Y=>by
  dsimp only [Cq,CB];rw [cU]
  by_cases h:j=i
  .subst h;simp
  .have:(j==i)=false:=by simp [h]
   simp [this,h]
 |(k,x)::l,i,j,Y=>by
  dsimp only [Cq,CB]
  by_cases h:i=k
  .subst h
   rw [aC rfl,cU,cU]
   by_cases Z:j=i
   .subst Z;simp
   .have:(j==i)=false:=by simp [Z]
    simp [this,Z]
  .rw [aF h,cU,cU,gu l i j Y]
   by_cases Z:j=k
   .subst Z
    have:¬j=i:=fun e=>h e.symm
    simp [this]
   .have:(j==k)=false:=by simp [Z]
    simp [this]
inductive kW(T:Tp)(X:Cx)(R:Fz)(W:Wd)(s:Shared)(σ':AS)(u:Unit)(s':Shared):Prop
 |mk(W':Wd)(g:cH W s.heap W' s'.heap)(hr:cj T X R W' σ' s')
section
variable {T:Tp}{X:Cx}{R:Fz}{W:Wd}{σ:AS}{s:Shared}{b:Nat}{A:Around}
theorem cj.updId(Z:cj T X R W σ s){i:Nat}{V ao:AO}(c:σ.st.lookup i=some V){N:Heap}(p:Heap.SameBut (W.ρ i) s.heap N){Q:Obj}(n:N.get? (W.ρ i)=some Q)(y:nM T.w W ao Q)(k:Nat):
  cH W s.heap W N/\cj T X R W {σ with st:=av σ.st i ao} {s with heap:=N,toks:=k}:=by
 obtain⟨U,o,D,_⟩:=Z.r.trk i V c;obtain⟨z,B,C,_⟩:=Z.r.fre i U;have keep:∀b o,b≠W.ρ i->s.heap.get? b=some o->N.get? b=some o:=fun b o E e=>(p.2 b E).trans e
 have u:∀b o,s.heap.get? b=some o->∃Q,N.get? b=some Q:=fun b o e=>by
  by_cases E:b=W.ρ i
  .exact⟨Q,E▸n⟩
  .exact⟨o,keep b o E e⟩
 have Y {F:Addr->Option Obj} (hF:F (W.ρ i)=none):∀a o,F a=some o->a≠W.ρ i:=fun a o e q=>by rw [q,hF]at e;exact aW e
 refine⟨cH.heap u,⟨?_,?_,Z.nx⟩⟩
 .refine⟨Z.r.top,fun a o e=>keep a o (Y z a o e) (Z.r.hF a o e),fun a o e=>keep a o (Y B a o e) (Z.r.hR a o e),Z.r.hG,fun j v e=>?_,fun j I=>?_,Z.r.inj,fun P h=>?_,Z.r.bare,Z.r.os,Z.r.sysm⟩
  .rw [gu]at e
   by_cases I:j=i
   .subst I;rw [aC rfl]at e;obtain rfl:=aZ e;exact⟨U,Q,n,y⟩
   .rw [aF I]at e
    obtain⟨O,S,G,H⟩:=Z.r.trk j v e;exact⟨O,S,keep _ _ (fun q=>I (Z.r.inj j i O U q)) G,H⟩
  .obtain⟨O,G,H,S,x⟩:=Z.r.fre j I
   obtain⟨M,h5⟩:=u _ _ x;exact⟨O,G,H,M,h5⟩
  .obtain⟨O,G,g,H,x⟩:=Z.r.tabs P h
   exact⟨O,G,g,keep _ _ (fun q=>C (q▸h)) H,x⟩
 .obtain⟨m,f,d⟩:=Z.l.m
  exact⟨⟨m,f.sameBut p (fun q=>Z.l.ρ i U q.symm),d⟩,Z.l.nF,Z.l.nR,Z.l.t,Z.l.ρ,Z.l.cv⟩
theorem Jm{l:List Str}(h:l.Nodup){i j:Nat}{x y:Str}(P:l[i]?=some x)(Q:l[j]?=some y)(S:i≠j):x≠y:=by
 intro e;subst e;obtain⟨U,V⟩:=ig.mp P
 obtain⟨Y,Z⟩:=ig.mp Q
 rcases eF S with q|q
 .exact uT.mp h i j U Y q (V.trans Z.symm)
 .exact uT.mp h j i Y U q (Z.trans V.symm)
theorem Dx:∀{l:List (Option PV)} {i:Nat} {p:PV},fB l i=some p->i<l.length
 |[],_,_,h=>aW h
 |_::_,0,_,_=>mK _
 |_::l,i+1,p,h=>Nat.succ_lt_succ (Dx (l:=l) h)
theorem ly(E:bA X){i:Nat}{x:Str}(H:X.vars[i]?=some x)(Z:cj T X R W σ s){p:PV}{v:Value}(d:bk W p v):
  wpAny (model T.prog T.w) A (storeName X.env x v) (kW T X R W s {σ with loc:=pT σ.loc i p}) bf s:=by
 obtain⟨m,hm,hl⟩:=Z.l.m;refine Bf (E.vars x (ic H)) hm (fun n B c=>?_) (by rw [E.kind];rfl);have keep:∀b o,b≠X.env.locals->s.heap.get? b=some o->n.get? b=some o:=fun b o I e=>(c.2 b I).trans e
 have V {F:Addr->Option Obj} (hF:F X.env.locals=none):∀a o,F a=some o->a≠X.env.locals:=fun a o e q=>by rw [q,hF]at e;exact aW e
 have k:∀b o,s.heap.get? b=some o->∃f,n.get? b=some f:=fun b o e=>by
  by_cases I:b=X.env.locals
  .obtain⟨g,_,_,U,_⟩:=B
   exact⟨g,I▸U⟩
  .exact⟨o,keep b o I e⟩
 refine⟨W,cH.heap k,⟨?_,?_,Z.nx⟩⟩
 .refine⟨Z.r.top,fun a o e=>keep a o (V Z.l.nF a o e) (Z.r.hF a o e),fun a o e=>keep a o (V Z.l.nR a o e) (Z.r.hR a o e),Z.r.hG,fun j C e=>?_,fun j S=>?_,Z.r.inj,fun P z=>?_,Z.r.bare,Z.r.os,Z.r.sysm⟩
  .obtain⟨U,Y,Q,M⟩:=Z.r.trk j C e
   exact⟨U,Y,keep _ _ (Z.l.ρ j U) Q,M⟩
  .obtain⟨U,Q,M,Y,D⟩:=Z.r.fre j S
   exact⟨U,Q,M,Y,keep _ _ (Z.l.ρ j S) D⟩
  .obtain⟨U,Q,h,M,D⟩:=Z.r.tabs P z
   exact⟨U,Q,h,keep _ _ (fun q=>Z.l.t (q▸z)) M,D⟩
 .refine⟨⟨_,B,fun j y q S O=>?_⟩,Z.l.nF,Z.l.nR,Z.l.t,Z.l.ρ,Z.l.cv⟩
  rw [ti]at O
  split at O
  .rename_i G
   obtain rfl:=aZ O;obtain⟨rfl,_⟩:=G;rw [H]at S;obtain rfl:=aZ S
   exact⟨v,aC rfl,d⟩
  .rename_i G
   obtain⟨u,U,Q⟩:=hl j y q S O
   by_cases N:i=j
   .subst N
    exfalso;exact G ⟨rfl,Dx O⟩
   .exact⟨u,by rw [aF (fun e=>Jm E.nodup H S N e.symm)];exact U,Q⟩
theorem mq(D:bA X){j i:Nat}{x:Str}(N:X.cv[j]?=some (x,i))(E:X.env.scope.names.lookup x=some .cell)(Y:cj T X R W σ s){Z:Option PV}(O:σ.st.lookup i=some (.cell Z)){p:PV}{v:Value}(M:bk W p v):
  wpAny (model T.prog T.w) A (storeName X.env x v) (kW T X R W s {σ with st:=av σ.st i (.cell (some p))}) bf s:=by
 obtain⟨G,Q⟩:=Y.l.cv j x i N;obtain⟨_,o,H,P,F,_⟩:=Y.r.trk i _ O;refine wpAny_storeName_cell D.kind E Q ⟨_,H,F⟩ fun B U I=>?_
 obtain⟨C,V,S⟩:=U;have h:=Y.updId O I V (ao:=.cell (some p)) ⟨_,S,v,rfl,M⟩ s.toks;exact⟨W,h.1,h.2⟩
end
inductive AF where
 |next|brk|cont
 |ret (p:PV)
noncomputable def xJ(W:Wd):AF->Flow->Prop
 |.next,f=>f=.next
 |.brk,f=>f=.brk
 |.cont,f=>f=.cont
 |.ret p,f=>∃v,f=.ret v/\bk W p v
inductive gF(T:Tp)(X:Cx)(R:Fz)(W:Wd)(s:Shared)(a:AF)(σ':AS)(f:Flow)(s':Shared):Prop
 |mk(W':Wd)(g:cH W s.heap W' s'.heap)(hf:xJ W' a f)(hr:cj T X R W' σ' s')
noncomputable abbrev SR:=AS->Option (AF×AS)
structure dc(T:Tp)(b:Nat)(X:Cx)(st:Stmt)(f:SR):Prop where
 go:
  ∀A R W σ s a σ',jb b A->f σ=some (a,σ')->cj T X R W σ s->wpAny (model T.prog T.w) A (exec st X.env) (gF T X R W s a σ') bf s
structure bu(T:Tp)(b:Nat)(X:Cx)(sts:List Stmt)(f:SR):Prop where
 go:
  ∀A R W σ s a σ',jb b A->f σ=some (a,σ')->cj T X R W σ s->wpAny (model T.prog T.w) A (execs sts X.env) (gF T X R W s a σ') bf s
noncomputable abbrev TR:=PV->AS->Option AS
structure dR(T:Tp)(b:Nat)(X:Cx)(t:Expr)(g:TR):Prop where
 go:
  ∀A R W σ s p v σ',jb b A->g p σ=some σ'->cj T X R W σ s->bk W p v->wpAny (model T.prog T.w) A (assign t X.env v) (kW T X R W s σ') bf s
structure gE(T:Tp)(b:Nat)(X:Cx)(ts:List Expr)(g:List PV->AS->Option AS):Prop where
 go:
  ∀A R W σ s ps vs σ',jb b A->g ps σ=some σ'->cj T X R W σ s->aP W ps vs->wpAny (model T.prog T.w) A (assignInOrder ((assignEach ts X.env).map (·.2)) vs) (kW T X R W s σ') bf s
theorem kW.from{T:Tp}{X:Cx}{R:Fz}{W V:Wd}{s Y:Shared}{U:AS}{v:Unit}{Z:Shared}(g:cH W s.heap V Y.heap)(h:kW T X R V Y U v Z):kW T X R W s U v Z:=
 let⟨P,Q,S⟩:=h;⟨P,g.trans Q,S⟩
theorem gF.from{T:Tp}{X:Cx}{R:Fz}{W V:Wd}{s Y:Shared}{a:AF}{U:AS}{v:Flow}{Z:Shared}(g:cH W s.heap V Y.heap)(h:gF T X R V Y a U v Z):gF T X R W s a U v Z:=
 let⟨O,P,Q,S⟩:=h;⟨O,g.trans P,Q,S⟩
section
variable {T:Tp}{X:Cx}{R:Fz}{W:Wd}{σ:AS}{s:Shared}{b:Nat}{A:Around}
theorem gt{V:AS}{t:Sem Unit}{C:Unit->Shared->Prop}{E:Value->Shared->Prop}
  (h:wpAny (model T.prog T.w) A t (kW T X R W s V) bf s)
  (S:∀Y Z,cH W s.heap Y Z.heap->cj T X R Y V Z->C () Z):wpAny (model T.prog T.w) A t C E s:=
 bG h (fun v Z ⟨Y,g,U⟩=>S Y Z g U) ar
theorem fx{c:Bool}{V:AS}{t:Sem Bool}{C:Bool->Shared->Prop}{E:Value->Shared->Prop}
  (h:wpAny (model T.prog T.w) A t (fg T X R W s c V) bf s)
  (S:∀Y Z,cH W s.heap Y Z.heap->cj T X R Y V Z->C c Z):wpAny (model T.prog T.w) A t C E s:=
 bG h (fun v Z ⟨e,Y,g,U⟩=>by subst e;exact S Y Z g U) ar
theorem er{a:AF}{V:AS}{t:Sem Flow}{C:Flow->Shared->Prop}{E:Value->Shared->Prop}
  (h:wpAny (model T.prog T.w) A t (gF T X R W s a V) bf s)
  (S:∀Y f Z,cH W s.heap Y Z.heap->xJ Y a f->cj T X R Y V Z->C f Z):wpAny (model T.prog T.w) A t C E s:=
 bG h (fun v Z ⟨Y,g,Q,U⟩=>S Y v Z g Q U) ar
theorem uL{Y:Wd}{Z:Shared}{t:Sem Flow}{a:AF}{V:AS}(g:cH W s.heap Y Z.heap)
  (h:wpAny (model T.prog T.w) A t (gF T X R Y Z a V) bf Z):wpAny (model T.prog T.w) A t (gF T X R W s a V) bf Z:=
 bG h (fun _ _ U=>U.from g) ar
theorem vw{Z:Wd}{s₁:Shared}{t:Sem Unit}{Y:AS}(g:cH W s.heap Z s₁.heap)
  (h:wpAny (model T.prog T.w) A t (kW T X R Z s₁ Y) bf s₁):wpAny (model T.prog T.w) A t (kW T X R W s Y) bf s₁:=
 bG h (fun _ _ V=>V.from g) ar
noncomputable def am(i:Nat):TR:=fun p σ=>some {σ with loc:=pT σ.loc i p}
noncomputable def Ix:Option AO->Option (Option PV)
 |some (.cell p)=>some p
 |_=>none
theorem yA{o:Option AO}{p:Option PV}(h:Ix o=some p):o=some (.cell p):=by
 cases o with
 |none=>exact aW h
 |some Z=>cases Z with
  |cell q=>obtain rfl:=(aZ h).symm;rfl
  |_=>exact aW h
noncomputable def gi(i:Nat):TR:=fun p σ=>(Ix (σ.st.lookup i)).bind fun _=>some {σ with st:=av σ.st i (.cell (some p))}
theorem dR.loc(Q:bA X)(i:Nat){x:Str}{pos:Pos}(Y:X.vars[i]?=some x:=by rfl):dR T b X (.Name x pos) (am i):=by
 refine⟨?_⟩;intro A R W σ s p v Z P S U V;cases S;exact HF (ly Q Y U V)
theorem dR.cell(N:bA X)(j i:Nat){x:Str}{Z:Pos}(S:X.cv[j]?=some (x,i))(O:X.env.scope.names.lookup x=some .cell):dR T b X (.Name x Z) (gi i):=by
 refine⟨?_⟩;intro A R W σ s p v U M Y P Q;refine dh Y fun V e Y=>?_
 cases Y;exact HF (mq N S O P (yA e) Q)
noncomputable def cM:List PV->AS->Option AS
 |[],σ=>some σ
 |_,_=>none
noncomputable def aT(g:TR)(Y:List PV->AS->Option AS):List PV->AS->Option AS
 |p::Z,σ=>(g p σ).bind (Y Z)
 |[],_=>none
theorem gE.nil:gE T b X [] cM:=by
 refine⟨?_⟩;intro A R W σ s Z U V P Y Q S;cases Z with
 |nil=>
  obtain rfl:=aZ Y;rw [show U=[]from S];exact FI ⟨W,cH.refl ..,Q⟩
 |cons p Z=>exact aW Y
theorem gE.cons{t:Expr}{G:List Expr}{g:TR}{H:List PV->AS->Option AS}(h:dR T b X t g)(y:gE T b X G H)
  (D:∀S Y,assignEach (t::Y) S=(false,assign t S)::assignEach Y S:=by intro _ _;rfl):gE T b X (t::G) (aT g H):=by
 refine⟨?_⟩;intro A R W σ s M x P F Q C E;cases M with
 |nil=>exact aW Q
 |cons p M=>
  obtain⟨v,I,rfl,z,B⟩:=E;have Q:(g p σ).bind (H M)=some P:=Q;refine dh Q fun Z e Q=>?_
  rw [D];refine zX (gt (h.1 A R W σ s p v Z F e C z) fun N O V U=>?_);exact vw V (y.1 A R N Z O M I P F Q U (B.mono V.ext))
noncomputable def dK(n:Nat)(Y:List PV->AS->Option AS):TR
 |.tup Z=>fun σ=>if Z.length=n then Y Z σ else none
 |_=>fun _=>none
theorem dR.tup{V:List Expr}{k:Nat}{P:Pos}{F:List PV->AS->Option AS}(h:gE T b X V F)
  (z:∀Y,(assignEach V Y).length=V.length:=by intro _;rfl) (B:∀Y,(assignEach V Y).findIdx? (·.1)=none:=by intro _;rfl):dR T b X (.Tuple V k P) (dK V.length F):=by
 refine⟨?_⟩;intro A R W σ s p v Q G S I C;cases p with
 |tup M=>
  refine gU S fun Z S=>?_
  obtain⟨a,E,n,rfl,y,U⟩:=C;have H:M.length=E.size:=U.length;refine wpAny_assign_Tuple G.hnd ⟨_,I.r.hF _ _ y,rfl,n,rfl⟩ (by rw [z];exact bB (ci 0x80100022000020840000a22 rfl Z H) (ci 0x40200022000028840000822 rfl Z H)) (B _) fun N D=>?_
  have keep:∀b o,s.heap.get? b=some o->N.get? b=some o:=fun b o e=>D b o (gn (bL e)) e
  have O:cj T X R W σ {s with heap:=N}:=I.ext keep rfl rfl;exact vw (s₁:={s with heap:=N}) (cH.keep keep) (h.1 A R W σ _ M _ Q G S O U)
 |_=>exact aW S
noncomputable def bF(f:ER):SR:=fS f fun p σ=>some (.ret p,σ)
theorem dc.ret{e:Expr}{S:Pos}{f:ER}(h:aN T b X e f):dc T b X (.Return (some e) S) (bF f):=by
 refine⟨?_⟩;intro A R W σ s a O I Q M;obtain⟨p,U,Y,Q⟩:=aS Q;cases Q;exact wpAny_Return_some (bG (h.1 A R W σ s p _ I Y M) (fun v P ⟨V,g,N,Z⟩=>⟨V,g,⟨v,rfl,N⟩,Z⟩) ar)
noncomputable def bC(f:ER):SR:=fS f fun _ σ=>some (.next,σ)
theorem dc.expr{e:Expr}{Y:Pos}{f:ER}(h:aN T b X e f)(H:interactive X.env=false:=by rfl)(I:swapsWith e none (Pos.line Y) X.env=pure false:=by rfl):dc T b X (.Expr e Y) (bC f):=by
 refine⟨?_⟩;intro A R W σ s a O M Q N;obtain⟨p,S,V,Q⟩:=aS Q;cases Q;exact wpAny_Expr_any (bG (h.1 A R W σ s p _ M V N) (fun v P ⟨U,g,G,Z⟩=>⟨U,g,rfl,Z⟩) ar) H I
noncomputable def Rr:SR:=fun σ=>some (.brk,σ)
noncomputable def Ob:SR:=fun σ=>some (.cont,σ)
theorem dc.brk{Z:Pos}:dc T b X (.Break Z) Rr:=by
 refine⟨?_⟩;intro A R W σ s a Y S U V;cases U;exact wpAny_Break ⟨W,cH.refl ..,rfl,V⟩
theorem dc.cont{Z:Pos}:dc T b X (.Continue Z) Ob:=by
 refine⟨?_⟩;intro A R W σ s a Y S U V;cases U;exact wpAny_Continue ⟨W,cH.refl ..,rfl,V⟩
noncomputable def ai(f:ER)(g:TR):SR:=fS f fun p σ=>(g p σ).bind fun σ=>some (.next,σ)
theorem dc.assign{t Z:Expr}{Q:Pos}{f:ER}{g:TR}(h:aN T b X Z f)(y:dR T b X t g)
  (u:swapsWithSole [t] Z (Pos.line Q) X.env=pure false:=by left) (w:swappedStores [t] Z X.env=pure none:=by left)
  (x:(assignEach [t] X.env).map (·.2)=[assign t X.env]:=by rfl):dc T b X (.Assign [t] Z Q) (ai f g):=by
 refine⟨?_⟩;intro A R W σ s a C D P z;obtain⟨p,Y,I,P⟩:=aS P;refine dh P fun F M P=>?_
 cases P;refine wpAny_Assign_stores (aI (h.1 A R W σ s p Y D I z) fun G v S N B U=>?_) u w;rw [x];exact bG (y.1 A R G Y S p v _ D M U B) (fun _ E ⟨H,O,V⟩=>⟨H,N.trans O,rfl,V⟩) ar
noncomputable def di(t:BR)(f g:SR):SR:=fS t fun c=>cond c f g
theorem dc.ite{t:Expr}{Q Y:List Stmt}{I:Pos}{G:BR}{f g:SR}(F:fW T b X t G)(h:bu T b X Q f)(D:bu T b X Y g):dc T b X (.If t Q Y I) (di G f g):=by
 refine⟨?_⟩;intro A R W σ s a O H M E;obtain⟨c,Z,N,M⟩:=aS M;refine wpAny_If (fx (F.1 A R W σ s _ Z H N E) fun P U S V=>?_);cases c with
 |true=>exact uL S (h.1 A R P Z U a O H M V)
 |false=>exact uL S (D.1 A R P Z U a O H M V)
noncomputable def ur(t:BR):SR:=fS t fun c σ=>cond c (some (.next,σ)) none
theorem dc.assert{t:Expr}{P:Pos}{N:BR}(I:fW T b X t N):dc T b X (.Assert t none P) (ur N):=by
 refine⟨?_⟩;intro A R W σ s a M G S H;obtain⟨c,Q,V,S⟩:=aS S;cases c with
 |true=>cases S;exact wpAny_Assert_holds (fx (I.1 A R W σ s _ _ G V H) fun U O Y Z=>⟨rfl,U,Y,rfl,Z⟩)
 |false=>exact aW S
noncomputable def ah:SR:=fun σ=>some (.next,σ)
noncomputable def Fu(g:SR):AF->SR
 |.next=>g
 |a=>fun σ=>some (a,σ)
noncomputable def ap(f g:SR):SR:=fS f (Fu g)
theorem bu.nil:bu T b X [] ah:=by
 refine⟨?_⟩;intro A R W σ s a Z U V Y;cases V;exact wpAny_execs_nil ⟨W,cH.refl ..,rfl,Y⟩
theorem bu.cons{st:Stmt}{O:List Stmt}{f g:SR}(h:dc T b X st f)(E:bu T b X O g):bu T b X (st::O) (ap f g):=by
 refine⟨?_⟩;intro A R W σ s a I H Q F;obtain⟨M,U,N,Q⟩:=aS Q;refine wf (er (h.1 A R W σ s _ U H N F) fun V f P Y S Z=>?_);cases M with
 |next=>rw [show f=.next from S];exact uL Y (E.1 A R V U P a I H Q Z)
 |brk=>cases Q;rw [show f=.brk from S];exact⟨V,Y,rfl,Z⟩
 |cont=>cases Q;rw [show f=.cont from S];exact⟨V,Y,rfl,Z⟩
 |ret p=>cases Q;obtain⟨v,rfl,G⟩:=S;exact⟨V,Y,⟨v,rfl,G⟩,Z⟩
noncomputable def fA(f:ER)(e:ER)(g:PV->PV->ER)(t:TR):SR:=fS f fun p=>fS e fun q=>fS (g p q) fun r σ=>(t r σ).bind fun σ=>some (.next,σ)
theorem dc.augLoc(k:bA X)(i:Nat){x:Str}{d:Operator}{Y:Expr}{I t:Pos}{f:ER}{g:PV->PV->ER}(o:X.vars[i]?=some x)(h:aN T b X Y f)(hg:bH T b (inplaceOp d) g):
  dc T b X (.AugAssign (.Name x I) d Y t) (fA (aa i) f g (am i)):=by
 refine⟨?_⟩;intro A R W σ s a z1 hA U c;obtain⟨p,y,V,U⟩:=aS U;obtain⟨q,Z,D,U⟩:=aS U;obtain⟨r,Q,E,U⟩:=aS U;refine dh U fun z F U=>?_
 cases U;cases F;obtain⟨p',el,V⟩:=py.mp V;cases V;obtain⟨m,hm,hl⟩:=c.l.m;obtain⟨u,hu,n⟩:=hl i x _ o el;refine wpAny_AugAssign_Name (AG k.kind (k.vars x (ic o)) hm hu ?_);refine aI (h.1 A R W _ s q Z hA D c) fun B v M S hv N=>?_
 refine aI (hg X A R B Z M _ q u v r Q hA E N (n.mono S.ext) hv) fun z0 w e G hw O=>?_
 exact bG (ly k o O hw) (fun _ j ⟨C,H,P⟩=>⟨C,(S.trans G).trans H,rfl,P⟩) ar
end
noncomputable def eE(t:BR)(f o:SR):Nat->SR
 |0=>fun _=>none
 |n+1=>fun X=>match t X with
  |some (true,Y)=>(match f Y with
   |some (.next,Z)=>eE t f o n Z
   |some (.cont,Z)=>eE t f o n Z
   |some (.brk,Z)=>some (.next,Z)
   |some (.ret p,Z)=>some (.ret p,Z)
   |none=>none)
  |some (false,Y)=>o Y
  |none=>none
theorem gX(t f o):eE t f o 0=(fun _=>none):=rfl
theorem gY(t f o n):eE t f o (n+1)=(fun X=>match t X with
  |some (true,Y)=>(match f Y with
   |some (.next,Z)=>eE t f o n Z
   |some (.cont,Z)=>eE t f o n Z
   |some (.brk,Z)=>some (.next,Z)
   |some (.ret p,Z)=>some (.ret p,Z)
   |none=>none)
  |some (false,Y)=>o Y
  |none=>none):=rfl
section
variable {T:Tp}{X:Cx}{R:Fz}{W:Wd}{σ:AS}{s:Shared}{b:Nat}{A:Around}
set_option tactic.hygienic true in
theorem rD{M:Expr}{O Z:List Stmt}{t:BR}{f o:SR}(i:fW T b X M t)(k:bu T b X O f)(c:bu T b X Z o)(q:jb b A):∀(n:Nat) (W:Wd) (σ:AS) (s:Shared) (a:AF) (N:AS),
  eE t f o n σ=some (a,N)->cj T X R W σ s->codeAny (model T.prog T.w) A (.whileLoop M O Z X.env) (fun r y=>∃P,r=.ok P/\gF T X R W s a N P y) s
 |0,_,_,_,_,_,h,_=>aW h
 |n+1,W,σ,s,a,N,h,d=>by
  have hu:A.under (.whileLoop M O Z X.env)=A:=vV rfl;refine wb ?_
  rw [hu];show wpAny (model T.prog T.w) A ((whileTurn M O Z X.env).onRaise (fun x=>do noteFrame x X.env;theTreesLotGoes x)) _ _ s;refine uJ (bG (Q:=fun fin y=>match fin with
   |.done P=>gF T X R W s a N P y
   |.again m=>m.quiet=true/\codeAny (model T.prog T.w) A m (fun r y=>∃P,r=.ok P/\gF T X R W s a N P y) y) (E:=bf) ?_ (fun fin y h'=>?_) ar)
  .unfold whileTurn
   simp only [gX,gY]at h
   split at h
   .rename_i V u
    refine aR (fx (i.1 A R W σ s _ V q u d) fun z F B I=>?_);rw [aC rfl];have again {j:AF} {Y:AS} (S:f V=some (j,Y)) (g:j=.next\/j=.cont) (h:eE t f o n Y=some (a,N)):wpAny (model T.prog T.w) A (do
      match <-execs O X.env with
      |.next|.cont=>again (.whileLoop M O Z X.env)
      |.brk=>pure (.done .next)
      |.ret v=>pure (.done (.ret v))) (fun fin y=>match fin with
   |.done P=>gF T X R W s a N P y
   |.again m=>m.quiet=true/\codeAny (model T.prog T.w) A m (fun r y=>∃P,r=.ok P/\gF T X R W s a N P y) y) bf F:=by
     refine aR (er (k.1 A R z V F j Y q S I) fun G P D H C U=>?_);have l:(Code.whileLoop M O Z X.env).quiet=true/\codeAny (model T.prog T.w) A (.whileLoop M O Z X.env) (fun r y=>∃P,r=.ok P/\gF T X R W s a N P y) D:=
      ⟨rfl,mt (rD i k c q n G Y D a N h U) fun r y ⟨P,e,hp⟩=>⟨P,e,hp.from (B.trans H)⟩⟩
     rcases g with rfl|rfl
     .rw [show P=.next from C];exact bo l
     .rw [show P=.cont from C];exact bo l
    split at h
    .rename_i Y S;exact again S (.inl rfl) h
    .rename_i Y S;exact again S (.inr rfl) h
    .rename_i Y S
     cases h;refine aR (er (k.1 A R z V F _ _ q S I) fun G P D H C U=>?_);rw [show P=.brk from C];exact bo ⟨G,B.trans H,rfl,U⟩
    .rename_i p Y S
     cases h;refine aR (er (k.1 A R z V F _ _ q S I) fun G P D H C U=>?_);obtain⟨v,rfl,hv⟩:=C;exact bo ⟨G,B.trans H,⟨v,rfl,hv⟩,U⟩
    .exact aW h
   .rename_i V u
    refine aR (fx (i.1 A R W σ s _ V q u d) fun z F B I=>?_);rw [aF kD];exact aR (er (c.1 A R z V F a N q h I) fun G P D H C U=>bo ⟨G,B.trans H,C,U⟩)
   .exact aW h
  .cases fin with
   |done P=>exact⟨P,rfl,h'⟩
   |again m=>exact h'
theorem dc.while(n:Nat){Y:Expr}{V Z:List Stmt}{S:Pos}{t:BR}{f o:SR}(Q:fW T b X Y t)(M:bu T b X V f)(N:bu T b X Z o):dc T b X (.While Y V Z S) (eE t f o n):=by
 refine⟨?_⟩;intro A R W σ s a U I h P;exact wpAny_While (mt (rD Q M N I n W σ s a U h P) fun r H ⟨G,e,O⟩=>by subst e;exact O)
end
noncomputable def Fz.un(R z:Fz):Fz:=⟨fun a=>(z.h a).or (R.h a),fun g=>(z.g g).or (R.g g)⟩
noncomputable def iQ(a:Addr)(o:Obj):Fz:=⟨fun b=>if b=a then some o else none,fun _=>none⟩
theorem aJ{R z:Fz}{a:Addr}:(R.un z).h a=none↔z.h a=none/\R.h a=none:=by
 show(z.h a).or (R.h a)=none↔_;cases z.h a<;>simp
theorem bw{R z:Fz}{a:Addr}{o:Obj}:(R.un z).h a=some o↔z.h a=some o\/(z.h a=none/\R.h a=some o):=by
 show(z.h a).or (R.h a)=some o↔_;cases z.h a<;>simp
theorem co{R z:Fz}{a:Nat}{o:GenState}:(R.un z).g a=some o↔z.g a=some o\/(z.g a=none/\R.g a=some o):=by
 show(z.g a).or (R.g a)=some o↔_;cases z.g a<;>simp
theorem cy{a b:Addr}{o Z:Obj}:(iQ a o).h b=some Z↔b=a/\o=Z:=by
 show(if b=a then some o else none)=some Z↔_
 by_cases h:b=a<;>simp [h]
theorem dE{a b:Addr}{o:Obj}:(iQ a o).h b=none↔b≠a:=by
 show(if b=a then some o else none)=none↔_
 by_cases h:b=a<;>simp [h]
structure dp(T:Tp)(X:Cx)(R:Fz)(W:Wd)(σ:AS)(s:Shared)(z:Fz):Prop where
 rel:cj T X (R.un z) W σ s
 nF:∀x o,z.h x=some o->W.F x=none
 nR:∀x o,z.h x=some o->R.h x=none
 nG:∀x o,z.g x=some o->R.g x=none
noncomputable def dC(z:Fz)(h:Heap):Prop:=∀a o,z.h a=some o->h.get? a=none
section
variable {T:Tp}{X:Cx}{R:Fz}{W:Wd}{σ:AS}{s:Shared}{b:Nat}{A:Around}
theorem cj.weaken{z:Fz}(h:cj T X (R.un z) W σ s)(S:FH R.h s.heap)(O:∀g x,R.g g=some x->s.gens[g]?=some x):cj T X R W σ s:=by
 refine⟨⟨h.r.top,h.r.hF,S,O,h.r.trk,fun i U=>?_,h.r.inj,fun P Q=>?_,h.r.bare,h.r.os,h.r.sysm⟩,⟨h.l.m,h.l.nF,(aJ.mp h.l.nR).2,h.l.t,h.l.ρ,h.l.cv⟩,h.nx⟩
 .obtain⟨V,Y,Z,N⟩:=h.r.fre i U
  exact⟨V,(aJ.mp Y).2,Z,N⟩
 .obtain⟨V,Y,Z⟩:=h.r.tabs P Q
  exact⟨V,(aJ.mp Y).2,Z⟩
theorem dp.out{z:Fz}(h:dp T X R W σ s z):cj T X R W σ s:=
 h.rel.weaken (fun a o e=>h.rel.r.hR a o (bw.mpr (by
  cases q:z.h a with
  |none=>exact .inr ⟨rfl,e⟩
  |some Z=>have:=h.nR a Z q;rw [e]at this;cases this))) (fun g x e=>h.rel.r.hG g x (co.mpr (by
  cases q:z.g g with
  |none=>exact .inr ⟨rfl,e⟩
  |some Z=>have:=h.nG g Z q;rw [e]at this;cases this)))
theorem dp.go{z:Fz}(h:dp T X R W σ s z){V:Wd}{Z:AS}{U:Shared}(g:cH W s.heap V U.heap)(Q:cj T X (R.un z) V Z U):dp T X R V Z U z:=
 {rel:=Q
  nF:=fun x o e=>by
   cases q:V.F x with
   |none=>rfl
   |some S=>
    rcases g.fr x S q with Y|Y
    .rw [h.nF x o e]at Y;exact aW Y
    .have:=h.rel.r.hR x o (bw.mpr (.inl e))
     rw [Y]at this
     exact aW this
  nR:=h.nR
  nG:=h.nG}
inductive IK where
 |lst (i j:Nat)
 |rng (x:Int) (n:Nat)
 |tup (ps:List PV)
 |sgn (cs:List Nat)
 |rev (i j:Nat)
 |its (ps:List PV)
noncomputable def gZ(σ:AS):IK->Option (Option (PV×IK))
 |.lst i j=>(dN (σ.st.lookup i)).bind fun Z=>some ((Z[j]?).map fun p=>(p,.lst i (j+1)))
 |.rng x 0=>some none
 |.rng x (n+1)=>some (some (.int x,.rng (x+1) n))
 |.tup []=>some none
 |.tup (p::Z)=>some (some (p,.tup Z))
 |.sgn []=>some none
 |.sgn (c::Y)=>some (some (.str ⟨#[c]⟩,.sgn Y))
 |.rev i 0=>some none
 |.rev i (j+1)=>(dN (σ.st.lookup i)).bind fun Z=>(Z[j]?).map fun p=>some (p,.rev i j)
 |.its []=>some none
 |.its (p::Z)=>some (some (p,.its Z))
inductive Th(T:Tp)(X:Cx)(R:Fz)(J:Wd->IK->Fz->Prop)(W:Wd)(s:Shared)(z:Fz)(σ:AS)(p:PV)(k':IK)(x:Option Value)(s':Shared):Prop
 |mk(v:Value)(W':Wd)(z':Fz)(e:x=some v)(hv:bk W' p v)(hj:J W' k' z')(hl:dp T X R W' σ s' z')(hg:∀W₀ h₀,dC z h₀->cH W₀ h₀ W s.heap->dC z' h₀/\cH W₀ h₀ W' s'.heap)
inductive TF(T:Tp)(X:Cx)(R:Fz)(W:Wd)(s:Shared)(z:Fz)(σ:AS)(x:Option Value)(s':Shared):Prop
 |mk(W':Wd)(e:x=none)(hr:cj T X R W' σ s')(hg:∀W₀ h₀,dC z h₀->cH W₀ h₀ W s.heap->cH W₀ h₀ W' s'.heap)
structure lR(T:Tp)(b:Nat)(X:Cx)(A:Around)(it:Value)(J:Wd->IK->Fz->Prop):Prop where
 mono:∀W W' k z,GK W W'->J W k z->J W' k z
 step:∀R W σ s k z p k',jb b A->J W k z->dp T X R W σ s z->gZ σ k=some (some (p,k'))->
  wpAny (model T.prog T.w) A (pyNext it) (Th T X R J W s z σ p k') bf s
 done:∀R W σ s k z,jb b A->J W k z->dp T X R W σ s z->gZ σ k=some none->
  wpAny (model T.prog T.w) A (pyNext it) (TF T X R W s z σ) bf s
 own:∀R W σ s k z target v Q E,J W k z->dp T X R W σ s z->Q () s->wpAny (model T.prog T.w) A (letOwnedTupleGo target it v) Q E s
 self:∀R W σ s k z Q E,J W k z->dp T X R W σ s z->Q it s->wpAny (model T.prog T.w) A (pyIter it) Q E s
noncomputable def iz(V:TR)(f o:SR):Nat->IK->SR
 |0,_=>fun _=>none
 |n+1,k=>fun σ=>match gZ σ k with
  |some (some (p,U))=>(match V p σ with
   |some Y=>(match f Y with
    |some (.next,Z)=>iz V f o n U Z
    |some (.cont,Z)=>iz V f o n U Z
    |some (.brk,Z)=>some (.next,Z)
    |some (.ret q,Z)=>some (.ret q,Z)
    |none=>none)
   |none=>none)
  |some none=>o σ
  |none=>none
theorem Lz(tg f o w1_):iz tg f o 0 w1_=(fun _=>none):=rfl
theorem MZ(V f o n k):iz V f o (n+1) k=(fun σ=>match gZ σ k with
  |some (some (p,U))=>(match V p σ with
   |some Y=>(match f Y with
    |some (.next,Z)=>iz V f o n U Z
    |some (.cont,Z)=>iz V f o n U Z
    |some (.brk,Z)=>some (.next,Z)
    |some (.ret q,Z)=>some (.ret q,Z)
    |none=>none)
   |none=>none)
  |some none=>o σ
  |none=>none):=rfl
set_option tactic.hygienic true in
theorem wG{it:Value}{J:Wd->IK->Fz->Prop}(P:lR T b X A it J){Z:Expr}{I Y:List Stmt}{tg:TR}{f o:SR}(ht:dR T b X Z tg)(hf:bu T b X I f)(ho:bu T b X Y o)(hA:jb b A)
  {N:Wd} {U:Heap}:∀(n:Nat) (k:IK) (z:Fz) (W:Wd) (σ:AS) (s:Shared) (a:AF) (F:AS),
  iz tg f o n k σ=some (a,F)->J W k z->dp T X R W σ s z->dC z U->cH N U W s.heap->
  codeAny (model T.prog T.w) A (.forLoop Z it I Y X.env) (fun r m=>∃H,r=.ok H/\∃y,cH N U y m.heap/\xJ y a H/\cj T X R y F m) s
 |0,_,_,_,_,_,_,_,h,_,_,_,_=>aW h
 |n+1,k,z,W,σ,s,a,F,h,hj,hl,hd,hg=>by
  have hu:A.under (.forLoop Z it I Y X.env)=A:=vV rfl;refine wb ?_
  rw [hu];show wpAny (model T.prog T.w) A ((forTurn Z it I Y X.env).onRaise (fun x=>do noteFrame x X.env;theTreesLotGoes x)) _ _ s;refine uJ (bG (Q:=fun fin m=>match fin with
   |.done H=>∃y,cH N U y m.heap/\xJ y a H/\cj T X R y F m
   |.again c'=>c'.quiet=true/\codeAny (model T.prog T.w) A c' (fun r m=>∃H,r=.ok H/\∃y,cH N U y m.heap/\xJ y a H/\cj T X R y F m) m) (E:=bf) ?_ (fun fin m h'=>?_) ar)
  .unfold forTurn
   refine aR (iM ?_);simp only [Lz,MZ]at h
   split at h
   .rename_i p k' z3
    refine aR (uz (bG (P.step R W σ s k z p k' hA hj hl z3) (fun x z0 hx=>?_) ar));obtain⟨v,z1,t,rfl,hv,z2,d,z5⟩:=hx;obtain⟨z6,C⟩:=z5 N U hd hg
    split at h
    .rename_i G z8
     refine aR (P.own R z1 σ z0 k' t Z v _ _ z2 d ?_);refine aR (gt (ht.1 A (R.un t) z1 σ z0 p v G hA z8 d.rel hv) fun g l B M=>?_);have e:=d.go B M;have again {af:AF} {V:AS} (O:f G=some (af,V)) (z9:af=.next\/af=.cont) (h:iz tg f o n k' V=some (a,F)):wpAny (model T.prog T.w) A (do
      match <-execs I X.env with
      |.next|.cont=>again (.forLoop Z it I Y X.env)
      |.brk=>pure (.done .next)
      |.ret v=>pure (.done (.ret v))) (fun fin m=>match fin with
   |.done H=>∃y,cH N U y m.heap/\xJ y a H/\cj T X R y F m
   |.again c'=>c'.quiet=true/\codeAny (model T.prog T.w) A c' (fun r m=>∃H,r=.ok H/\∃y,cH N U y m.heap/\xJ y a H/\cj T X R y F m) m) bf l:=by
      refine aR (er (hf.1 A (R.un t) g G l af V hA O M) fun i H c S j D=>?_);have z7:(Code.forLoop Z it I Y X.env).quiet=true/\codeAny (model T.prog T.w) A (.forLoop Z it I Y X.env) (fun r m=>∃H,r=.ok H/\∃y,cH N U y m.heap/\xJ y a H/\cj T X R y F m) c:=
       ⟨rfl,wG P ht hf ho hA n k' t i V c a F h (P.mono _ _ _ _ (B.trans S).ext z2) (e.go S D) z6 ((C.trans B).trans S)⟩
      rcases z9 with rfl|rfl
      .rw [show H=.next from j];exact bo z7
      .rw [show H=.cont from j];exact bo z7
     split at h
     .rename_i V O;exact again O (.inl rfl) h
     .rename_i V O;exact again O (.inr rfl) h
     .rename_i V O
      cases h;refine aR (er (hf.1 A (R.un t) g G l _ _ hA O M) fun i H c S j D=>?_);rw [show H=.brk from j];exact bo ⟨i,(C.trans B).trans S,rfl,(e.go S D).out⟩
     .rename_i q V O
      cases h;refine aR (er (hf.1 A (R.un t) g G l _ _ hA O M) fun i H c S j D=>?_);obtain⟨u,rfl,hu⟩:=j;exact bo ⟨i,(C.trans B).trans S,⟨u,rfl,hu⟩,(e.go S D).out⟩
     .exact aW h
    .exact aW h
   .rename_i z3
    refine aR (uz (bG (P.done R W σ s k z hA hj hl z3) (fun x z0 hx=>?_) ar));obtain⟨z1,rfl,z4,z5⟩:=hx;have C:=z5 N U hd hg;exact bo ⟨rfl,codeAny_block (bG (ho.1 A R z1 σ z0 a F hA h z4) (fun H l ⟨g,B,j,M⟩=>⟨H,rfl,g,C.trans B,j,M⟩) ar)⟩
   .exact aW h
  .cases fin with
   |done H=>exact⟨H,rfl,h'⟩
   |again c'=>exact h'
inductive kx(T:Tp)(b:Nat)(X:Cx)(A:Around)(R:Fz)(W:Wd)(s:Shared)(k:IK)(σ':AS)(it:Value)(s':Shared):Prop
 |mk(J:Wd->IK->Fz->Prop)(W':Wd)(z:Fz)(hP:∀X,lR T b X A it J)(hj:J W' k z)(hl:dp T X R W' σ' s' z)(hd:dC z s.heap)(hg:cH W s.heap W' s'.heap)
structure iX(T:Tp)(b:Nat)(X:Cx)(iter:Expr)(src:AS->Option (IK×AS)):Prop where
 go:
  ∀A R W σ s k σ',jb b A->src σ=some (k,σ')->cj T X R W σ s->wpAny (model T.prog T.w) A (eval iter X.env) (fun x s₁=>wpAny (model T.prog T.w) A (pyIter x) (kx T b X A R W s k σ') bf s₁) bf s
noncomputable def dD(n:Nat)(Y:AS->Option (IK×AS))(V:TR)(f o:SR):SR:=fun σ=>match Y σ with|some (k,Z)=>iz V f o n k Z|none=>none
set_option tactic.hygienic true in
theorem dc.for(n:Nat){Z iter:Expr}{U Y:List Stmt}{M:Pos}{Q:AS->Option (IK×AS)}{G:TR}{f o:SR}(B:iX T b X iter Q)(C:dR T b X Z G)(p:bu T b X U f)(v:bu T b X Y o)
  (l:∀x,foldedSetIterable iter X.env x=pure x:=by intro _;rfl):dc T b X (.For Z iter U Y M) (dD n Q G f o):=by
 refine⟨?_⟩;intro A R W σ s a N E h y;unfold dD at h
 split at h
 .rename_i k V e
  refine wpAny_For (bG (B.1 A R W σ s k V E e y) (fun x F D=>bG D (fun d S w=>?_) ar) ar) l;obtain⟨J,O,z,P,t,u,m,q⟩:=w;exact mt (wG (P X) C p v E n k z O V S a N h t u m q) fun r g ⟨c,e,i,j,H,I⟩=>by subst e;exact⟨i,j,H,I⟩
 .exact aW h
end
section
variable {T:Tp}{X:Cx}{R:Fz}{W:Wd}{σ:AS}{s:Shared}{b:Nat}{A:Around}
theorem dp.fin{a:Addr}{o:Obj}(h:dp T X R W σ s (iQ a o)){B:Heap}(N:Heap.ExtBut a s.heap B)(k:Nat):
  cj T X R W σ {s with heap:=B,toks:=k}/\∀Q V,dC (iQ a o) V->cH Q V W s.heap->cH Q V W B:=by
 have E:(iQ a o).h a=some o:=cy.mpr ⟨rfl,rfl⟩;have D:=h.nF a o E;have p:=h.nR a o E;have Y:=h.rel;have S {F:Addr->Option Obj} (D:F a=none):∀b o,F b=some o->b≠a:=fun b o e q=>by rw [q,D]at e;exact aW e
 have Z:∀b,(R.un (iQ a o)).h b=none->b≠a:=fun b e=>dE.mp (aJ.mp e).1
 refine⟨⟨⟨Y.r.top,fun b U e=>N b U (S D b U e) (Y.r.hF b U e),fun b U e=>N b U (S p b U e) (h.out.r.hR b U e),h.out.r.hG,fun i f e=>?_,fun i w=>?_,Y.r.inj,fun P j=>?_,Y.r.bare,Y.r.os,Y.r.sysm⟩,?_,Y.nx⟩,fun Q V v g=>⟨g.F,g.fr,g.n,g.ρ,fun b U e=>?_⟩⟩
 .obtain⟨I,U,M,H⟩:=Y.r.trk i f e
  exact⟨I,U,N _ _ (Z _ (Y.r.fre i I).2.1) M,H⟩
 .obtain⟨I,M,H,U,C⟩:=Y.r.fre i w
  exact⟨I,(aJ.mp M).2,H,U,N _ _ (Z _ M) C⟩
 .obtain⟨I,M,z,H,C⟩:=Y.r.tabs P j
  exact⟨I,(aJ.mp M).2,z,N _ _ (Z _ M) H,C⟩
 .obtain⟨m,y,x⟩:=Y.l.m
  exact⟨⟨m,y.extBut N (Z _ Y.l.nR),x⟩,Y.l.nF,(aJ.mp Y.l.nR).2,Y.l.t,Y.l.ρ,Y.l.cv⟩
 .obtain⟨O,G⟩:=g.th b U e
  have u:b≠a:=fun q=>by have:=v a o E;rw [<-q,e]at this;cases this
  exact⟨O,N b O u G⟩
theorem dp.upd{a:Addr}{o N:Obj}(h:dp T X R W σ s (iQ a o)){M:Heap}(C:Heap.SameBut a s.heap M)(B:M.get? a=some N)(k:Nat):
  dp T X R W σ {s with heap:=M,toks:=k} (iQ a N)/\∀S Z,dC (iQ a o) Z->cH S Z W s.heap->dC (iQ a N) Z/\cH S Z W M:=by
 have H:(iQ a o).h a=some o:=cy.mpr ⟨rfl,rfl⟩;obtain⟨Y,z⟩:=h.fin C.extBut k;have U:∀b,(R.un (iQ a o)).h b=none->b≠a:=fun b e=>dE.mp (aJ.mp e).1
 have I:∀b,R.h b=none->b≠a->(R.un (iQ a N)).h b=none:=fun b O Q=>aJ.mpr ⟨dE.mpr Q,O⟩
 refine⟨⟨⟨⟨Y.r.top,Y.r.hF,fun b V e=>?_,fun g x e=>Y.r.hG g x ?_,Y.r.trk,fun i F=>?_,Y.r.inj,fun P D=>?_,Y.r.bare,Y.r.os,Y.r.sysm⟩,⟨Y.l.m,Y.l.nF,I _ Y.l.nR (U _ h.rel.l.nR),Y.l.t,Y.l.ρ,Y.l.cv⟩,Y.nx⟩,fun x V e=>?_,fun x V e=>?_,fun x V e=>by exact aW e⟩,fun S Z E g=>⟨fun b V e=>?_,z S Z E g⟩⟩
 .rcases bw.mp e with e|⟨_,e⟩
  .obtain⟨rfl,rfl⟩:=cy.mp e;exact B
  .exact Y.r.hR b V e
 .rcases co.mp e with e|⟨_,e⟩
  .exact aW e
  .exact e
 .obtain⟨O,Q,G,y⟩:=Y.r.fre i F
  exact⟨O,I _ Q (U _ (h.rel.r.fre i F).2.1),G,y⟩
 .obtain⟨O,Q,G⟩:=Y.r.tabs P D
  exact⟨O,I _ Q (U _ (h.rel.r.tabs P D).2.1),G⟩
 .obtain⟨rfl,_⟩:=cy.mp e;exact h.nF _ _ H
 .obtain⟨rfl,_⟩:=cy.mp e;exact h.nR _ _ H
 .obtain⟨rfl,_⟩:=cy.mp e;exact E _ _ H
theorem dp.new(U:cj T X R W σ s){o:Obj}(D:o.isFreed=false)(k:Nat):
  dp T X R W σ {s with heap:=s.heap.push o,toks:=k} (iQ s.heap.objs.size o)/\dC (iQ s.heap.objs.size o) s.heap/\cH W s.heap W (s.heap.push o):=by
 have Y:=U.push o k;have V:s.heap.get? s.heap.objs.size=none:=by
  cases q:s.heap.get? s.heap.objs.size with
  |none=>rfl
  |some Z=>exact absurd (bL q) (eG _)
 have B:W.F s.heap.objs.size=none:=aX U.r.hF (bZ _);have C:R.h s.heap.objs.size=none:=aX U.r.hR (bZ _);have O:∀b,R.h b=none->b≠s.heap.objs.size->(R.un (iQ s.heap.objs.size o)).h b=none:=fun b Q S=>aJ.mpr ⟨dE.mpr S,Q⟩
 refine⟨⟨⟨⟨Y.r.top,Y.r.hF,fun b Z e=>?_,fun g x e=>Y.r.hG g x ?_,Y.r.trk,fun i H=>?_,Y.r.inj,fun P G=>?_,Y.r.bare,Y.r.os,Y.r.sysm⟩,⟨Y.l.m,Y.l.nF,O _ Y.l.nR ?_,Y.l.t,Y.l.ρ,Y.l.cv⟩,Y.nx⟩,fun x Z e=>?_,fun x Z e=>?_,fun x Z e=>by exact aW e⟩,fun b Z e=>?_,cH.push ..⟩
 .rcases bw.mp e with e|⟨_,e⟩
  .obtain⟨rfl,rfl⟩:=cy.mp e;exact iI _ D
  .exact Y.r.hR b Z e
 .rcases co.mp e with e|⟨_,e⟩
  .exact aW e
  .exact e
 .obtain⟨Q,S,M,z⟩:=Y.r.fre i H
  obtain⟨_,_,_,I,N⟩:=U.r.fre i H;exact⟨Q,O _ S (gn (bL N)),M,z⟩
 .obtain⟨Q,S,M⟩:=Y.r.tabs P G
  obtain⟨_,_,y,N,_⟩:=U.r.tabs P G;exact⟨Q,O _ S (gn (bL N)),M⟩
 .obtain⟨m,E,_⟩:=U.l.m
  exact gn E.lt
 .obtain⟨rfl,_⟩:=cy.mp e;exact B
 .obtain⟨rfl,_⟩:=cy.mp e;exact C
 .obtain⟨rfl,_⟩:=cy.mp e;exact V
theorem dp.here{a:Addr}{o:Obj}(h:dp T X R W σ s (iQ a o)):s.heap.get? a=some o:=h.rel.r.hR a o (bw.mpr (.inl (cy.mpr ⟨rfl,rfl⟩)))
theorem gV{a:Addr}{n:String}{Y:Array Value}{o:Obj}{Q:Unit->Shared->Prop}{E:Value->Shared->Prop}{Z:Expr}{v:Value}(V:s.heap.get? a=some o)(P:o.cls=.type n)(S:o.data=.fields Y)
  (U:["enumerate","zip","dict_itemiterator","dict_reverseitemiterator","odict_iterator","itertools.zip_longest","itertools.pairwise"].contains n=false) (h:Q () s):wpAny (model T.prog T.w) A (letOwnedTupleGo Z (.ref a) v) Q E s:=by
 have go:wpAny (model T.prog T.w) A (letOwnedTupleGo (.Tuple [] 0 default) (.ref a) v) Q E s:=by
  cases v<;>(try exact bo h)
  unfold letOwnedTupleGo;dsimp only;refine aR (wpAny_load V ?_);rw [P,S];dsimp only;rw [U,Bool.false_and,aF kD];exact bo h
 cases Z<;>first|exact bo h|exact go
noncomputable def RM(n:String)(Z:Array Value)(o:Obj):Prop:=o.cls=.type n/\o.data=.fields Z
inductive Vk(a:Addr)(W:Wd)(k:IK)(z:Fz):Prop
 |mk(i j:Nat)(ek:k=.lst i j)(hi:i<W.n)(o:Obj)(ez:z=iQ a o)(hio:RM "list_iterator" #[.ref (W.ρ i),.int j 0] o)
theorem ke{a l:Addr}{j:Nat}{o:Obj}{h:Heap}(Y:h.get? a=some o)(Z:RM "list_iterator" #[.ref l,.int j 0] o):h.IsListIter a l j:=⟨o,Y,Z.1,Z.2⟩
set_option tactic.hygienic true in
theorem Fg(a:Addr):lR T b X A (.ref a) (Vk a) where
 mono:=fun W W' k z g h=>by
  obtain⟨i,j,c,O,o,e,Z⟩:=h;exact⟨i,j,c,fj O g.n,o,e,by rw [g.ρ _ O];exact Z⟩
 step:=fun R W σ s k z p k' q P Y V=>by
  obtain⟨i,j,rfl,O,o,rfl,Z⟩:=P;refine dh (show(dN (σ.st.lookup i)).bind _=_ from V) fun t e V=>?_
  obtain⟨p',w,V⟩:=kN.mp (aZ V);cases V;obtain⟨_,m,S,u,n,rfl,U⟩:=Y.rel.r.trk i _ (gC e);obtain⟨x,f,I⟩:=U.get w;refine wpAny_pyNext_list_item (ke Y.here Z) ⟨_,S,rfl,n,rfl⟩ (x:=x) (by simpa using f) fun d F H=>?_
  obtain⟨l,G,C,D⟩:=F;obtain⟨y,B⟩:=Y.upd H G s.toks;exact⟨x,W,_,rfl,I,⟨i,j+1,rfl,O,l,rfl,C,D⟩,y,B⟩
 done:=fun R W σ s k z q P Y V=>by
  obtain⟨i,j,rfl,O,o,rfl,Z⟩:=P;refine dh (show(dN (σ.st.lookup i)).bind _=_ from V) fun t e V=>?_
  have w:=Option.map_eq_none_iff.mp (aZ V);obtain⟨_,m,S,u,n,rfl,U⟩:=Y.rel.r.trk i _ (gC e);have N:t.length=u.size:=U.length;refine wpAny_pyNext_list_end q.hnd (ke Y.here Z) ⟨_,S,rfl,n,rfl⟩ (by
   rw [Ao];have:=Hd.mp w
   exact ci 0x80100022000000840000a22 rfl N this) fun d H=>?_
  obtain⟨y,B⟩:=Y.fin H s.toks;exact⟨W,rfl,y,B⟩
 own:=fun R W σ s k z M v Q E P Y h=>by
  obtain⟨i,j,rfl,O,o,rfl,Z⟩:=P;exact gV Y.here Z.1 Z.2 (by decide) h
 self:=fun R W σ s k z Q E P Y h=>by
  obtain⟨i,j,rfl,O,o,rfl,Z⟩:=P;exact wpAny_pyIter_listiter (ke Y.here Z) h
inductive VC(a:Addr)(W:Wd)(k:IK)(z:Fz):Prop
 |mk(x:Int)(n:Nat)(ek:k=.rng x n)(ez:z=iQ a {cls:=.type "range_iterator",dict:=none,data:=.fields #[rawInt x,rawInt n,rawInt 1],slots:=#[]})
set_option tactic.hygienic true in
theorem EV(a:Addr):lR T b X A (.ref a) (VC a) where
 mono:=fun W D k z g h=>by
  obtain⟨x,n,G,H⟩:=h;exact⟨x,n,G,H⟩
 step:=fun R W σ s k z p F M Y Z U=>by
  obtain⟨x,n,rfl,rfl⟩:=Y;cases n with
  |zero=>cases U
  |succ n=>
   cases U;refine wpAny_pyNext_range_item (x:=x) (left:=(n+1:Nat)) (step:=1) Z.here (by exact(aH 0x8400124014a420 rfl)) fun I P S=>?_
   obtain⟨N,O⟩:=Z.upd S P (s.toks+1);refine⟨_,W,_,rfl,eh _ _,⟨_,_,rfl,?_⟩,N,O⟩;show iQ a _=iQ a _;have:((n+1:Nat):Int)-1=n:=by exact ce (KH) (KN)
   rw [this]
 done:=fun R W σ s k z M Y Z U=>by
  obtain⟨x,n,rfl,rfl⟩:=Y;cases n with
  |succ n=>cases U
  |zero=>
   refine wpAny_pyNext_range_end M.hnd (x:=x) (left:=(0:Nat)) (step:=1) Z.here (by exact(uZ 0xa4014a020 rfl)) fun I S=>?_
   obtain⟨N,O⟩:=Z.fin S s.toks;exact⟨W,rfl,N,O⟩
 own:=fun R W σ s k z V v Q E Y Z h=>by
  obtain⟨x,n,rfl,rfl⟩:=Y;exact gV Z.here rfl rfl (by decide) h
 self:=fun R W σ s k z Q E Y Z h=>by
  obtain⟨x,n,rfl,rfl⟩:=Y;exact wpAny_pyIter_rangeiter (x:=x) (left:=n) (step:=1) Z.here h
inductive Vs(a t:Addr)(W:Wd)(k:IK)(z:Fz):Prop
 |mk(ps:List PV)(ek:k=.tup ps)(o:Obj)(vs:Array Value)(n j:Nat)(ez:z=iQ a o)(hi:RM "tuple_iterator" #[.ref t,.int (j:Nat) 0] o)(hF:W.F t=some {cls:=.type "tuple",data:=.seq vs n})(hv:aP W ps (vs.toList.drop j))
theorem mP{a l:Addr}{j:Nat}{o:Obj}{h:Heap}(Y:h.get? a=some o)(Z:RM "tuple_iterator" #[.ref l,.int j 0] o):h.IsTupleIter a l j:=⟨o,Y,Z.1,Z.2⟩
theorem gb{Z:Type}:∀{l:List Z} {j:Nat} {x:Z} {r:List Z},l.drop j=x::r->l[j]?=some x/\l.drop (j+1)=r
 |[],j,x,r,h=>by simp at h
 |y::l,0,x,r,h=>by cases h;exact⟨rfl,rfl⟩
 |y::l,j+1,x,r,h=>by
  have:=gb (l:=l) (j:=j) (by simpa using h)
  simpa using this
set_option tactic.hygienic true in
theorem Fp(a t:Addr):lR T b X A (.ref a) (Vs a t) where
 mono:=fun W W' k z g h=>by
  obtain⟨Y,c,o,S,n,j,e,V,U,P⟩:=h;exact⟨Y,c,o,S,n,j,e,V,g.F _ _ U,P.mono g⟩
 step:=fun R W σ s k z p k' u O Z M=>by
  obtain⟨Y,rfl,o,S,n,j,rfl,V,U,P⟩:=O;cases Y with
  |nil=>cases M
  |cons q Y=>
   cases M;obtain⟨v,m,e,w,y⟩:=P;obtain⟨i,f⟩:=gb e;refine wpAny_pyNext_tuple_item (mP Z.here V) ⟨_,Z.rel.r.hF _ _ U,rfl,n,rfl⟩ (x:=v) (by simpa using i) fun d D H=>?_
   obtain⟨l,G,B,C⟩:=D;obtain⟨g1,g2⟩:=Z.upd H G s.toks;exact⟨v,W,_,rfl,w,⟨Y,rfl,l,S,n,j+1,rfl,⟨B,C⟩,U,by rw [f];exact y⟩,g1,g2⟩
 done:=fun R W σ s k z u O Z M=>by
  obtain⟨Y,rfl,o,S,n,j,rfl,V,U,P⟩:=O;cases Y with
  |cons q Y=>cases M
  |nil=>
   have I:S.toList.drop j=[]:=P;refine wpAny_pyNext_tuple_end u.hnd (mP Z.here V) ⟨_,Z.rel.r.hF _ _ U,rfl,n,rfl⟩ (by
    have:=Bm.mp I;rw [Ao]
    simpa using this) fun d H=>?_
   obtain⟨w,y⟩:=Z.fin H s.toks;exact⟨W,rfl,w,y⟩
 own:=fun R W σ s k z N v Q E O Z h=>by
  obtain⟨Y,rfl,o,S,n,j,rfl,V,U,P⟩:=O;exact gV Z.here V.1 V.2 (by decide) h
 self:=fun R W σ s k z Q E O Z h=>by
  obtain⟨Y,rfl,o,S,n,j,rfl,V,U,P⟩:=O;exact wpAny_pyIter_tupleiter (mP Z.here V) h
inductive Vr(a:Addr)(x:Str)(t:Tok)(W:Wd)(k:IK)(z:Fz):Prop
 |mk(cs:List Nat)(ek:k=.sgn cs)(o:Obj)(j:Nat)(ez:z=iQ a o)(hi:RM "str_ascii_iterator" #[.str x t,.int (j:Nat) 0] o)(hv:x.cps.toList.drop j=cs)
set_option tactic.hygienic true in
theorem Eu(a:Addr)(x:Str)(t:Tok):lR T b X A (.ref a) (Vr a x t) where
 mono:=fun W f k z g h=>by
  obtain⟨V,n,o,j,r,Z,U⟩:=h;exact⟨V,n,o,j,r,Z,U⟩
 step:=fun R W σ s k z p l F S Y O=>by
  obtain⟨V,rfl,o,j,rfl,Z,U⟩:=S;cases V with
  |nil=>cases O
  |cons c V=>
   cases O;obtain⟨C,B⟩:=gb U;refine wpAny_pyNext_ascii_item (i:=j) ⟨o,Y.here,Z.1,Z.2⟩ (c:=c) (by simpa using C) fun u I N=>?_
   obtain⟨D,M,G,H⟩:=I;obtain⟨g1,g2⟩:=Y.upd N M (s.toks+1);exact⟨_,W,_,rfl,nA _ _,⟨V,rfl,D,j+1,rfl,⟨G,H⟩,B⟩,g1,g2⟩
 done:=fun R W σ s k z F S Y O=>by
  obtain⟨V,rfl,o,j,rfl,Z,U⟩:=S;cases V with
  |cons q m=>cases O
  |nil=>
   refine wpAny_pyNext_ascii_end (i:=j) F.hnd ⟨o,Y.here,Z.1,Z.2⟩ (by
    have:=Bm.mp U;rw [Ao]
    simpa using this) fun u N=>?_
   obtain⟨w,y⟩:=Y.fin N s.toks;exact⟨W,rfl,w,y⟩
 own:=fun R W σ s k z P v Q E S Y h=>by
  obtain⟨V,rfl,o,j,rfl,Z,U⟩:=S;exact gV Y.here Z.1 Z.2 (by decide) h
 self:=fun R W σ s k z Q E S Y h=>by
  obtain⟨V,rfl,o,j,rfl,Z,U⟩:=S;exact wpAny_pyIter_striter_ascii (i:=j) ⟨o,Y.here,Z.1,Z.2⟩ h
noncomputable def yO(p:PV)(σ:AS):Option IK:=match p with
 |.loc i=>(dN (σ.st.lookup i)).bind fun _=>some (.lst i 0)
 |.tup Z=>some (.tup Z)
 |.str x=>if x.cps.all (fun c=>decide (c<128))then some (.sgn x.cps.toList)else none
 |.rng u v=>if -(2^62)<=u/\u<2^62/\-(2^62)<=v/\v<2^62 then some (.rng u (v-u).toNat)else none
 |_=>none
noncomputable def dj(f:ER):AS->Option (IK×AS):=fS f fun p σ=>(yO p σ).bind fun k=>some (k,σ)
theorem Kn{u v:Int}(h:-(2^62)<=u/\u<2^62/\-(2^62)<=v/\v<2^62):Builtin.Range.small u v 1=true/\Builtin.Range.rangeSize u v 1=((v-u).toNat:Nat):=by
 have e:Builtin.Range.rangeSize u v 1=((v-u).toNat:Nat):=by
  unfold Builtin.Range.rangeSize;simp only [show(1:Int)>0 from by decide,ja,Int.ediv_one]
  split<;>omega
 refine⟨?_,e⟩;unfold Builtin.Range.small;rw [e];unfold Builtin.Range.rangeFitsLong;simp only [cR,zW,gJ,iS];refine⟨⟨⟨⟨⟨?_,?_⟩,?_,?_⟩,?_,?_⟩,?_,?_⟩,.inr ?_⟩<;>(try (split<;>simp))<;>omega
theorem kx.new{M:Around}{J:Wd->IK->Fz->Prop}{k:IK}{Y:Wd}{V:AS}{Z:Shared}{o:Obj}{N:Nat}(U:cH W s.heap Y Z.heap)(Q:cj T X R Y V Z)(H:o.isFreed=false)(G:∀X,lR T b X M (.ref Z.heap.objs.size) J)(I:J Y k (iQ Z.heap.objs.size o)):kx T b X M R W s k V (.ref Z.heap.objs.size) {Z with heap:=Z.heap.push o,toks:=N}:=by
 obtain⟨D,E,F⟩:=dp.new Q H N;refine⟨_,Y,_,G,I,D,fun a o e=>?_,U.trans F⟩;cases q:s.heap.get? a with
 |none=>rfl
 |some P=>obtain⟨O,S⟩:=U.th a P q;rw [E a o e]at S;exact aW S
theorem iX.val{iter:Expr}{f:ER}(h:aN T b X iter f):iX T b X iter (dj f):=by
 refine⟨?_⟩;intro A R W σ s k I q Q B;obtain⟨p,M,e,Q⟩:=aS Q;refine dh Q fun g U Q=>?_
 cases Q;refine aI (h.1 A R W σ s p _ q e B) fun P u Y V O Z=>?_
 cases p with
 |loc i=>
  refine dh (show(dN (I.st.lookup i)).bind _=_ from U) fun D m U=>?_
  cases U;obtain⟨z,rfl⟩:=O;obtain⟨_,j,F,E,n,rfl,S⟩:=Z.r.trk i _ (gC m);exact wpAny_pyIter_list ⟨_,F,rfl,n,rfl⟩ (kx.new (o:={cls:=.type "list_iterator",data:=.fields #[.ref (P.ρ i),.int 0 0]}) V Z rfl (fun X=>Fg Y.heap.objs.size) ⟨i,0,rfl,z,_,rfl,rfl,rfl⟩)
 |tup D=>
  cases U;obtain⟨t,E,n,rfl,N,S⟩:=O;exact wpAny_pyIter_tuple ⟨_,Z.r.hF _ _ N,rfl,n,rfl⟩ (kx.new (o:={cls:=.type "tuple_iterator",data:=.fields #[.ref t,.int 0 0]}) V Z rfl (fun X=>Fp Y.heap.objs.size t) ⟨D,rfl,_,E,n,0,rfl,⟨rfl,rfl⟩,N,S⟩)
 |str x=>
  refine gU U fun C U=>?_
  cases U;obtain⟨t,rfl⟩:=O;exact wpAny_pyIter_ascii C (kx.new (o:={cls:=.type "str_ascii_iterator",data:=.fields #[.str x t,.int 0 0]}) V Z rfl (fun X=>Eu Y.heap.objs.size x t) ⟨_,rfl,_,0,rfl,⟨rfl,rfl⟩,rfl⟩)
 |rng u v=>
  refine gU U fun y U=>?_
  cases U;obtain⟨r,t,l,w,rfl,N⟩:=O;obtain⟨G,H⟩:=Kn y;refine wpAny_pyIter_range (Z.r.hF _ _ N) G ?_
  rw [H];exact kx.new (o:={cls:=.type "range_iterator",data:=.fields #[rawInt u,rawInt ((v-u).toNat:Nat),rawInt 1]}) V Z rfl (fun X=>EV Y.heap.objs.size) ⟨_,_,rfl,rfl⟩
 |_=>exact aW U
end
mutual
noncomputable def fQ:PV->List Nat
 |.loc i=>[i]
 |.hdr _ l=>[l]
 |.tup Z=>bY Z
 |.clo _ _ _ _ _ Y=>Y.map (·.2)
 |_=>[]
noncomputable def bY:List PV->List Nat
 |[]=>[]
 |p::Z=>fQ p++bY Z
end
theorem xG(i):fQ (.loc i)=([i]):=rfl
theorem ya(w1_ l):fQ (.hdr w1_ l)=([l]):=rfl
theorem wJ(ps):fQ (.tup ps)=(bY ps):=rfl
theorem yB(w1_ w2_ w3_ w4_ w5_ cs):fQ (.clo w1_ w2_ w3_ w4_ w5_ cs)=(cs.map (·.2)):=rfl
mutual
noncomputable def iF(r:Nat->Nat):PV->PV
 |.loc i=>.loc (r i)
 |.hdr C l=>.hdr C (r l)
 |.tup Z=>.tup (fe r Z)
 |.clo a b c d e Y=>.clo a b c d e (Y.map fun x=>(x.1,r x.2))
 |p=>p
noncomputable def fe(r:Nat->Nat):List PV->List PV
 |[]=>[]
 |p::Z=>iF r p::fe r Z
end
noncomputable def eK:AO->List Nat
 |.list Z=>bY Z
 |.cell (some p)=>fQ p
 |.cell none=>[]
 |.dict Y=>bY (Y.map (·.2))
 |.set Z=>bY Z
noncomputable def iG(r:Nat->Nat):AO->AO
 |.list Z=>.list (fe r Z)
 |.cell (some p)=>.cell (some (iF r p))
 |.cell none=>.cell none
 |.dict Y=>.dict (Y.map fun x=>(x.1,iF r x.2))
 |.set Z=>.set (fe r Z)
structure Sv(W W':Wd)(r:Nat->Nat)(ids:List Nat):Prop where
 F:∀a o,W.F a=some o->W'.F a=some o
 r:∀i,i∈ids->i<W.n->r i<W'.n/\W'.ρ (r i)=W.ρ i
mutual
theorem bk.ren{W U:Wd}{r:Nat->Nat}{S:List Nat}(g:Sv W U r S):∀{p:PV} {v:Value},(∀i∈fQ p,i∈S)->bk W p v->bk U (iF r p) v
 |.none,_,_,h=>h
 |.bool _,_,_,h=>h
 |.int _,_,_,h=>h
 |.str _,_,_,h=>h
 |.rng _ _,_,_,h=>by
  obtain⟨x,t,u,w,e,b⟩:=h;exact⟨x,t,u,w,e,g.F _ _ b⟩
 |.fl ns,v,Z,h=>by
  obtain⟨a,o,n,G,e,X,Y⟩:=h;exact⟨a,o,n,G,e,g.F _ _ X,Y⟩
 |.tup ps,v,Z,h=>by
  obtain⟨a,E,n,e,d,j⟩:=h;exact⟨a,E,n,e,g.F _ _ d,aP.ren g Z j⟩
 |.loc i,v,Z,h=>by
  obtain⟨X,Y⟩:=g.r i (Z i (.head _)) h.1;exact⟨X,by rw [Y];exact h.2⟩
 |.val _,_,_,h=>h
 |.hdr C l,v,Z,h=>by
  obtain⟨f,a,D,m,e,X,Y,h3⟩:=h;obtain⟨h4,h5⟩:=g.r l (Z l (.head _)) f;exact⟨h4,a,D,m,e,g.F _ _ X,g.F _ _ Y,by rw [h5];exact h3⟩
 |.clo I M R H Q O,v,Z,h=>by
  obtain⟨c,a,o,e,X,Y⟩:=h;have T:∀x∈O,r x.2<U.n/\U.ρ (r x.2)=W.ρ x.2:=fun x V=>g.r x.2 (Z x.2 (ri V)) (c x V)
  refine⟨fun x V=>?_,a,o,e,g.F _ _ X,?_⟩
  .obtain⟨y,k,rfl⟩:=iq.mp V
   exact(T y k).1
  .obtain⟨z,P,s,an,N,ct,A,B⟩:=Y
   refine⟨z,P,s,an,N,ct,?_,fun h e=>B h fun a o q=>e a o (g.F a o q)⟩;have:((O.map fun x=>(x.1,r x.2)).map fun x=>(x.1,U.ρ x.2))=O.map fun x=>(x.1,W.ρ x.2):=by
    rw [oB];exact BN fun x V=>by show(x.1,U.ρ (r x.2))=_;rw [(T x V).2]
   rw [this];exact A
theorem aP.ren{W T:Wd}{r:Nat->Nat}{Z:List Nat}(g:Sv W T r Z):∀{Y:List PV} {V:List Value},(∀i∈bY Y,i∈Z)->aP W Y V->aP T (fe r Y) V
 |[],_,_,h=>h
 |p::Y,V,U,h=>by
  obtain⟨v,X,e,R,S⟩:=h;exact⟨v,X,e,bk.ren g (fun i q=>U i (uq _ q)) R,aP.ren g (fun i q=>U i (va _ q)) S⟩
end
theorem El(r):fe r []=([]):=rfl
theorem Eb(r p ps):fe r (p::ps)=(iF r p::fe r ps):=rfl
theorem nM.ren{T:World}{W N:Wd}{r:Nat->Nat}{Y:List Nat}(g:Sv W N r Y){V:AO}{o:Obj}(X:∀i∈eK V,i∈Y)(h:nM T W V o):nM T N (iG r V) o:=by
 cases V with
 |list I=>obtain⟨M,n,e,q⟩:=h;exact⟨M,n,e,q.ren g X⟩
 |cell p=>
  cases p with
  |none=>obtain⟨v,e,q⟩:=h;exact⟨v,e,trivial⟩
  |some p=>obtain⟨v,e,x,G,q⟩:=h;exact⟨v,e,x,G,q.ren g X⟩
 |dict Z=>
  obtain⟨H,O,P,Q⟩:=h;have e:(Z.map fun x=>(x.1,iF r x.2)).map (·.2)=fe r (Z.map (·.2)):=by
   clear O P Q X
   induction Z with
   |nil=>rfl
   |cons x Z U=>simp only [cP,El,Eb,U]
  refine⟨H,O,?_,?_⟩
  .rw [P,oB];rfl
  .rw [e];exact Q.ren g X
 |set I=>
  obtain⟨S,rfl,R⟩:=h;refine⟨S,?_,R⟩;clear R X
  induction S with
  |nil=>rfl
  |cons x F U=>exact bv (PV.int x::·) U
mutual
theorem bk.sc{W:Wd}:∀{p:PV} {v:Value},bk W p v->∀i∈fQ p,i<W.n
 |.none,_,_,i,Z=>by cases Z
 |.bool _,_,_,i,Z=>by cases Z
 |.int _,_,_,i,Z=>by cases Z
 |.str _,_,_,i,Z=>by cases Z
 |.rng _ _,_,_,i,Z=>by cases Z
 |.fl _,_,_,i,Z=>by cases Z
 |.tup O,v,h,i,Z=>by obtain⟨a,P,n,e,N,R⟩:=h;exact aP.sc R i Z
 |.loc j,v,h,i,Z=>by
  have:i=j:=by simpa [xG,ya,wJ,yB]using Z
  subst this;exact h.1
 |.val _,_,_,i,Z=>by cases Z
 |.hdr C l,v,h,i,Z=>by
  have:i=l:=by simpa [xG,ya,wJ,yB]using Z
  subst this;exact h.1
 |.clo U V Y T X Q,v,h,i,Z=>by
  obtain⟨x,S,rfl⟩:=iq.mp (show i∈Q.map (·.2)from Z);exact h.1 x S
theorem aP.sc{W:Wd}:∀{Z:List PV} {X:List Value},aP W Z X->∀i∈bY Z,i<W.n
 |[],_,_,i,Y=>by cases Y
 |p::Z,X,h,i,Y=>by
  obtain⟨v,V,e,T,U⟩:=h;rcases kQ.mp (show i∈fQ p++bY Z from Y)with q|q
  .exact bk.sc T i q
  .exact aP.sc U i q
end
theorem nM.sc{X:World}{W:Wd}{Y:AO}{o:Obj}(h:nM X W Y o)(U:∀Z,Y≠.set Z):∀i∈eK Y,i<W.n:=by
 cases Y with
 |list Z=>obtain⟨R,n,e,q⟩:=h;exact q.sc
 |cell p=>
  cases p with
  |none=>intro i T;cases T
  |some p=>obtain⟨v,e,x,N,q⟩:=h;exact q.sc
 |dict V=>obtain⟨Q,O,P,S⟩:=h;exact S.sc
 |set Z=>exact absurd rfl (U Z)
noncomputable def gr:Nat->List AO->List (Nat×AO)
 |_,[]=>[]
 |k,o::os=>(k,o)::gr (k+1) os
theorem yk(w1_):gr w1_ []=([]):=rfl
theorem wF(k o os):gr k (o::os)=((k,o)::gr (k+1) os):=rfl
theorem nq:∀(os:List AO) (k j:Nat),(gr k os).lookup j=if k<=j then os[j-k]? else none
 |[],k,j=>by simp [yk,wF]
 |o::os,k,j=>by
  dsimp only [yk,wF];rw [cU,nq os (k+1) j]
  by_cases h:j=k
  .subst h;simp
  .have:(j==k)=false:=by simp [h]
   rw [this]
   by_cases X:k<=j
   .have Z:k+1<=j:=by exact(eF h).elim (fun Y=>(IJ X Y:False).elim) (fun Y=>bb 0x8021000400840000421 rfl Y)
    have W:j-k=j-(k+1)+1:=by exact bB (Hv (aA (wj Z)) (aA (qj Z))) (GU (aA (qj Z)) (aA (wj Z)))
    simp only [X,Z,ja,W,HP]
   .have Z:¬k+1<=j:=by exact fun Y=>bb 0x8021000400840000c22 rfl X Y
    simp only [X,Z,ma]
theorem gf(os:List AO)(j:Nat):(gr 0 os).lookup j=os[j]?:=by rw [nq];rfl
noncomputable def jQ(Z:List Nat)(l:List Nat):Bool:=l.all fun i=>Z.contains i
theorem om{Z l:List Nat}(h:jQ Z l=true):∀i∈l,i∈Z:=fun i Y=>by
 have:=dl.mp h i Y;exact rg.mp this
noncomputable def jP(st:List (Nat×AO))(Z:List Nat):List Nat->Option (List AO)
 |[]=>some []
 |i::X=>match st.lookup i,jP st Z X with
  |some Y,some l=>if jQ Z (eK Y)then some (iG (fun i=>Z.idxOf i) Y::l)else none
  |_,_=>none
theorem rJ(st full):jP st full []=(some []):=rfl
theorem qR(st full i is):jP st full (i::is)=(match st.lookup i,jP st full is with
  |some Z,some l=>if jQ full (eK Z)then some (iG (fun i=>full.idxOf i) Z::l)else none
  |_,_=>none):=rfl
set_option tactic.hygienic true in
theorem jp{st:List (Nat×AO)}{Z:List Nat}:∀{Y:List Nat} {os:List AO},jP st Z Y=some os->os.length=Y.length/\∀(j i:Nat),Y[j]?=some i->∃X,st.lookup i=some X/\os[j]?=some (iG (fun i=>Z.idxOf i) X)/\∀i∈eK X,i∈Z
 |[],os,h=>by obtain rfl:=aZ h;exact⟨rfl,fun j i e=>by trivial⟩
 |i::Q,os,h=>by
  dsimp only [rJ,qR]at h
  split at h
  .rename_i X l R S
   split at h
   .rename_i V
    obtain rfl:=aZ h;obtain⟨T,U⟩:=jp S;refine⟨by simp [T],fun j W e=>?_⟩;cases j with
    |zero=>obtain rfl:=aZ e;exact⟨X,R,rfl,om V⟩
    |succ j=>exact U j W (by simpa using e)
   .exact aW h
  .exact aW h
noncomputable def xU(W:Wd)(Z:List Nat):Wd:=⟨W.F,fun k=>W.ρ (Z.getD k 0),Z.length⟩
theorem mX{Z:List Nat}{i:Nat}(h:i∈Z):Z.idxOf i<Z.length/\Z.getD (Z.idxOf i) 0=i:=by
 have Y:=List.idxOf_lt_length_iff.mpr h;refine⟨Y,?_⟩;rw [gv,fC Y];exact List.getElem_idxOf Y
theorem ou(W:Wd)(Z:List Nat):Sv W (xU W Z) (fun i=>Z.idxOf i) Z:=
 ⟨fun _ _ e=>e,fun i Y _=>⟨(mX Y).1,by show W.ρ (Z.getD (Z.idxOf i) 0)=_;rw [(mX Y).2]⟩⟩
theorem JX{Z:List Nat}(W:Z.Nodup){i j:Nat}(X:i<Z.length)(Y:j<Z.length)(e:Z.getD i 0=Z.getD j 0):i=j:=by
 rw [gv,gv,fC X,fC Y]at e
 have V:Z[i]=Z[j]:=e;rcases Nat.lt_trichotomy i j with h|h|h
 .exact absurd V (uT.mp W i j X Y h)
 .exact h
 .exact absurd V.symm (uT.mp W j i Y X h)
section
variable {T:Tp}{X:Cx}{R:Fz}{W:Wd}{σ:AS}{s:Shared}{b:Nat}{A:Around}
theorem gQ.pick{st:List (Nat×AO)}(V:gQ T R W st s){Z:List Nat}(B:Z.Nodup)(U:∀i∈Z,i<W.n){os:List AO}(C:jP st Z Z=some os){M:Fz}
  (v:FH M.h s.heap) (u:∀g x,M.g g=some x->s.gens[g]?=some x) (w:∀i∈Z,M.h (W.ρ i)=none) (D:∀P∈T.tabs,M.h P=none):gQ T M (xU W Z) (gr 0 os) s:=by
 obtain⟨z,y⟩:=jp C;have Y:∀k,k<Z.length->Z.getD k 0∈Z/\Z[k]?=some (Z.getD k 0):=fun k G=>by
  rw [gv,fC G];exact⟨pB G,rfl⟩
 refine⟨V.top,V.hF,v,u,fun j m e=>?_,fun j S=>?_,fun i j Q S e=>?_,fun P F=>?_,V.bare,V.os,fun j S=>?_⟩
 .rw [gf]at e
  have S:j<Z.length:=by
   obtain⟨q,_⟩:=ig.mp e
   exact ci 0x40200420008010840000822 rfl z q
  obtain⟨H,Q⟩:=Y j S;obtain⟨p,N,I,O⟩:=y j _ Q;rw [e]at I;obtain rfl:=aZ I
  obtain⟨E,o,r,t⟩:=V.trk _ _ N;exact⟨S,o,r,t.ren (ou W Z) O⟩
 .obtain⟨H,Q⟩:=Y j S
  obtain⟨N,I,O,E⟩:=V.fre _ (U _ H);exact⟨N,w _ H,O,E⟩
 .exact JX B Q S (V.inj _ _ (U _ (Y i Q).1) (U _ (Y j S).1) e)
 .obtain⟨N,I,O⟩:=V.tabs P F
  exact⟨N,D P F,O⟩
 .exact V.sysm _ (U _ (Y j S).1)
end
noncomputable abbrev bO:=List PV->List AO->Option (PV×List AO×List AO)
inductive Ji(T:Tp)(R:Fz)(W:Wd)(s:Shared)(pv:PV)(os:List AO)(v:Value)(s':Shared):Prop
 |mk(W':Wd)(g:cH W s.heap W' s'.heap)(hv:bk W' pv v)(hr:gQ T R W' (gr 0 os) s')(hn:W'.n=os.length)
noncomputable def aU(T:Tp)(b:Nat)(f:Value)(Q:List Value->Args)(C:bO):Prop:=
 ∀A R W s Y U os V Z S,jb b A->C U os=some (V,Z,S)->Z.length=os.length->aP W U Y->W.n=os.length->gQ T R W (gr 0 os) s->
  codeAny (model T.prog T.w) A (.call f (Q Y)) (fun r X=>match r with|.ok (.ret v)=>Ji T R W s V (Z++S) v X|.ok _=>False|.error e=>bf e X) s
noncomputable def iu:List (Nat×AO)->List Nat->List AO->List (Nat×AO)
 |st,i::Z,o::os=>iu (av st i o) Z os
 |st,_,_=>st
theorem RH(st:List (Nat×AO)):iu st [] []=st:=rfl
theorem DY(st i is o os):iu st (i::is) (o::os)=(iu (av st i o) is os):=rfl
noncomputable def iW:List (Nat×AO)->Nat->List AO->List (Nat×AO)
 |st,_,[]=>st
 |st,n,o::os=>iW ((n,o)::st) (n+1) os
theorem tZ(st w1_):iW st w1_ []=(st):=rfl
theorem tM(st n o os):iW st n (o::os)=(iW ((n,o)::st) (n+1) os):=rfl
noncomputable def nW(Z:List Nat)(n:Nat):Nat->Nat:=fun j=>if j<Z.length then Z.getD j 0 else n+(j-Z.length)
noncomputable def dQ(C:bO)(Z:List Nat)(V:List PV):ER:=fun Y=>
 match jP Y.st Z Z with
 |some os=>if nodupB Z&&jQ Z (bY V)&&Z.all (fun i=>decide (i<Y.nx))then
   (match C (fe (fun i=>Z.idxOf i) V) os with
    |some (p,X,W)=>if X.length=Z.length/\simpleAll X=true/\simpleAll W=true then
      some (iF (nW Z Y.nx) p,{Y with st:=iW (iu Y.st Z (X.map (iG (nW Z Y.nx)))) Y.nx (W.map (iG (nW Z Y.nx))),nx:=Y.nx+W.length})else none
    |none=>none)else none
 |none=>none
where
 nodupB:List Nat->Bool
  |[]=>true
  |i::U=>!U.contains i&&nodupB U
 simpleAll:List AO->Bool
  |[]=>true
  |.list _::os=>simpleAll os
  |.cell _::os=>simpleAll os
  |.dict _::os=>simpleAll os
  |_::_=>false
theorem mH:∀{Z:List Nat},dQ.nodupB Z=true->Z.Nodup
 |[],_=>rX
 |i::X,h=>by
  unfold dQ.nodupB at h
  rw [cR,mW]at h
  refine mO.mpr ⟨fun Y=>?_,mH h.2⟩;rw [rg.mpr Y]at h
  exact absurd h.1 (by decide)
theorem iT:∀(Z:List Nat) (os:List AO) (st:List (Nat×AO)) (i:Nat),Z.Nodup->Z.length=os.length->(iu st Z os).lookup i=if i∈Z then os[Z.idxOf i]? else st.lookup i
 |[],[],st,i,_,_=>by rfl
 |[],_::_,_,_,_,h=>by cases h
 |_::_,[],_,_,_,h=>by cases h
 |j::X,o::os,st,i,Y,V=>by
  rw [mO]at Y
  dsimp only [DY];rw [iT X os _ i Y.2 (by simpa using V),gu]
  by_cases h:i=j
  .subst h
   simp [Y.1]
  .by_cases W:i∈X
   .have U:(j==i)=false:=by simp;exact fun e=>h e.symm
    simp [W,h,List.idxOf_cons,U]
   .simp [W,h]
theorem lX:∀(V:List AO) (st:List (Nat×AO)) (n i:Nat),(∀j,n<=j->st.lookup j=none)->(iW st n V).lookup i=if n<=i then V[i-n]? else st.lookup i
 |[],st,n,i,h=>by
  dsimp only [tZ,tM]
  by_cases Y:n<=i
  .simp [Y,h i Y]
  .simp [Y]
 |o::os,st,n,i,h=>by
  dsimp only [tZ,tM];rw [lX os _ (n+1) i (fun j U=>by
   rw [cU];have:(j==n)=false:=by simp;exact fun Z=>bb 0x20104200840010022 rfl U Z
   rw [this];exact h j (by exact(wj U))),cU]
  by_cases Y:i=n
  .subst Y
   rw [aF (by exact(fun Z=>aH 0x840010021 rfl Z))];simp
  .have:(i==n)=false:=by simp [Y]
   rw [this]
   by_cases W:n<=i
   .have X:n+1<=i:=by exact(eF Y).elim (fun Z=>(IJ W Z:False).elim) (fun Z=>bb 0x8021000400840000421 rfl Z)
    have T:i-n=i-(n+1)+1:=by exact bB (Hv (aA (wj X)) (aA (qj X))) (GU (aA (qj X)) (aA (wj X)))
    simp only [W,X,ja,T,HP]
   .have X:¬n+1<=i:=by exact fun Z=>bb 0x8021000400840000c22 rfl W Z
    simp only [W,X,ma]
section
variable {T:Tp}{X:Cx}{R:Fz}{W:Wd}{σ:AS}{s:Shared}{b:Nat}{A:Around}
noncomputable def fu(s:Shared)(l:List Addr):Fz:=⟨fun a=>if a∈l then none else s.heap.get? a,fun g=>s.gens[g]?⟩
theorem eo{l:List Addr}{a:Addr}{o:Obj}:(fu s l).h a=some o↔a∉l/\s.heap.get? a=some o:=by
 show(if a∈l then none else s.heap.get? a)=some o↔_
 by_cases h:a∈l<;>simp [h]
theorem il{l:List Addr}{a:Addr}(h:a∈l):(fu s l).h a=none:=by
 show(if a∈l then none else s.heap.get? a)=none;rw [aC h]
theorem eY:∀{os:List AO},dQ.simpleAll os=true->∀{j:Nat} {Z:AO},os[j]?=some Z->∀Y,Z≠.set Y
 |[],_,j,Z,e=>by trivial
 |o::os,h,0,Z,e=>by
  obtain rfl:=aZ e;cases o with
  |list Y=>exact fun _=>nofun
  |cell p=>exact fun _=>nofun
  |dict _=>exact fun _=>nofun
  |set _=>exact mU h
 |o::os,h,j+1,Z,e=>by
  cases o with
  |list Y=>exact eY (os:=os) h (by simpa using e)
  |cell p=>exact eY (os:=os) h (by simpa using e)
  |dict p=>exact eY (os:=os) h (by simpa using e)
  |set _=>exact mU h
set_option tactic.hygienic true in
theorem oM{f:Value}{mk:List Value->Args}{C:bO}{Z:List Nat}{ps:List PV}{vs:List Value}{pv:PV}{y6:AS}(hC:aU T b f mk C)(hA:jb b A)(hf:dQ C Z ps σ=some (pv,y6))(Q:cj T X R W σ s)(x4:aP W ps vs):
  wpAny (model T.prog T.w) A (runValue (.call f (mk vs))) (aL T X R W s pv y6) bf s:=by
 unfold dQ at hf
 split at hf
 .rename_i os hp
  split at hf
  .rename_i hc
   simp only [cR]at hc
   obtain⟨⟨w3,w2⟩,w1⟩:=hc;have y4:=mH w3;have y5:=om w2;have z1:∀i∈Z,i<W.n:=fun i I=>by
    have:=dl.mp w1 i I;rw [<-Q.nx];exact gw this
   split at hf
   .rename_i p d y e
    split at hf
    .rename_i hs
     obtain⟨E,x6,x5⟩:=hs;injection hf with hf;injection hf with w0 x9
     subst w0 x9;obtain⟨hl,_⟩:=jp hp;have hB:gQ T (fu s (Z.map W.ρ++T.tabs)) (xU W Z) (gr 0 os) s:=
      Q.r.pick y4 z1 hp (fun a o e=>(eo.mp e).2) (fun g x e=>e) (fun i I=>il (uq _ (ri I))) (fun P hP=>il (va _ hP))
     refine bG (uU <|hC A _ (xU W Z) s vs _ os p d y hA e (by rw [E,hl]) (x4.ren (ou W Z) y5) (by show Z.length=os.length;rw [hl]) hB) (fun v s' hq=>?_) ar;obtain⟨V,g,hv,h0,hn⟩:=hq;have c:V.n=Z.length+y.length:=by rw [hn,df,E]
     have y8:∀k,k<Z.length->Z.getD k 0∈Z:=fun k c=>by
      rw [gv,fC c];exact pB c
     have y1:∀k,k<Z.length->V.ρ k=W.ρ (Z.getD k 0):=fun k c=>g.ρ k c
     let N:Wd:=⟨V.F,fun i=>if i<W.n then W.ρ i else V.ρ (i-W.n+Z.length),W.n+y.length⟩
     have Y:∀i,i<W.n->N.ρ i=W.ρ i:=fun i I=>aC I
     have U:∀i,¬i<W.n->N.ρ i=V.ρ (i-W.n+Z.length):=fun i I=>aF I
     have z8:Sv V N (nW Z σ.nx) (List.range V.n):=⟨fun _ _ e=>e,fun i _ I=>by
      unfold nW
      by_cases h:i<Z.length
      .rw [aC h]
       have D:=z1 _ (y8 i h);exact⟨fj D (pF _ _),(Y _ D).trans (y1 i h).symm⟩
      .rw [aF h,Q.nx]
       refine⟨by show W.n+(i-Z.length)<W.n+y.length;exact FB 0x201402200a010423004040084100060084400804000823 rfl c I (aA (pU h)),?_⟩;rw [U _ (by exact(fun u0=>bb 0x800010421 rfl u0))]
       congr 1;exact bB (nL 0x100300002004801804010822004020800010822 rfl (aA (bb 0x200004000020 rfl)) (aA (pU h))) (nL 0xc0000880004801804010a22004020800010a22 rfl (aA (bb 0x200004000020 rfl)) (aA (pU h)))⟩
     have z6:cH W s.heap N s'.heap:=⟨g.F,g.fr,pF _ _,Y,g.th⟩;have z3:∀a o,a∉Z.map W.ρ->a∉T.tabs->s.heap.get? a=some o->s'.heap.get? a=some o:=fun a o O H e=>
      h0.hR a o (eo.mpr ⟨fun h=>(kQ.mp h).elim O H,e⟩)
     have z:∀a o,a∉Z.map W.ρ->a∉T.tabs->s.heap.get? a=some o->(fu s (Z.map W.ρ++T.tabs)).h a=some o:=fun a o O H e=>
      eo.mpr ⟨fun h=>(kQ.mp h).elim O H,e⟩
     have G:∀a o,W.F a=none->s.heap.get? a=some o->V.F a=none:=fun a o O H=>by
      cases q:V.F a with
      |none=>rfl
      |some o'=>
       rcases g.fr a o' q with q'|q'
       .have:W.F a=some o':=q'
        rw [O]at this;exact aW this
       .rw [H]at q';cases q'
     have z2:∀i,i<W.n->i∉Z->W.ρ i∉Z.map W.ρ:=fun i I x7 D=>by
      obtain⟨j,B,e⟩:=iq.mp D;exact x7 (Q.r.inj j i (z1 j B) I e▸B)
     have x3:∀a o,R.h a=some o->a∉Z.map W.ρ:=fun a o e D=>by
      obtain⟨j,B,e'⟩:=iq.mp D;have:=(Q.r.fre j (z1 j B)).2.1;rw [e',e]at this
      cases this
     have x2:∀a o,R.h a=some o->a∉T.tabs:=fun a o e hP=>by
      have:=(Q.r.tabs a hP).2.1;rw [e]at this
      cases this
     have z7:∀a o,R.h a=some o->a∉Z.map W.ρ/\a∉T.tabs:=fun a o e=>⟨x3 a o e,x2 a o e⟩
     have y0:X.env.locals∉Z.map W.ρ:=fun D=>by
      obtain⟨j,B,e'⟩:=iq.mp D;exact Q.l.ρ j (z1 j B) e'
     refine⟨N,z6,hv.ren z8 (fun i I=>IR.mpr (hv.sc i I)),⟨⟨h0.top,h0.hF,fun a o e=>z3 a o (z7 a o e).1 (z7 a o e).2 (Q.r.hR a o e),fun g' x e=>h0.hG g' x (Q.r.hG g' x e),fun i ao e=>?_,fun i I=>?_,fun i j I B e=>?_,fun P hP=>?_,h0.bare,h0.os,fun i I=>?_⟩,?_,?_⟩⟩
     .have y3:∀j,σ.nx<=j->(iu σ.st Z (d.map (iG (nW Z σ.nx)))).lookup j=none:=fun j B=>by
       rw [iT _ _ _ _ y4 (by simp [E]),aF (fun D=>by have:=z1 j D;rw [<-Q.nx]at this;exact IJ B this)];cases q:σ.st.lookup j with
       |none=>rfl
       |some ao=>have:=(Q.r.trk j ao q).1;rw [<-Q.nx]at this;exact(IJ B this:False).elim
      rw [show({σ with st:=iW (iu σ.st Z (d.map (iG (nW Z σ.nx)))) σ.nx (y.map (iG (nW Z σ.nx))),nx:=σ.nx+y.length}:AS).st=iW (iu σ.st Z (d.map (iG (nW Z σ.nx)))) σ.nx (y.map (iG (nW Z σ.nx)))from rfl]at e
      rw [lX _ _ _ _ y3]at e
      have z9:∀(j:Nat) (S:AO),(d++y)[j]?=some S->ao=iG (nW Z σ.nx) S->N.ρ i=V.ρ j->i<N.n->i<N.n/\∃o,s'.heap.get? (N.ρ i)=some o/\nM T.w N ao o:=fun j S B w4 y9 y5=>by
       obtain⟨h4,o,h5,h6⟩:=h0.trk j S (by rw [gf];exact B);have z4:∀ps,S≠.set ps:=by
        by_cases x1:j<d.length
        .rw [tm x1]at B;exact eY x6 B
        .rw [Bd (Ju x1)]at B;exact eY x5 B
       refine⟨y5,o,by rw [y9];exact h5,?_⟩;rw [w4];exact h6.ren z8 fun x hx=>IR.mpr (h6.sc z4 x hx)
      by_cases I:σ.nx<=i
      .rw [aC I,jS]at e
       obtain⟨S,e1,e2⟩:=kN.mp e;have x8:i-σ.nx<y.length:=(ig.mp e1).1;refine z9 (Z.length+(i-σ.nx)) S ?_ e2.symm ?_ ?_
       .rw [Bd (by exact(ci 0x10020100000840000821 rfl E))]
        rw [show Z.length+(i-σ.nx)-d.length=i-σ.nx from by exact bB (gP 0x30080008c0100800100420840000a22 rfl E (aA (ci 0x10020100000840000821 rfl E))) (gP 0x200c0008c0100800100428840000822 rfl E (aA (ci 0x10020100000840000821 rfl E)))];exact e1
       .rw [U i (by rw [<-Q.nx];exact fun u0=>IJ I u0),<-Q.nx];congr 1;exact bB (bb 0x4020800010020 rfl) (bb 0x4020800010020 rfl)
       .show i<W.n+y.length;rw [<-Q.nx];exact gP 0x1008021802118040000428840000422 rfl x8 (aA (dY I))
      .rw [aF I,iT _ _ _ _ y4 (by simp [E])]at e
       have M:i<W.n:=by rw [<-Q.nx];exact bb 0x4010840000c21 rfl I
       by_cases D:i∈Z
       .rw [aC D,jS]at e
        obtain⟨S,e1,e2⟩:=kN.mp e;obtain⟨z0,y2⟩:=mX D;refine z9 (Z.idxOf i) S ?_ e2.symm ?_ (fj M (pF _ _))
        .rw [tm (by exact(ci 0x200421008010840000a22 rfl E z0))];exact e1
        .rw [Y i M,y1 _ z0,y2]
       .rw [aF D]at e
        obtain⟨h4,o,h5,h6⟩:=Q.r.trk i ao e;refine⟨fj h4 (pF _ _),o,?_,h6.mono z6.ext⟩;rw [Y i M];exact z3 _ o (z2 i M D) (Q.r.fre i M).2.2.1 h5
     .by_cases M:i<W.n
      .rw [Y i M]
       obtain⟨O,H,h3,o,h4⟩:=Q.r.fre i M;exact⟨G _ o O h4,H,h3,g.th _ o h4⟩
      .rw [U i M]
       have u:i<W.n+y.length:=I;obtain⟨O,H,h3,h4⟩:=h0.fre (i-W.n+Z.length) (by exact(AV c u (aA (pU M))));refine⟨O,?_,h3,h4⟩;cases q:R.h (V.ρ (i-W.n+Z.length))with
       |none=>rfl
       |some o=>
        have:=z _ o (z7 _ o q).1 (z7 _ o q).2 (Q.r.hR _ o q);rw [H]at this;exact aW this
     .have y7:∀i j,i<W.n->¬j<W.n->j<W.n+y.length->W.ρ i≠V.ρ (j-W.n+Z.length):=fun i j I B z5 e=>by
       by_cases D:i∈Z
       .obtain⟨z0,y2⟩:=mX D
        have e':V.ρ (Z.idxOf i)=V.ρ (j-W.n+Z.length):=by rw [y1 _ z0,y2];exact e
        have:=h0.inj _ _ (by exact(gP 0x1802108060084400804000a22 rfl c z0)) (by exact(AV c z5 (aA (pU B)))) e';exact ci 0x8040100028840000422 rfl z0 this
       .obtain⟨_,_,h3,o,h4⟩:=Q.r.fre i I
        have h5:=z _ o (z2 i I D) h3 h4;have h6:=(h0.fre (j-W.n+Z.length) (by exact(AV c z5 (aA (pU B))))).2.1;rw [<-e,h5]at h6;cases h6
      have u:i<W.n+y.length:=I;have z5:j<W.n+y.length:=B
      by_cases O:i<W.n<;>by_cases H:j<W.n
      .rw [Y i O,Y j H]at e;exact Q.r.inj i j O H e
      .rw [Y i O,U j H]at e;exact absurd e (y7 i j O H z5)
      .rw [U i O,Y j H]at e;exact absurd e.symm (y7 j i H O u)
      .rw [U i O,U j H]at e
       have:=h0.inj _ _ (by exact(AV c u (aA (pU O)))) (by exact(AV c z5 (aA (pU H)))) e;exact bB (FB 0x5010000940300802104801800010a21008020800010823 rfl this (aA (pU O)) (aA (pU H))) (FB 0x4014000940300802144801800010821008020800010a23 rfl this (aA (pU O)) (aA (pU H)))
     .obtain⟨O,H,h3⟩:=h0.tabs P hP
      exact⟨O,(Q.r.tabs P hP).2.1,h3⟩
     .have u:i<W.n+y.length:=I
      by_cases O:i<W.n
      .rw [Y i O];exact Q.r.sysm i O
      .rw [U i O];exact h0.sysm _ (by exact(AV c u (aA (pU O))))
     .obtain⟨m,D,x0⟩:=Q.l.m
      obtain⟨oL,eL,w6,hL,w5⟩:=id D;refine⟨⟨m,D.at' fun o e=>z3 _ o y0 Q.l.t e,fun i x p O H=>let⟨v,h3,h4⟩:=x0 i x p O H;⟨v,h3,h4.mono z6.ext⟩⟩,G _ oL Q.l.nF hL,Q.l.nR,Q.l.t,fun i I=>?_,fun j x i h=>?_⟩
      .by_cases M:i<W.n
       .rw [Y i M];exact Q.l.ρ i M
       .rw [U i M]
        have u:i<W.n+y.length:=I;intro e;have h5:=z _ oL y0 Q.l.t hL;have h6:=(h0.fre (i-W.n+Z.length) (by exact(AV c u (aA (pU M))))).2.1;rw [e,h5]at h6;cases h6
      .obtain⟨O,H⟩:=Q.l.cv j x i h
       exact⟨fj O (pF _ _),by rw [Y i O];exact H⟩
     .show σ.nx+y.length=W.n+y.length
      rw [Q.nx]
    .exact aW hf
   .exact aW hf
  .exact aW hf
 .exact aW hf
end
theorem mB{Y:Type}:∀{l:List (Str×Y)} {x:Str} {v:Y},(l.map (·.1)).Nodup->(x,v)∈l->l.lookup x=some v
 |[],x,v,_,h=>by cases h
 |(y,u)::l,x,v,Z,h=>by
  rw [cP,mO]at Z
  rw [cU];rcases cN.mp h with e|X
  .cases e;simp
  .have W:x∈l.map (·.1):=iq.mpr ⟨(x,v),X,rfl⟩
   have:x≠y:=fun e=>Z.1 (e▸W)
   have:(x==y)=false:=by simp [this]
   rw [this];exact mB Z.2 X
theorem rc{X:Type}:∀{Z:List Str} {Y:List X},Z.length=Y.length->((Z.zip Y).map (·.1))=Z
 |[],[],_=>rfl
 |[],_::_,h=>by cases h
 |_::_,[],h=>by cases h
 |x::Z,v::Y,h=>by
  show x::((Z.zip Y).map (·.1))=_;rw [rc (by simpa using h)]
theorem kI:∀(n i:Nat),fB (List.replicate n none) i=none
 |0,_=>rfl
 |n+1,0=>rfl
 |n+1,i+1=>kI n i
noncomputable def jm:List Nat->List Nat
 |[]=>[]
 |i::Z=>if Z.contains i then jm Z else i::jm Z
noncomputable def fb(k:Nat)(p:PV)(Y:AS):Option (PV×List AO×List AO):=
 let Z:=List.range k++jm ((fQ p).filter fun i=>decide (k<=i))
 match jP Y.st Z Z with
 |some l=>if dQ.nodupB Z&&jQ Z (fQ p)then some (iF (fun i=>Z.idxOf i) p,l.take k,l.drop k)else none
 |none=>none
noncomputable def ie(k:Nat):Option (AF×AS)->Option (PV×List AO×List AO)
 |some (.ret p,Z)=>fb k p Z
 |some (.next,Z)=>fb k .none Z
 |_=>none
noncomputable def pa(qual:Str)(scope:Scope)(Z L:Addr)(Y:Value)(cells:List (Str×Addr)):Env:=
 {scope,locals:=L,globals:=mainGlobals,cells,qual:=qual++".<locals>.",func:=some Z,code:=Y,frame:=some L,builtins:=builtinsNs}
section
variable {T:Tp}{R:Fz}{W:Wd}{s:Shared}{b:Nat}{A:Around}
theorem jb.deeper(h:jb (b+1) A)(Z:Env):jb b (A.deeper Z):=
 ⟨by have:=h.dep;show A.depth+1+b<_;exact ci 0x2004010800210422004210080010421 rfl this,by have:=h.uni;show A.units+3+8*b+100<_;exact ci 0x200c840810318400108410880321021080481800210421 rfl this,h.hnd⟩
theorem jb.le{Y:Nat}(h:jb b A)(Z:Y<=b):jb Y A:=⟨by have:=h.dep;exact gP 0x3000020082118020100410840000022 rfl Z this,by have:=h.uni;exact gP 0x300c840010310042084601908102062008410840000102 rfl Z this,h.hnd⟩
theorem EZ{k:Nat}{r:Option (AF×AS)}{out:PV×List AO×List AO}(h:ie k r=some out):∃a p Z,r=some (a,Z)/\((a=.ret p)\/(a=.next/\p=.none))/\fb k p Z=some out:=by
 cases r with
 |none=>exact aW h
 |some y=>
  obtain⟨a,Z⟩:=y;cases a with
  |ret p=>exact⟨_,_,_,rfl,.inl rfl,h⟩
  |next=>exact⟨_,_,_,rfl,.inr ⟨rfl,rfl⟩,h⟩
  |_=>exact aW h
set_option tactic.hygienic true in
theorem pA{X:Cx}{Z:Wd}{U:Shared}{N:AS}{G:Shared}{k:Nat}{p y:PV}{v:Value}{M x:List AO}(V:fb k p N=some (y,M,x))(D:Z.n=k)(H:cH Z U.heap W G.heap)(u:bk W p v)(O:cj T X R W N G):
  Ji T R Z U y (M++x) v G:=by
 unfold fb at V
 generalize S:List.range k++jm ((fQ p).filter fun i=>decide (k<=i))=Y at V
 simp only at V
 split at V
 .rename_i l w
  split at V
  .rename_i B
   rw [cR]at B
   injection V with V;injection V with h z;injection z with z m
   subst h z m;have E:=mH B.1;obtain⟨t,C⟩:=jp w;have I:∀i∈Y,i<W.n:=fun i Q=>by
    obtain⟨j,q⟩:=qQ Q
    obtain⟨g,e,_⟩:=C j i q;exact(O.r.trk i g e).1
   refine⟨xU W Y,⟨H.F,H.fr,?_,fun i Q=>?_,H.th⟩,u.ren (ou W Y) (om B.2),?_,?_⟩
   .show Z.n<=Y.length
    rw [D,<-S,df,HK];exact bb 0x200004000020 rfl
   .show W.ρ (Y.getD i 0)=Z.ρ i
    have:Y.getD i 0=i:=by
     rw [<-S,gv,tm (by rw [HK];exact ci 0x40200420008010840000822 rfl D Q),List.getElem?_range (by exact(ci 0x40200420008010840000822 rfl D Q))];rfl
    rw [this];exact H.ρ i Q
   .rw [JV]
    exact O.r.pick E I w O.r.hR O.r.hG (fun i Q=>(O.r.fre i (I i Q)).2.1) (fun P o=>(O.r.tabs P o).2.1)
   .rw [JV];exact t.symm
  .exact aW V
 .exact aW V
theorem aU.mono{f:Value}{U:List Value->Args}{C Q:bO}(h:aU T b f U C)(I:∀Y os r,Q Y os=some r->C Y os=some r){S:Nat}(H:b<=S):aU T S f U Q:=by
 intro A R W s P Y os O X N F G Z V M E;exact h A R W s P Y os O X N (F.le H) (I _ _ _ G) Z V M E
end
section
variable {T:Tp}{X:Cx}{R:Fz}{W:Wd}{σ:AS}{s:Shared}{b:Nat}{A:Around}
noncomputable def kr(V Y Z:ER)(g h:PV->PV->ER):ER:=fS V fun p=>fS Y fun q=>fS (g p q) fun c σ=>(jC σ.st c).bind fun t=>cond t (fS Z (h q) σ) (some (c,σ))
theorem fW.chain{l S U:Expr}{V Y:CmpOp}{H:Pos}{k m D:ER}{g h:PV->PV->ER}(z3:aN T b X l k)(z2:aN T b X S m)(z1:aN T b X U D)(hg:bH T b (compareOp V) g)(hh:bH T b (compareOp Y) h)
  (hm:∀x y:Sem Value,markedEach [V,Y] [S,U] [x,y]=[x,y]:=by intro _ _;rfl):fW T b X (.Compare l [V,Y] [S,U] H) (aq (kr k m D g h)):=by
 refine⟨?_⟩;intro A R W σ s c z9 hA hf hr;obtain⟨pv,Z,C⟩:=kL hf;show wpAny _ _ (do testChain H (<-eval l X.env) [V,Y] (markedEach [V,Y] [S,U] [eval S X.env,eval U X.env])) _ _ _;rw [hm];obtain⟨p,I,ea,Z⟩:=aS Z;obtain⟨q,M,eb,Z⟩:=aS Z;obtain⟨z5,Q,ec,Z⟩:=aS Z;refine dh Z fun tt et Z=>?_
 refine aR (aI (z3.1 A R W σ s p I hA ea hr) fun z8 u z0 n hu e=>?_);show wpAny _ _ (do
  let t <-holding [u] (eval S X.env)
  standAt H
  let c <-holding [u,t] (compareOp V u t)
  release [u,t] [c]
  if <-holding [c,t] (truthy c)then testChain H t [Y] [eval U X.env]else pure false) _ _ _
 refine aR (gI (aI (z2.1 A R z8 I z0 q M hA eb e) fun z7 v a E hv f=>?_));refine aR (iM (aR (gI (aI (hg X A R z7 M a p q u v z5 Q hA ec f (hu.mono E.ext) hv) fun y3 w y1 F hw G=>?_))));refine aR (wpAny_release ?_);cases tt with
 |true=>
  obtain⟨r,N,ed,Z⟩:=aS (show fS D (h q) Q=_ from Z);refine aR (gI (fx (gq et G hw) fun B z O P=>?_));simp only [ja];show wpAny _ _ (do
   let t <-holding [v] (eval U X.env)
   standAt H
   let c <-operate [v,t] (compareOp Y v t)
   holding [c] (truthy c)) _ _ _
  refine aR (gI (aI (z1.1 A R B Q z r N hA ed P) fun z6 x d o hx i=>?_));refine aR (iM (aR ?_));unfold operate;refine aR (gI (aI (hh X A R z6 N d q r v x pv z9 hA Z i (hv.mono ((F.trans O).trans o).ext) hx) fun y2 y y0 z4 hy j=>?_));refine aR (wpAny_release (bo (gI ?_)));exact bG (gq C j hy) (fun _ _ h'=>h'.from (((((n.trans E).trans F).trans O).trans o).trans z4)) ar
 |false=>
  cases Z;refine aR (gI (fx (gq et G hw) fun B z O P=>?_));simp only [vv,ma];rw [et]at C;cases C
  exact bo ⟨rfl,B,((n.trans E).trans F).trans O,P⟩
theorem cV{M:Model}{E:Value->Shared->Prop}{f:Value}{Z:List (Bool×Sem Value)}{Q:Args->Shared->Prop}(S:Z.any (·.1)=false)
  (h:wpAny M A (spliced Z) (fun V U=>Q ⟨V,[]⟩ U) E s):wpAny M A (evalArgs f true Z []) Q E s:=by
 have Y:wpAny M A (do
   let(pos,late) <-(do pure (<-spliced Z,(none:Option Value)):Sem (List Value×Option Value))
   holding (pos++late.toList) (pure ⟨pos,[]⟩:Sem Args)) Q E s:=by
  refine aR (aR (bG h (fun V U P=>bo (gI (bo P))) fun _ _ x=>x))
 cases Z with
 |nil=>exact Y
 |cons t N=>
  obtain⟨O,x⟩:=t;cases O with
  |false=>exact uX h
  |true=>trivial
theorem cD{pos:Pos}{Z:List (Bool×Sem Value)}(h:Z.any (·.1)=false):(backTo pos Z).any (·.1)=false:=by
 unfold backTo;rw [Bb];exact h
noncomputable def fZ(st:List (Nat×AO)):Nat->List Nat->List Nat
 |0,l=>jm l
 |n+1,l=>fZ st n (l++(jm l).flatMap fun i=>match st.lookup i with|some Z=>eK Z|none=>[])
theorem Kh(st l):fZ st 0 l=(jm l):=rfl
theorem IV(st n l):fZ st (n+1) l=(fZ st n (l++(jm l).flatMap fun i=>match st.lookup i with|some Z=>eK Z|none=>[])):=rfl
noncomputable def bc(C:bO)(V:LR):ER:=fun σ=>match V σ with
 |some (Y,Z)=>dQ C (fZ Z.st 2 (bY Y)) Y Z
 |none=>none
set_option tactic.hygienic true in
theorem aN.call{f:Expr}{N:List Expr}{Y:Pos}{G:Addr}{fo:Obj}{fd:FuncData}{C:bO}{x:LR}(m:aN T b X f (ab (.val (.ref G))))(D:gD T b X N x)(j:aU T b (.ref G) (fun I=>⟨I,[]⟩) C)
  (k:T.K.lookup G=some fo) (l:fo.data=.func fd) (E:∀V,(starEach N V).any (·.1)=false:=by intro _;rfl)
  (B:∀V,eval (.Call f N [] Y) V=(do callWith Y (<-eval f V) [] (backTo Y (starEach N V)) []):=by intro _;rfl):aN T b X (.Call f N [] Y) (bc C x):=by
 refine⟨?_⟩;intro A R W σ s i v z H p;unfold bc at H
 split at H
 .rename_i t U e
  rw [B];refine aR (aI (m.1 A R W σ s _ σ z rfl p) fun M u Q O q S=>?_);rw [show u=.ref G from q];refine vr (o:=fo) (fd:=fd) (cV (cD (E _)) (bG (D.1 A R M σ Q t U Y z e S) (fun I y n=>?_) ar));obtain⟨w,P,F,Z⟩:=n;refine⟨⟨Z.r.hF _ _ (Z.r.top.kin _ _ k),l⟩,?_⟩;exact dB (O.trans P) (oM (mk:=fun I=>⟨I,[]⟩) j z H Z F)
 .exact aW H
end
noncomputable def gB(T:Tp)(b:Nat)(Q:Value)(g:GR):Prop:=
 ∀X A R W Y s S V U Z,jb b A->g S Y=some (U,Z)->cj T X R W Y s->aP W S V->wpAny (model T.prog T.w) A (call Q V) (aL T X R W s U Z) bf s
noncomputable def aB(g:GR)(Z:LR):ER:=fS Z g
theorem kj{g:GR}{W:LR}{Y:AS}{r:PV×AS}(h:aB g W Y=some r):∃X Z,W Y=some (X,Z)/\g X Z=some r:=aS h
theorem UX{W:Wd}{p:PV}{Y:List Value}(h:aP W [p] Y):∃v,Y=[v]/\bk W p v:=by
 obtain⟨v,Z,rfl,V,X⟩:=h;exact⟨v,by rw [show Z=[]from X],V⟩
theorem VR{W:Wd}{p q:PV}{Z:List Value}(h:aP W [p,q] Z):∃u v,Z=[u,v]/\bk W p u/\bk W q v:=by
 obtain⟨u,Y,rfl,U,V⟩:=h;obtain⟨v,rfl,X⟩:=UX V;exact⟨u,v,rfl,U,X⟩
section
variable {T:Tp}{X:Cx}{R:Fz}{W:Wd}{σ:AS}{s:Shared}{b:Nat}{A:Around}
theorem aN.bcall{f:Expr}{I:List Expr}{Y:Pos}{id:String}{g:GR}{x:LR}(o:aN T b X f (ab (.val (.builtin id))))(D:gD T b X I x)(p:gB T b (.builtin id) g)
  (O:∀V,(starEach I V).any (·.1)=false:=by intro _;rfl)
  (B:∀V,eval (.Call f I [] Y) V=(do callWith Y (<-eval f V) [] (backTo Y (starEach I V)) []):=by intro _;rfl):aN T b X (.Call f I [] Y) (aB g x):=by
 refine⟨?_⟩;intro A R W σ s v F z C r;obtain⟨y,Z,e,C⟩:=kj C;rw [B];refine aR (aI (o.1 A R W σ s _ σ z rfl r) fun G u P M t S=>?_);rw [show u=.builtin id from t];refine oK (cD (O _)) (cV (cD (O _)) (bG (D.1 A R G σ P y Z Y z e S) (fun w Q q=>?_) ar));obtain⟨H,N,E,U⟩:=q;exact dB (M.trans N) (p X A R H Z Q y w v F z C U E)
theorem aN.tcall{f:Expr}{I:List Expr}{Y:Pos}{id:String}{g:GR}{x:LR}(o:aN T b X f (ab (.val (.type id))))(D:gD T b X I x)(p:gB T b (.type id) g)
  (O:∀V,(starEach I V).any (·.1)=false:=by intro _;rfl)
  (B:∀V,eval (.Call f I [] Y) V=(do callWith Y (<-eval f V) [] (backTo Y (starEach I V)) []):=by intro _;rfl):aN T b X (.Call f I [] Y) (aB g x):=by
 refine⟨?_⟩;intro A R W σ s v F z C r;obtain⟨y,Z,e,C⟩:=kj C;rw [B];refine aR (aI (o.1 A R W σ s _ σ z rfl r) fun G u P M t S=>?_);rw [show u=.type id from t];refine Bh (cD (O _)) (cV (cD (O _)) (bG (D.1 A R G σ P y Z Y z e S) (fun w Q q=>?_) ar));obtain⟨H,N,E,U⟩:=q;exact dB (M.trans N) (p X A R H Z Q y w v F z C U E)
noncomputable def Ld(Z:String):Option AO->Bool
 |some (.list _)=>decide (Z="list")
 |some (.dict _)=>decide (Z="dict")
 |some (.set _)=>decide (Z="set")
 |_=>false
noncomputable def Et(st:List (Nat×AO))(Z:String):PV->Bool
 |.str _=>decide (Z="str")
 |.int _=>decide (Z="int")
 |.loc i=>Ld Z (st.lookup i)
 |_=>false
theorem Nh{Z:String}{p:PV}{u:Value}(h:Et σ.st Z p=true)(H:cj T X R W σ s)(Q:bk W p u):s.TypeIs u Z/\∀a,u=.ref a->∃Y,s.heap.get? a=some Y/\Y.dict=none:=by
 cases p with
 |str x=>cases gw h;obtain⟨t,rfl⟩:=Q;exact⟨ib _ _ _,fun a e=>nomatch e⟩
 |int x=>cases gw h;obtain⟨t,rfl⟩:=Q;exact⟨zp _ _ _,fun a e=>nomatch e⟩
 |loc i=>
  obtain⟨D,rfl⟩:=Q;have h:Ld Z (σ.st.lookup i)=true:=h;cases e:σ.st.lookup i with
  |none=>rw [e]at h;exact mU h
  |some G=>
   rw [e]at h
   obtain⟨_,o,U,V⟩:=H.r.trk i _ e;have go {Z} (I:s.TypeIs (.ref (W.ρ i)) Z) (S:o.dict=none):s.TypeIs (.ref (W.ρ i)) Z/\∀a,Value.ref (W.ρ i)=.ref a->∃Y,s.heap.get? a=some Y/\Y.dict=none:=⟨I,fun a e=>⟨o,Value.ref.inj e▸U,S⟩⟩;cases G with
   |list O=>cases gw h;obtain⟨F,n,rfl,_⟩:=V;exact go ⟨_,U,rfl⟩ rfl
   |cell _=>exact mU h
   |dict N=>
    cases gw h;obtain⟨M,V,_⟩:=V;have S:s.heap.DictOf (PySem.strKind T.prog T.w) (W.ρ i) M:=og.mpr ⟨o,U,V _⟩;exact⟨S.typeIs,S.mapOf.noDict⟩
   |set O=>cases gw h;obtain⟨E,_,P⟩:=V;exact go ⟨_,U,(P T.prog).1.1⟩ (P T.prog).1.2.1
 |_=>exact mU h
noncomputable def aK(V:String)(f:ER)(Y:LR)(g:GR):ER:=cY f fun p σ=>if Et σ.st V p=true then aB (fun Z=>g (p::Z)) Y σ else none
theorem aN.meth{o:Expr}{S:Str}{N U:Pos}{w:List Expr}{r id:String}{f:ER}{d:LR}{g:GR}(P:PlainAttrs r)(M:Slot r S id)(m:typeOf (.builtin id)=pure (.type "method_descriptor"))
  (hf:aN T b X o f) (l:gD T b X w d) (hg:gB T b (.builtin id) g) (F:∀Z,attributeBase o S Z (eval o Z)=eval o Z:=by intro _;rfl)
  (H:∀Z,(((backTo U (starEach w Z)).all fun x=>!x.1)&&((backToKw U (keywordEach [] Z)).all fun x=>x.1.isSome)&&decide ((w.length+([]:List Keyword).length+if([]:List Keyword).isEmpty=true then 0 else 1)<30))=true:=by intro _;rfl)
  (B:∀Z,(starEach w Z).any (·.1)=false:=by intro _;rfl)
  (C:(N.endLine==U.line)=true:=by rfl):aN T b X (.Call (.Attribute o S N) w [] U) (aK r f d g):=by
 refine⟨?_⟩;intro A R W σ s c q k G a;obtain⟨p,V,e,G⟩:=lx G;refine gU G fun hp G=>?_
 obtain⟨i,Y,y,G⟩:=kj G;refine sq (F _) (H _) C rfl (aI (hf.1 A R W σ s p V k e a) fun t u D z h Q=>?_);obtain⟨h1,h2⟩:=Nh hp Q h;refine⟨r,id,P,M,m,h1,h2,?_⟩;refine oK (cD (B _)) (cV (cD (B _)) (bG (l.1 A R t V D i Y U k y Q) (fun j E hq=>?_) ar));obtain⟨v,O,n,I⟩:=hq;exact dB (z.trans O) (hg X A R v Y E (p::i) (u::j) c q k G I ⟨u,j,rfl,h.mono O.ext,n⟩)
end
section
variable {T:Tp}{X:Cx}{R:Fz}{W:Wd}{σ:AS}{s:Shared}{b:Nat}{A:Around}
theorem dG(U:cj T X R W σ s){i:Nat}{V:List PV}(e:σ.st.lookup i=some (.list V)):∃Z n,s.heap.get? (W.ρ i)=some {cls:=.type "list",data:=.seq Z n}/\aP W V Z.toList/\Z.size=V.length:=by
 obtain⟨_,o,S,Z,n,rfl,Y⟩:=U.r.trk i _ e;have h:=Y.length;simp only [Array.length_toList]at h
 exact⟨Z,n,S,Y,h.symm⟩
noncomputable def yy:Option AO->Option Nat
 |some (.list Z)=>some Z.length
 |_=>none
noncomputable def Gz(st:List (Nat×AO)):PV->Option Nat
 |.str x=>some x.length
 |.tup Z=>some Z.length
 |.fl Y=>some Y.length
 |.loc i=>yy (st.lookup i)
 |_=>none
noncomputable def cX:GR:=g1 fun p σ=>(Gz σ.st p).bind fun n=>if n<=2^30 then some (.int n,σ)else none
theorem iL:gB T b (.builtin "len") cX:=by
 intro X A R W σ s N S B H w Y V M;refine Fw Y M fun p u Y P=>dh Y fun n e Y=>gU Y fun U Y=>?_
 refine bx Y ?_
 have U:((n:Nat):Int)<9223372036854775808:=by exact aH 0x80000000000000003a4004a42100000000c000021 rfl U
 cases p with
 |str x=>cases e;obtain⟨t,rfl⟩:=P;exact SBL.len U (aL.same V (eh _ _))
 |tup N=>
  cases e;obtain⟨a,S,n,rfl,Y,I⟩:=P;have Q:N.length=S.size:=I.length;rw [Q]at U ⊢
  exact PyProof.Rows.len_tuple (t:=a) (items:=S) ⟨_,V.r.hF _ _ Y,rfl,n,rfl⟩ U (aL.same V (eh _ _))
 |fl z=>
  cases e;obtain⟨a,o,n,O,rfl,D,E,F,rfl⟩:=P;have Q:(O.map fun x=>Value.int x.1 x.2).toArray.size=(O.map (·.1)).length:=by rw [uO,cW,cW]
  rw [<-Q]at U ⊢
  exact FO (l:=a) (items:=(O.map fun x=>Value.int x.1 x.2).toArray) ⟨_,V.r.hF _ _ D,E,n,F⟩ (by omega) (aL.same V (eh _ _))
 |loc i=>
  obtain⟨y,rfl⟩:=P;have e:yy (σ.st.lookup i)=some n:=e;cases Z:σ.st.lookup i with
  |none=>rw [Z]at e;exact aW e
  |some C=>cases C with
   |list N=>
    rw [Z]at e
    cases e;obtain⟨S,n,G,I,Q⟩:=dG V Z;rw [<-Q]at U ⊢
    exact FO (l:=W.ρ i) (items:=S) ⟨_,G,rfl,n,rfl⟩ (by omega) (aL.same V (eh _ _))
   |_=>rw [Z]at e;exact aW e
 |_=>exact aW e
noncomputable def FS:GR:=g1 (oq fun a σ=>if a.natAbs<2^1000 then some (.str (Str.ofString (toString a)),σ)else none)
theorem Tb:gB T b (.type "str") FS:=by
 intro X A R W σ s M O N U I Z Q Y;refine Fw Z Y fun p u Z S=>eV Z S fun a t Z=>gU Z fun h Z=>bx Z ?_
 refine P.str_of_int ?_ (aL.same Q (nA _ _))
 by_cases V:a.natAbs=0
 .rw [V];decide
 .exact Nat.lt_trans ((Bk V).mpr h) (by decide)
noncomputable def Rz:GR:=g1 (vY fun x σ=>(PySem.intText? x).bind fun n=>if x.length<=640 then some (.int n,σ)else none)
theorem Uy:gB T b (.type "int") Rz:=by
 intro X A R W σ s O Q P V N Z S Y;refine Fw Z Y fun p u Z U=>jY Z U fun x t Z=>dh Z fun n e Z=>gU Z fun h Z=>bx Z ?_
 exact KIN.call_text e h (aL.same S (eh _ _))
noncomputable def vh:GR:=g2 fun p q=>oq (fun a=>oq (fun b σ=>if b≠0/\rS b=true then some (.tup [.int (Int.fdiv a b),.int (Int.fmod a b)],σ)else none) q) p
theorem Jg:gB T b (.builtin "divmod") vh:=by
 intro X A R W σ s M P N V I Z Q Y;refine KD Z Y fun p q u v Z S U=>eV Z S fun x t Z=>eV Z U fun y O Z=>gU Z fun h Z=>bx Z ?_
 refine PyProof.Rows.divmod_int h.1 ?_ (.inl (px h.2))
 have h:=Q.newF (o:={cls:=.type "tuple",data:=.seq #[Value.int (Int.fdiv x y) s.toks,Value.int (Int.fmod x y) (s.toks+1)]}) rfl (s.toks+1+1);exact⟨_,h.1,⟨_,_,0,rfl,h.2.1,⟨_,_,rfl,eh _ _,_,_,rfl,eh _ _,rfl⟩⟩,h.2.2⟩
noncomputable def gT:GR:=g1 (oq fun a σ=>some (.int (Builtin.Int.intBits a),σ))
theorem rt:gB T b (.builtin "int.bit_length") gT:=by
 intro X A R W σ s O Q P V N Z S Y;exact Fw Z Y fun p u Z U=>eV Z U fun x t Z=>bx Z (PyProof.Rows.call_int_bit_length (aL.same S (eh _ _)))
theorem cj.keep(U:cj T X R W σ s){h':Heap}(Y:∀c o,s.heap.get? c=some o->h'.get? c=some o)(k:Nat){Z:PV}{v:Value}(V:bk W Z v):aL T X R W s Z σ v {s with heap:=h',toks:=k}:=
 ⟨W,cH.keep Y,V,U.ext Y rfl rfl⟩
noncomputable def DO:GR:=g2 fun p q=>oq (fun a=>oq (fun b σ=>some (.int (if b>a then b else a),σ)) q) p
noncomputable def QA:GR:=g2 fun p q=>oq (fun a=>oq (fun b σ=>some (.int (if b<a then b else a),σ)) q) p
theorem OR{W:Wd}{c:Prop}[Decidable c]{x y:Int}{t Z:Tok}:bk W (.int (if c then x else y)) (if c then .int x t else .int y Z):=by
 by_cases h:c
 .rw [aC h,aC h];exact eh _ _
 .rw [aF h,aF h];exact eh _ _
theorem OU:gB T b (.builtin "max") DO:=by
 intro X A R W σ s G M H V N Z P Y;exact KD Z Y fun p q u v Z Q S=>eV Z Q fun x t Z=>eV Z S fun y I Z=>bx Z (max_two_ints N.hnd fun F U O=>P.keep O U OR)
theorem SD:gB T b (.builtin "min") QA:=by
 intro X A R W σ s G M H V N Z P Y;exact KD Z Y fun p q u v Z Q S=>eV Z Q fun x t Z=>eV Z S fun y I Z=>bx Z (min_two_ints N.hnd fun F U O=>P.keep O U OR)
noncomputable def Vp:PV->ER
 |.str _=>ab (.val (.type "str"))
 |.tup _=>ab (.val (.type "tuple"))
 |.loc i=>ud i fun _ σ=>some (.val (.type "list"),σ)
 |_=>fun _=>none
noncomputable def sz:GR:=g1 Vp
theorem we:gB T b (.type "type") sz:=by
 intro X A R W σ s P Q O V F Z Y U;refine Fw Z U fun p u Z S=>?_
 cases p with
 |str x=>obtain⟨t,rfl⟩:=S;exact bx Z (zR (ib _ _ _) (by decide) (aL.same' Y rfl))
 |tup P=>obtain⟨a,Q,n,rfl,I,N⟩:=S;exact bx Z (zR (Tx:="tuple") ⟨_,Y.r.hF _ _ I,rfl⟩ (by decide) (aL.same' Y rfl))
 |loc i=>
  obtain⟨G,rfl⟩:=S;have Z:ud i (fun _ σ=>some (.val (.type "list"),σ)) σ=some (O,V):=Z;refine yx Z fun P e Z=>bx Z ?_
  obtain⟨Q,n,M,N,H⟩:=dG Y e;exact zR (Tx:="list") ⟨_,M,rfl⟩ (by decide) (aL.same' Y rfl)
 |_=>exact aW Z
noncomputable def QU:GR:=g1 (oq fun n=>ab (.rng 0 n))
noncomputable def Ph:GR:=g2 fun p q=>oq (fun a=>oq (fun b=>ab (.rng a b)) q) p
noncomputable def dm(Z:List PV):ER:=if Z.length=1 then QU Z else Ph Z
theorem gL:gB T b (.type "range") dm:=by
 intro X A R W σ s O M I Q H Z U Y;unfold dm at Z
 by_cases S:O.length=1
 .rw [aC S]at Z
  refine Fw Z Y fun p u Z V=>eV Z V fun n t Z=>bx Z (call_range_1 ?_)
  have h:=U.newF (o:={cls:=Value.type "range",data:=Data.fields #[Value.int 0 s.toks,Value.int n t,Value.int 1 (s.toks+1)]}) rfl (s.toks+1+1);exact⟨_,h.1,⟨_,_,_,_,rfl,h.2.1⟩,h.2.2⟩
 .rw [aF S]at Z
  refine KD Z Y fun p q u v Z V N=>eV Z V fun x t Z=>eV Z N fun y P Z=>bx Z (call_range_2 ?_)
  have h:=U.newF (o:={cls:=Value.type "range",data:=Data.fields #[Value.int x t,Value.int y P,Value.int 1 s.toks]}) rfl (s.toks+1);exact⟨_,h.1,⟨_,_,_,_,rfl,h.2.1⟩,h.2.2⟩
noncomputable def iZ:List PV->Option (List Int)
 |[]=>some []
 |.int a::Z=>(iZ Z).map (a::·)
 |_::_=>none
theorem EY:iZ []=(some []):=rfl
theorem Ed(a ps):iZ (.int a::ps)=((iZ ps).map (a::·)):=rfl
theorem EX:∀{Z:List PV} {Y:List Int} {U:List Value},iZ Z=some Y->aP W Z U->∃V:List (Int×Tok),U=V.map (fun p=>.int p.1 p.2)/\V.map (·.1)=Y:=by
 intro Z
 induction Z with
 |nil=>intro Y U e h;obtain rfl:=aZ e;subst h;exact⟨[],rfl,rfl⟩
 |cons p Z P=>
  intro Y U e h;cases p with
  |int a=>
   obtain⟨v,S,rfl,⟨t,rfl⟩,O⟩:=h;obtain⟨Q,N,rfl⟩:=kN.mp (show(iZ Z).map (a::·)=some Y from e);obtain⟨V,rfl,rfl⟩:=P N O;exact⟨(a,t)::V,rfl,rfl⟩
  |_=>exact aW e
noncomputable def CE(Z:List Int):Bool:=Z.all fun n=>decide (n.natAbs<=2^30)
theorem tA:∀{Z:List (Int×Tok)},CE (Z.map (·.1))=true->∀j,(preSum (numAt Z.toArray) j).natAbs<=2^30*j/\(numAt Z.toArray j).natAbs<=2^30:=by
 intro Z h;have one:∀j,(numAt Z.toArray j).natAbs<=2^30:=fun j=>by
  unfold numAt;rw [FT];cases q:Z[j]? with
  |none=>simp
  |some p=>exact gw (dl.mp h p.1 (ri (ic q)))
 intro j;refine⟨?_,one j⟩
 induction j with
 |zero=>simp [preSum]
 |succ j Y=>exact bJ (JK _ _) (Nat.add_le_add Y (one j))
theorem At:∀(Z:List (Int×Tok)),preSum (numAt Z.toArray) Z.length=(Z.map (·.1)).sum:=by
 intro Z;have Y:∀j,j<=Z.length->preSum (numAt Z.toArray) j=((Z.take j).map (·.1)).sum:=fun j=>by
  induction j with
  |zero=>intro _;rfl
  |succ j U=>
   intro V;rw [preSum,U (by exact(wj V)),List.take_succ,lU,List.sum_append];have:numAt Z.toArray j=Z[j].1:=by
    unfold numAt;rw [FT];rw [fC (by exact(vB V))];rfl
   rw [this,fC (by exact(vB V))];simp<;>rfl
 rw [Y _ (bZ _),GL]
noncomputable def Bp:GR:=g1 (ES fun i=>ud i fun Z σ=>(iZ Z).bind fun Y=>if CE Y=true/\Z.length<=2^20 then some (.int Y.sum,σ)else none)
theorem Mw(i:Nat)(σ:AS):Bp [.loc i] σ=ud i (fun Z σ=>(iZ Z).bind fun Y=>if CE Y=true/\Z.length<=2^20 then some (.int Y.sum,σ)else none) σ:=rfl
theorem JE{x:Int}{N:Nat}(h:x.natAbs<=N)(Z:N<2^63):InLong x:=by
 have V:=Int.le_natAbs (a:=x);have Y:=Int.le_natAbs (a:=-x);rw [JS]at Y
 exact⟨by exact qf 0x10040000000000000001d2d404004810d40408000000000000000384010840000023 rfl h Z Y,by exact qf 0x40000000000000001d20424200240840408000000000000000384010840000023 rfl h Z V⟩
theorem Oj:gB T b (.builtin "sum") Bp:=by
 intro X A R W σ s N O v G B Z I Q;refine Fw Z Q fun p u Z E=>pP Z E fun i Z q=>yx Z fun N e Z=>dh Z fun t S Z=>gU Z fun V Z=>bx Z ?_
 obtain⟨O,n,D,M,r⟩:=dG I e;obtain⟨Y,H,rfl⟩:=EX S M;have x:O=intItems Y.toArray:=by
  unfold intItems;apply Al.mp;rw [H];simp
 subst x;have U:Y.length=N.length:=by
  have:=M.length;rw [H]at this
  simpa using this.symm
 refine sum_intList (xs:=Y.toArray) B.hnd ⟨_,D,rfl,n,rfl⟩ (fun j C=>?_) fun m F w V=>?_
 .obtain⟨y,o⟩:=tA V.1 (j+1)
  obtain⟨_,z⟩:=tA V.1 j;have P:j<Y.length:=by simpa using C
  exact⟨JE z (by decide),JE (bJ y (Ik _ (show j+1<=2^20 by have:=V.2;exact ci 0x2000006084401002100801080010082000400000c000023 rfl V.2 U P))) (by decide)⟩
 .rw [show Y.toArray.size=Y.length from rfl,At]
  exact I.keep V F (eh _ _)
end
section
open PySem.Builtin PySem.Builtin.Str
noncomputable def Aw(x:Str):Bool:=Builtin.Str.tooLong x.length
noncomputable def tU(x y:Str)(i j:Int):Int:=match Builtin.Str.occurrences x y (fromIndex x.length i) (min (fromIndex x.length j) x.length) 1 with|k::_=>(k:Int)|[]=>-1
theorem xT(x y:Str)(i j:Int)(t u v w:Tok):Gives (Builtin.«str.find» ⟨[.str x t,.str y u,.int i v,.int j w],[]⟩) (.int (tU x y i j)):=by
 unfold tU;show Gives (match Builtin.Str.occurrences x y (fromIndex x.length i) (min (fromIndex x.length j) x.length) 1 with|k::_=>retInt k|[]=>(do rule "str.find.not-found";retInt (-1))) _;cases Builtin.Str.occurrences x y (fromIndex x.length i) (min (fromIndex x.length j) x.length) 1 with
 |nil=>exact .rule (.of_eq rfl)
 |cons k _=>exact .of_eq rfl
noncomputable def mD:GR:=g1 (vY fun x Z=>if Aw (Txt.lower x)=false then some (.str (Txt.lower x),Z)else none)
noncomputable def uB:GR:=g1 (vY fun x Z=>if Aw (Txt.upper x)=false then some (.str (Txt.upper x),Z)else none)
noncomputable abbrev g4(f:PV->PV->PV->PV->ER):GR
 |[p,q,r,u]=>f p q r u
 |_=>fun _=>none
noncomputable def Ck:GR:=g4 fun p q r u=>vY (fun x=>vY (fun y=>oq (fun i=>oq (fun j Z=>some (.int (tU x y i j),Z)) u) r) q) p
noncomputable def uw:GR:=g2 fun p q=>vY (fun x=>vY (fun y Z=>some (.bool (Txt.startswith x y),Z)) q) p
noncomputable def DM:GR:=g2 fun p q=>vY (fun x=>vY (fun y Z=>some (.bool (Txt.endswith x y),Z)) q) p
section
variable {T:Tp}{X:Cx}{R:Fz}{W:Wd}{σ:AS}{s:Shared}{b:Nat}{A:Around}
@[elab_as_elim] theorem VQ{M:List Value}{r:PV×AS}{G:List Value->Prop}{f:PV->PV->PV->PV->ER}{Z:List PV}(h:g4 f Z σ=some r)(I:aP W Z M)(k:∀N O P Q S U V Y,f N O P Q σ=some r->bk W N S->bk W O U->bk W P V->bk W Q Y->G [S,U,V,Y]):G M:=by
 cases Z with
 |nil=>exact aW h
 |cons N Z=>cases Z with
  |nil=>exact aW h
  |cons O Z=>cases Z with
   |nil=>exact aW h
   |cons P Z=>cases Z with
    |nil=>exact aW h
    |cons Q Z=>cases Z with
     |cons _ _=>exact aW h
     |nil=>obtain⟨S,_,rfl,D,U,_,rfl,E,V,_,rfl,F,Y,_,rfl,H,rfl⟩:=I;exact k N O P Q S U V Y h D E F H
theorem Dw:gB T b (.builtin "str.lower") mD:=by
 intro X A R W σ s O Q P V N Z S Y;exact Fw Z Y fun p u Z U=>jY Z U fun x t Z=>gU Z fun h Z=>bx Z (SC.lower h (aL.same S (nA _ _)))
theorem LL:gB T b (.builtin "str.upper") uB:=by
 intro X A R W σ s O Q P V N Z S Y;exact Fw Z Y fun p u Z U=>jY Z U fun x t Z=>gU Z fun h Z=>bx Z (SC.upper h (aL.same S (nA _ _)))
theorem Rf:gB T b (.builtin "str.find") Ck:=by
 intro X A R W σ s z H B V q Z P Y;exact VQ Z Y fun r u v w C D E G Z I M N O=>jY Z I fun x t Z=>jY Z M fun y Q Z=>eV Z N fun i S Z=>eV Z O fun j U Z=>bx Z
  (call_gives FD (ib _ _ _) F.entry_str_find (F.args_str_find_4 _ _ _ _) (xT x y i j t Q S U) (aL.same P (eh _ _)))
theorem Il:gB T b (.builtin "str.startswith") uw:=by
 intro X A R W σ s M P N V I Z Q Y;exact KD Z Y fun p q u v Z S U=>jY Z S fun x t Z=>jY Z U fun y O Z=>bx Z (SC.startswith (aL.same' Q (fY _)))
theorem RA:gB T b (.builtin "str.endswith") DM:=by
 intro X A R W σ s M P N V I Z Q Y;exact KD Z Y fun p q u v Z S U=>jY Z S fun x t Z=>jY Z U fun y O Z=>bx Z (SC.endswith (aL.same' Q (fY _)))
theorem Bt{x y:Str}{t u:Tok}{Q:Value->Shared->Prop}{E:Value->Shared->Prop}{Y:Program}{w:World}(O:(y.length==0)=false)(S:x.length<=sizeLine)
  (V:(Builtin.Str.partsBetween x (Builtin.Str.occurrences x y 0 x.length (x.length+1)) y.length).length<=sizeLine)
  (P:∀(l:List (Str×Tok)) k,l.map (·.1)=Txt.split x y->Q (.ref s.heap.objs.size) {s with heap:=s.heap.push {cls:=.type "list",data:=.seq (strValues l).toArray},toks:=k}):
  wpAny (model Y w) A (call (.builtin "str.split") [.str x t,.str y u]) Q E s:=by
 cases Z:(decide (x.length<y.length)||decide (Builtin.Str.strKind x<Builtin.Str.strKind y))
 .cases U:(Builtin.Str.occurrences x y 0 x.length (x.length+1)).isEmpty
  .refine kK vA (ib _ _ _) zx (zG _ _) (meets_str_split_sep x y t u Z O U S V) ?_
   show wants Q E _ {s with toks:=_,heap:=s.heap.push {cls:=.type "list",data:=.seq (strsFrom s.toks (Builtin.Str.partsBetween x (Builtin.Str.occurrences x y 0 x.length (x.length+1)) y.length)).toArray}};rw [strsFrom_eq];exact P (numbered s.toks _) _ ((numbered_texts _ _).trans ((aF (AY Z)).trans (aF (AY U))).symm)
  .exact kK vA (ib _ _ _) zx (zG _ _) (meets_str_split_not_found x y t u Z O U)
    (P [(x,t)] s.toks ((aF (AY Z)).trans (aC U)).symm)
 .exact kK vA (ib _ _ _) zx (zG _ _) (meets_str_split_cannot_occur x y t u Z)
   (P [(x,t)] s.toks (aC Z).symm)
theorem xH:∀{l:List (Str×Tok)} {Z:List Str},l.map (·.1)=Z->aP W (Z.map .str) (strValues l)
 |[],_,h=>by subst h;rfl
 |(x,t)::l,_,h=>by
  subst h;exact⟨_,_,rfl,nA _ _,xH (l:=l) rfl⟩
noncomputable def Aj:GR:=g2 fun p q=>vY (fun x=>vY (fun y σ=>if(y.length==0)=false/\x.length<=2^20/\(Builtin.Str.partsBetween x (Builtin.Str.occurrences x y 0 x.length (x.length+1)) y.length).length<=2^20 then
   some (.loc σ.nx,{σ with st:=(σ.nx,.list ((Txt.split x y).map .str))::σ.st,nx:=σ.nx+1})else none) q) p
theorem oa(Z:cj T X R W σ s){i:Nat}(e:i=σ.nx):bk (W.add s.heap.objs.size) (.loc i) (.ref s.heap.objs.size):=by
 subst e;refine⟨by rw [Z.nx];exact kB _,?_⟩;show Value.ref _=.ref (if σ.nx=W.n then _ else _);rw [aC Z.nx]
theorem NK:gB T b (.builtin "str.split") Aj:=by
 intro X A R W σ s I O M U H Z V Y;refine KD Z Y fun p q u v Z Q S=>jY Z Q fun x t Z=>jY Z S fun y N Z=>gU Z fun h Z=>bx Z ?_
 refine Bt h.1 (bJ h.2.1 (by decide)) (bJ h.2.2 (by decide)) fun l k P=>?_
 have h:=V.newId (o:={cls:=.type "list",data:=.seq (strValues l).toArray}) rfl (ao:=.list _) ⟨_,_,rfl,by simpa using xH P⟩ k;exact⟨_,h.1,oa V rfl,h.2⟩
noncomputable def iV:List PV->Option (List Str)
 |[]=>some []
 |.str a::Z=>(iV Z).map (a::·)
 |_::_=>none
theorem Ei:iV []=(some []):=rfl
theorem EF(a ps):iV (.str a::ps)=((iV ps).map (a::·)):=rfl
theorem DZ:∀{Z:List PV} {Y:List Str} {U:List Value},iV Z=some Y->aP W Z U->∃V:List (Str×Tok),U=strValues V/\V.map (·.1)=Y:=by
 intro Z
 induction Z with
 |nil=>intro Y U e h;obtain rfl:=aZ e;subst h;exact⟨[],rfl,rfl⟩
 |cons p Z P=>
  intro Y U e h;cases p with
  |str a=>
   obtain⟨v,S,rfl,⟨t,rfl⟩,O⟩:=h;obtain⟨Q,N,rfl⟩:=kN.mp (show(iV Z).map (a::·)=some Y from e);obtain⟨V,rfl,rfl⟩:=P N O;exact⟨(a,t)::V,rfl,rfl⟩
  |_=>exact aW e
noncomputable def ia:GR:=g2 fun p q=>vY (fun x=>ES (fun i=>ud i fun Y σ=>(iV Y).bind fun Z=>if JoinOk x Z=true then some (.str (Txt.join x Z),σ)else none) q) p
theorem wn(x:Str)(i:Nat)(σ:AS):ia [.str x,.loc i] σ=ud i (fun Y σ=>(iV Y).bind fun Z=>if JoinOk x Z=true then some (.str (Txt.join x Z),σ)else none) σ:=rfl
theorem qH:gB T b (.builtin "str.join") ia:=by
 intro X A R W σ s N S C P y Z Q V;refine KD Z V fun p q u v Z M U=>jY Z M fun x t Z=>pP Z U fun i Z z=>yx Z fun N e Z=>dh Z fun F Y Z=>gU Z fun H Z=>bx Z ?_
 obtain⟨S,n,I,U,B⟩:=dG Q e;obtain⟨O,G,rfl⟩:=DZ Y U;refine SC.join (l:=O) (D:=W.ρ i) ⟨_,I,rfl,n,?_⟩ rfl H fun E k=>aL.same Q (nA _ _)
 show Data.seq S n=_
 congr 1
 apply Al.mp;rw [G]
noncomputable def jM(f:ER)(y z:Str):ER:=cY f (vY fun x σ=>if stripSame Unicode.isSpace false true x=false/\x.length<=2^20/\(Txt.rstrip x).length<=2^20/\z.length<=14/\(y==z)=false then some (.str (Txt.replace (Txt.rstrip x) y z),σ)else none)
theorem xZ{x:Str}{t:Tok}{Q:Value->Shared->Prop}{E:Value->Shared->Prop}{Z:Program}{w:World}(V:stripSame Unicode.isSpace false true x=false)(Y:x.length<=sizeLine)
  (h:Q (.str (Txt.rstrip x) s.toks) {s with toks:=s.toks+1}):wpAny (model Z w) A (call (.builtin "str.rstrip") [.str x t]) Q E s:=by
 have e:Txt.rstrip x=PySem.stripped Unicode.isSpace false true x:=by
  unfold Txt.rstrip Txt.stripBy;rw [V];rfl
 refine call_gives GO (ib _ _ _) F.entry_str_rstrip (F.args_str_rstrip_1 _) (gives_str_rstrip x t) ?_
 rw [V];rw [aF kD];refine⟨?_,by rw [<-e];exact h⟩;exact fits_stripped _ _ _ Y
theorem aN.stripRepl{o:Expr}{V Y N Z:Pos}{y z:Str}{k D:Nat}{p E:Pos}{f:ER}(n:aN T b X o f)
  (P:∀O,attributeBase o "rstrip" O (eval o O)=eval o O:=by intro _;rfl)
  (M:(V.endLine==N.line)=true:=by rfl) (S:(Y.endLine==Z.line)=true:=by rfl):
  aN T b X (.Call (.Attribute (.Call (.Attribute o "rstrip" V) [] [] N) "replace" Y) [.Constant (.str y) k p,.Constant (.str z) D E] [] Z) (jM f y z):=by
 refine⟨?_⟩;intro A R W σ s d w l Q r;obtain⟨q,G,e,Q⟩:=lx Q;refine sq rfl rfl S rfl ?_
 refine sq (P _) rfl M rfl (aI (n.1 A R W σ s _ _ l e r) fun H u B I v U=>?_);refine jY Q v fun x t Q=>gU Q fun h Q=>bx Q ?_
 refine⟨"str",_,iE,GO,F.type_str_rstrip,ib _ _ _,(fun _ e=>nomatch e),?_⟩;refine oK rfl (cV rfl (qT ?_));refine xZ h.1 (bJ h.2.1 (by decide)) ?_
 refine⟨"str",_,iE,F.slot_str_replace,F.type_str_replace,ib _ _ _,(fun _ e=>nomatch e),?_⟩;have C:backTo Z (starEach [.Constant (.str y) k p,.Constant (.str z) D E] X.env)=[(false,eval (.Constant (.str y) k p) X.env),(false,eval (.Constant (.str z) D E) X.env)]:=rfl;rw [C];refine oK rfl (uX (rH (BG (rH (BG (qT ?_))))));have m:(Txt.rstrip x).length+((Txt.rstrip x).length+1)*z.length<=16777216:=by
  have c:=h.2.2.1;have i:=h.2.2.2.1;have j:((Txt.rstrip x).length+1)*z.length<=(2^20+1)*14:=GM (by exact(aH 0x2000026084001002000400000c000021 rfl h.2.2.1)) i;exact bb 0x20000006080001002003800038c10002000400000c000022 rfl h.2.2.1 j
 exact SC.replace (zU _) (zU _) (gn (kB _)) h.2.2.2.2 m fun g k=>⟨H,I,nA _ _,U.tok k⟩
end
end
section
open PySem.Builtin PySem.Builtin.Str
noncomputable abbrev PR:=AS->Option (Option Int×AS)
structure DU(T:Tp)(b:Nat)(X:Cx)(e:Option Expr)(f:PR):Prop where
 go:
  ∀A R W σ s oi σ',jb b A->f σ=some (oi,σ')->cj T X R W σ s->
   wpAny (model T.prog T.w) A (evalPart e X.env) (fun v s'=>∃W',cH W s.heap W' s'.heap/\(∃l:Option (Int×Tok),v=partValue l/\l.map (·.1)=oi)/\cj T X R W' σ' s') bf s
noncomputable def cr:PR:=fun Z=>some (none,Z)
noncomputable def Un(p:PV)(Z:AS):Option (Option Int×AS):=match p with|.int i=>some (some i,Z)|_=>none
noncomputable def bU(f:ER):PR:=fS f Un
noncomputable def kF(Z:List PV)(lo Y:Option Int):List PV:=
 (sliceRange (sliceBounds lo Y none Z.length).1 (sliceBounds lo Y none Z.length).2.1 (sliceBounds lo Y none Z.length).2.2).filterMap (Z[·]?)
noncomputable def vD(p:PV)(lo X:Option Int):ER:=match p with
 |.str x=>fun Z=>if x.length<=2^20 then some (.str (Txt.slice x lo X),Z)else none
 |.loc i=>ud i fun Y Z=>if Y.length<=2^20 then some (.loc Z.nx,{Z with st:=(Z.nx,.list (kF Y lo X))::Z.st,nx:=Z.nx+1})else none
 |_=>fun _=>none
theorem BC(i:Nat)(lo X:Option Int):vD (.loc i) lo X=ud i fun Y Z=>if Y.length<=2^20 then some (.loc Z.nx,{Z with st:=(Z.nx,.list (kF Y lo X))::Z.st,nx:=Z.nx+1})else none:=rfl
noncomputable def bI(f:ER)(l u:PR):ER:=fS f fun p=>fS l fun lo=>fS u fun Z=>vD p lo Z
section
variable {T:Tp}{X:Cx}{R:Fz}{W:Wd}{σ:AS}{s:Shared}{b:Nat}{A:Around}
theorem DU.no:DU T b X Option.none cr:=by
 refine⟨?_⟩;intro A R W σ s U Z S V Y;cases V;exact bo ⟨W,cH.refl ..,⟨none,rfl,rfl⟩,Y⟩
theorem DU.yes{e:Expr}{f:ER}(h:aN T b X e f):DU T b X (Option.some e) (bU f):=by
 refine⟨?_⟩;intro A R W σ s I S O Y P;obtain⟨p,V,Z,Y⟩:=aS Y;cases p with
 |int i=>cases Y;exact bG (h.1 A R W σ s _ _ O Z P) (fun v M ⟨N,g,⟨t,Q⟩,U⟩=>⟨N,g,⟨some (i,t),Q,rfl⟩,U⟩) ar
 |_=>exact aW Y
theorem aP.pick{V:List PV}{Y:List Value}(h:aP W V Y):∀Z:List Nat,aP W (Z.filterMap (V[·]?)) (Z.filterMap (Y[·]?))
 |[]=>rfl
 |i::Z=>by
  cases e:V[i]? with
  |none=>
   have Q:Y[i]?=none:=by
    rw [Hd]at e ⊢
    rw [<-h.length];exact e
   simp only [zm,e,Q];exact aP.pick h Z
  |some p=>
   obtain⟨v,S,U⟩:=h.get e;simp only [zm,e,S];exact⟨v,_,rfl,U,aP.pick h Z⟩
theorem DJ{l:Option (Int×Tok)}:IsPart (partValue l) (l.map (·.1)):=by
 cases l with
 |none=>exact .none
 |some p=>exact .int _ _
theorem ED{Z:Program}{w:World}{A:Around}{E:Value->Shared->Prop}{s:Shared}{N:Env}{Y:Expr}{S V:Option Expr}{p G:Pos}{Q:Value->Shared->Prop}
  (h:wpAny (model Z w) A (eval Y N) (fun o O=>wpAny (model Z w) A (eval (.Slice S V Option.none p) N) (fun i U=>ItemOn (model Z w) A E o i Q U) E O) E s):
  wpAny (model Z w) A (eval (.Subscript Y (.Slice S V Option.none p) G) N) Q E s:=by
 rw [eval_Subscript];refine aR (bG h (fun o O H=>?_) fun _ _ x=>x);refine aR (gI (bG H (fun i U I=>?_) fun _ _ x=>x));refine aR (iM ?_);obtain⟨B,id,D,F,C⟩:=I;have fin:wpAny (model Z w) A (operate [i,o] (getItem o i)) (fun r P=>wpAny (model Z w) A (letTemporaryGo Y o r >>= fun _=>pure r) Q E P) E U:=
  wpAny_operating (bG C (fun r P M=>aR (wpAny_letTemporaryGo (bo M))) fun _ _ x=>x)
 refine aR ?_
 rw [getitemInPython_of_ne F.not_modules];refine aR (II F D ?_)
 first
  |exact bo (aR fin)
  |exact aR (bo (aR fin))
  |exact aR fin
theorem aN.slice{O:Expr}{H M:Option Expr}{p z4:Pos}{f:ER}{l u:PR}(h:aN T b X O f)(hl:DU T b X H l)(hu:DU T b X M u):aN T b X (.Subscript O (.Slice H M Option.none p) z4) (bI f l u):=by
 refine⟨?_⟩;intro A R W σ s pv z3 hA V hr;obtain⟨q,P,z0,V⟩:=aS V;obtain⟨lo,Q,a,V⟩:=aS V;obtain⟨hi,U,c,V⟩:=aS V;refine ED (aI (h.1 A R W σ s q P hA z0 hr) fun z2 o j e ho r=>?_);refine wpAny_Slice (bG (hl.1 A R z2 P j lo Q hA a r) (fun lv m hq=>?_) ar);obtain⟨z1,y,⟨I,rfl,D⟩,v⟩:=hq;refine bG (hu.1 A R z1 Q m hi U hA c v) (fun uv Y hq=>bo ?_) ar;obtain⟨S,z,⟨N,rfl,G⟩,w⟩:=hq;have E:=ho.mono (y.trans z).ext;have hg:=(e.trans y).trans z;have Z:cj T X R S U {Y with heap:=Y.heap.push {cls:=.type "slice",data:=.fields #[partValue I,partValue N,.none]},toks:=Y.toks}:=w.push _ _;have C:cH W s.heap S (Y.heap.push {cls:=.type "slice",data:=.fields #[partValue I,partValue N,.none]}):=hg.trans (cH.push ..);cases q with
 |str x=>
  obtain⟨t,rfl⟩:=E;refine gU V fun hx V=>bx V ?_
  refine⟨"str",_,F.slot_str_getitem.lookup,ib _ _ _,wpAny_getItem_str_slice (l:=I) (u:=N) (st:=Option.none) ⟨_,iI _ rfl,rfl,rfl⟩ rfl
   (post_val_or_str ⟨bJ (Txt.slice_le x _ _) (bJ hx (by decide)),fun t' k=>?_⟩)⟩
  subst D G;exact⟨S,C,nA _ _,Z.tok k⟩
 |loc i=>
  obtain⟨z6,rfl⟩:=E;have V:ud i (fun ps σ=>if ps.length<=2^20 then some (.loc σ.nx,{σ with st:=(σ.nx,.list (kF ps lo hi))::σ.st,nx:=σ.nx+1})else Option.none) U=some (pv,z3):=V;refine yx V fun ps d V=>gU V fun hn V=>bx V ?_
  obtain⟨vs,n,g,z5,B⟩:=dG Z d;refine⟨"list",_,slot_list_getitem.lookup,(show Heap.IsList _ _ vs from⟨_,g,rfl,n,rfl⟩).typeIs,?_⟩;refine wpAny_getItem_list_slice (items:=vs) ⟨_,g,rfl,n,rfl⟩ (Heap.IsSliceOf.new ..) DJ DJ .none (by exact(fun h=>aW h)) ?_ (by rw [B];exact bJ hn (by decide))
  rw [D,G];have hz:=Z.newId (o:={cls:=.type "list",data:=.seq (slicePick vs lo hi Option.none)}) rfl (ao:=.list (kF ps lo hi)) ⟨_,_,rfl,?_⟩ Y.toks
  .exact⟨_,C.trans hz.1,oa Z rfl,hz.2⟩
  .refine aP.mono (Wd.add_ext S _) ?_
   unfold slicePick kF;rw [B]
   simpa using z5.pick _
 |_=>exact aW V
noncomputable def bt.stored'(Z:List (Str×PV))(k:Str)(v:PV):List (Str×PV):=
 if Z.any (fun Y=>Y.1==k)then Z.map (fun Y=>if Y.1==k then(Y.1,v)else Y)else Z++[(k,v)]
noncomputable def wW(i:Nat)(n:Int)(v:PV)(σ:AS):Option AS:=match σ.st.lookup i with
 |some (.list Z)=>if 0<=n/\n<Z.length/\Z.length<=2^20 then some {σ with st:=av σ.st i (.list (Z.set n.toNat v))}else none
 |_=>none
noncomputable def wE(i:Nat)(x:Str)(v:PV)(σ:AS):Option AS:=match σ.st.lookup i with
 |some (.dict Z)=>if Z.length<=2^20 then some {σ with st:=av σ.st i (.dict (bt.stored' Z x v))}else none
 |_=>none
noncomputable def bt(o k v:PV)(σ:AS):Option AS:=match o with
 |.loc i=>(match k with
  |.int n=>wW i n v σ
  |.str x=>wE i x v σ
  |_=>none)
 |_=>none
theorem qb(V:cj T X R W σ s){i:Nat}{Z ps:List PV}{Y:Array Value}{n:Nat}(e:σ.st.lookup i=some (.list Z))(U:s.heap.get? (W.ρ i)=some {cls:=.type "list",data:=.seq Y n})
  {f:Array Value->Array Value} (S:aP W ps (f Y).toList) (k:Nat):cH W s.heap W (s.heap.update (W.ρ i) (Obj.mapSeq f))/\cj T X R W {σ with st:=av σ.st i (.list ps)} {s with heap:=s.heap.update (W.ρ i) (Obj.mapSeq f),toks:=k}:=
 V.updId e (Aa ..) (IsL.update (items:=Y) (n:=n) U f) (ao:=.list ps) ⟨_,_,rfl,S⟩ k
theorem zQ:∀{Z:List (Str×PV)} {Y:List (Str×Value)},Y.map (·.1)=Z.map (·.1)->aP W (Z.map (·.2)) (Y.map (·.2))->∀{x:Str} {p:PV} {v:Value},bk W p v->
  ((stored Y x v).map (·.1)=(bt.stored' Z x p).map (·.1)/\aP W ((bt.stored' Z x p).map (·.2)) ((stored Y x v).map (·.2))):=by
 intro Z Y Q N x p v I;have U:Y.any (fun Y=>decide (Y.1=x))=Z.any (fun Y=>Y.1==x):=by
  have C:Y.any (fun Y=>decide (Y.1=x))=(Y.map (·.1)).any (fun k=>decide (k=x)):=by rw [Bb];rfl
  have D:Z.any (fun Y=>Y.1==x)=(Z.map (·.1)).any (fun k=>decide (k=x)):=by
   rw [Bb];rfl
  rw [C,D,Q]
 unfold stored bt.stored';rw [U]
 split
 .rename_i E
  clear U E
  induction Z generalizing Y with
  |nil=>
   cases Y with
   |nil=>exact⟨rfl,rfl⟩
   |cons _ _=>exact KC Q
  |cons y Z F=>
   cases Y with
   |nil=>exact Uj Q
   |cons z Y=>
    rw [cP,cP]at Q
    injection Q with V M
    rw [cP,cP]at N
    obtain⟨u,t,e,O,P⟩:=N;injection e with w B
    subst w B;obtain⟨G,H⟩:=F M P;refine⟨?_,?_⟩
    .simp only [cP]
     rw [G]
     congr 1
     by_cases h:y.1=x
     .have S:z.1=x:=V.trans h
      simp [h,S]
     .have S:¬z.1=x:=fun q=>h (V.symm.trans q)
      simp [h,S,V]
    .simp only [cP]
     refine⟨_,_,rfl,?_,H⟩
     by_cases h:y.1=x
     .have S:z.1=x:=V.trans h
      simp [h,S,I]
     .have S:¬z.1=x:=fun q=>h (V.symm.trans q)
      simp [h,S,O]
 .refine⟨by rw [lU,lU,Q];rfl,?_⟩
  rw [lU,lU];exact N.append ⟨_,_,rfl,I,rfl⟩
theorem vo{o:Obj}{V:List (Str×Value)}{Y:Program}{w:World}(h:o.IsDictOf (PySem.strKind Y w) V):∀Z,o.IsDictOf (PySem.strKind Z w) V:=by
 intro Z;obtain⟨O,I,M,P,Q,S,U⟩:=h;refine⟨O,I,M,P,Q,?_,U⟩;clear P Q U;generalize O.toList=l at S
 induction S with
 |nil=>exact .nil
 |cons a c d N=>exact .cons a c N
theorem nC(Q:cj T X R W σ s){o k p:PV}{u v x:Value}{Y:AS}(Z:bt o k p σ=some Y)(j:bk W o u)(D:bk W k v)(E:bk W p x):
  wpAny (model T.prog T.w) A (setItem u v x) (kW T X R W s Y) bf s:=by
 cases o with
 |loc i=>
  obtain⟨hi,rfl⟩:=j;cases k with
  |int n=>
   obtain⟨t,rfl⟩:=D;have Z:wW i n p σ=some Y:=Z;unfold wW at Z
   cases e:σ.st.lookup i with
   |none=>rw [e]at Z;exact aW Z
   |some O=>cases O with
    |list G=>
     rw [e]at Z
     refine gU Z fun V Z=>?_
     cases Z;obtain⟨B,m,P,N,d⟩:=dG Q e;refine PySem.W.ki_setAt (items:=B) (n:=m) P V.1 (by have:=V.2.1;have:=V.2.2;exact hH 0x20000000000000000e9021210002000006000010012042422 rfl V.2.1 V.2.2) (by rw [d];exact V.2.1) ?_
     have h:=qb Q e P (ps:=G.set n.toNat p) (f:=(·.setIfInBounds n.toNat x)) (by simpa using N.set E) s.toks;exact⟨W,h.1,h.2⟩
    |_=>rw [e]at Z;exact aW Z
  |str y=>
   obtain⟨t,rfl⟩:=D;have Z:wE i y p σ=some Y:=Z;unfold wE at Z
   cases e:σ.st.lookup i with
   |none=>rw [e]at Z;exact aW Z
   |some O=>cases O with
    |dict U=>
     rw [e]at Z
     refine gU Z fun V Z=>?_
     cases Z;obtain⟨_,l,P,F,h1,C,a⟩:=Q.r.trk i _ e;have c:s.heap.DictOf (PySem.strKind T.prog T.w) (W.ρ i) F:=og.mpr ⟨l,P,h1 _⟩;have S:F.length=U.length:=by simpa using bv List.length C
     refine wpAny_setItem_pairs (k:=y) (by show Value.isStrOf y (.str y t)=true;simp [Value.isStrOf]) c (fun h' H g=>?_) (by rw [S];exact bJ V (by decide));obtain⟨o',M,I⟩:=og.mp H;obtain⟨q,z⟩:=zQ C a E (x:=y);have h:=Q.updId e g M (ao:=.dict (bt.stored' U y p)) ⟨_,vo I,q,z⟩ (s.toks+1);exact⟨W,h.1,h.2⟩
    |_=>rw [e]at Z;exact aW Z
  |_=>exact aW Z
 |_=>exact aW Z
noncomputable def yq(fo Z:ER):TR:=fun p=>fS fo fun o=>fS Z fun k=>bt o k p
theorem dR.sub{o i:Expr}{H:Pos}{fo E:ER}(h:aN T b X o fo)(w:aN T b X i E):dR T b X (.Subscript o i H) (yq fo E):=by
 refine⟨?_⟩;intro A R W σ s p v C F O z B;obtain⟨q,Z,M,O⟩:=aS O;obtain⟨k,U,N,O⟩:=aS O;refine PySem.W.kas_sub (aI (h.1 A R W σ s q Z F M z) fun I u P V y Q=>?_);refine aI (w.1 A R I Z P k U F N Q) fun D t G Y x S=>?_
 exact vw (V.trans Y) (nC S O (y.mono Y.ext) x (B.mono (V.trans Y).ext))
end
end
section
open PySem.Builtin PySem.Builtin.Str
noncomputable def aQ:GR:=g2 fun o p=>ES (fun i=>zJ i fun Y Z=>some (.none,{Z with st:=av Z.st i (.list (Y++[p]))})) o
noncomputable def Ub:GR:=g1 (ES fun i=>zJ i fun Y Z=>Y.getLast?.bind fun p=>some (p,{Z with st:=av Z.st i (.list Y.dropLast)}))
noncomputable def VD:GR:=g2 fun o q=>ES (fun i=>oq (fun k=>zJ i fun Z Y=>if -(2^62)<=k/\k<2^62 then(seqIndex? k Z.length).bind fun j=>Z[j]?.bind fun p=>some (p,{Y with st:=av Y.st i (.list (Z.eraseIdx j))})else none) q) o
noncomputable def BD(Z:List PV):ER:=if Z.length=1 then Ub Z else VD Z
noncomputable def gz:GR:=g1 (ES fun i=>zJ i fun Y Z=>some (.none,{Z with st:=av Z.st i (.list Y.reverse)}))
noncomputable def pM:GR:=g3 fun o q p=>ES (fun i=>vY (fun x Y=>(oe (Y.st.lookup i)).bind fun Z=>some ((Z.lookup x).getD p,Y)) q) o
section
variable {T:Tp}{X:Cx}{R:Fz}{W:Wd}{σ:AS}{s:Shared}{b:Nat}{A:Around}
theorem aP.eraseIdx:∀{Y:List PV} {Z:List Value},aP W Y Z->∀j,aP W (Y.eraseIdx j) (Z.eraseIdx j)
 |[],Z,h,j=>by rw [show Z=[]from h];rfl
 |p::Y,Z,h,0=>by obtain⟨v,V,rfl,S,U⟩:=h;exact U
 |p::Y,Z,h,j+1=>by obtain⟨v,V,rfl,S,U⟩:=h;exact⟨v,_,rfl,S,aP.eraseIdx U j⟩
theorem aP.reverse:∀{Y:List PV} {Z:List Value},aP W Y Z->aP W Y.reverse Z.reverse
 |[],Z,h=>by rw [show Z=[]from h];rfl
 |p::Y,Z,h=>by
  obtain⟨v,V,rfl,S,U⟩:=h;rw [zv,zv];exact(aP.reverse U).append ⟨v,[],rfl,S,rfl⟩
theorem mo{Z:Array Value}{j:Nat}:(Z.eraseIdxIfInBounds j).toList=Z.toList.eraseIdx j:=by
 obtain⟨l⟩:=Z;unfold Array.eraseIdxIfInBounds
 split
 .simp
 .rename_i h
  simp only [uO]at h
  rw [List.eraseIdx_of_length_le (by simpa using h)]
theorem Dl{k:Int}(Z:-(2^62)<=k/\k<2^62):Builtin.List.listFitsIndex k=true:=by
 unfold Builtin.List.listFitsIndex;rw [cR];exact⟨dq (by exact(Rh Z.1)),dq (by exact(Rp Z.2))⟩
theorem cg:gB T b (.builtin "list.append") aQ:=by
 intro X A R W σ s S U E P B Y Q Z;refine KD Y Z fun o p u v Y N O=>pP Y N fun i Y C=>EA Y fun S e G Y=>bx Y ?_
 obtain⟨U,n,H,Z,F⟩:=dG Q e;refine wpAny_list_append_plain (items:=U) ⟨n,H⟩ (fun z I M=>?_) (by rw [F];exact bJ G (by decide));obtain⟨D,V⟩:=I;have h:=Q.updId e M V (ao:=.list (S++[p])) ⟨_,_,rfl,by rw [IB];exact Z.append ⟨v,[],rfl,O,rfl⟩⟩ s.toks;exact⟨W,h.1,Dz,h.2⟩
theorem NS:gB T b (.builtin "list.pop") BD:=by
 intro X A R W σ s V P m B l Z N Y;unfold BD at Z
 by_cases O:V.length=1
 .rw [aC O]at Z
  refine Fw Z Y fun q u Z H=>pP Z H fun i Z r=>EA Z fun V e D Z=>dh Z fun p E Z=>bx Z ?_
  obtain⟨P,n,S,Y,Q⟩:=dG N e;have G:V[V.length-1]?=some p:=by rw [<-JP];exact E
  obtain⟨y,I,U⟩:=Y.get G;have C:V.dropLast=V.eraseIdx (V.length-1):=by rw [List.eraseIdx_length_sub_one]
  refine kK vQ ⟨_,S,rfl⟩ Iy (F.args_list_pop_1 _) (MeetsSeq.list_pop_last (W.ρ i) P n y (by rw [Q];simpa using I) (by rw [Q];exact bJ D (by decide))) ⟨S,?_⟩;have h:=qb N e S (ps:=V.dropLast) (f:=fun M=>M.eraseIdxIfInBounds (P.size-1)) (by rw [mo,Q,C];exact Y.eraseIdx _) s.toks;exact⟨W,h.1,U,h.2⟩
 .rw [aF O]at Z
  refine KD Z Y fun q o u v Z H z=>pP Z H fun i Z r=>eV Z z fun k t Z=>EA Z fun V e D Z=>gU Z fun x Z=>dh Z fun j w Z=>dh Z fun p E Z=>bx Z ?_
  obtain⟨P,n,S,Y,Q⟩:=dG N e;obtain⟨y,I,U⟩:=Y.get E;refine kK vQ ⟨_,S,rfl⟩ Iy (F.args_list_pop_2 _ _) (MeetsSeq.list_pop_at (W.ρ i) P n k t j y (Dl x) (Q▸w) (by simpa using I) (by rw [Q];exact bJ D (by decide))) ⟨S,?_⟩;have h:=qb N e S (ps:=V.eraseIdx j) (f:=fun M=>M.eraseIdxIfInBounds j) (by rw [mo];exact Y.eraseIdx _) s.toks;exact⟨W,h.1,U,h.2⟩
theorem tf:gB T b (.builtin "list.reverse") gz:=by
 intro X A R W σ s V S H P E Y Q Z;refine Fw Y Z fun q u Y N=>pP Y N fun i Y G=>EA Y fun V e M Y=>bx Y ?_
 obtain⟨S,n,U,Z,I⟩:=dG Q e;refine kK Ay ⟨_,U,rfl⟩ F.entry_list_reverse (F.args_list_reverse_1 _) (AutoSeq1.list_reverse_list_0 (W.ρ i) S n (by rw [I];exact bJ M (by decide))) ⟨U,?_⟩;have h:=qb Q e U (ps:=V.reverse) (f:=fun O=>O.reverse) (by simpa using Z.reverse) s.toks;exact⟨W,h.1,Dz,h.2⟩
theorem OJ:gB T b (.builtin "dict.get") pM:=by
 intro X A R W σ s h m j M f Z O Q;refine VT Z Q fun q l p u v w Z D E G=>pP Z D fun i Z B=>jY Z E fun x t Z=>dh Z fun V e Z=>bx Z ?_
 obtain⟨_,I,C,H,n,o,z⟩:=O.r.trk i _ (pc e);have N:s.heap.DictOf (PySem.strKind T.prog T.w) (W.ρ i) H:=og.mpr ⟨I,C,n _⟩;have P:(W.ρ i==sysModules)=false:=by rw [gp];exact O.r.sysm i B
 refine call_meetsIn AL N.typeIs F.entry_dict_get (F.args_dict_get_3 _ _ _) (meets_dict_get_default (PySem.strKind T.prog T.w) (k:=x) (W.ρ i) (by show Value.isStrOf x (.str x t)=true;simp [Value.isStrOf]) P w) ⟨_,N.mapOf,?_⟩;refine⟨W,cH.refl ..,?_,O.tok _⟩;have Y:=BW o z x;cases q:V.lookup x with
 |none=>rw [q]at Y;rw [Y];exact G
 |some g=>
  rw [q]at Y
  obtain⟨y,S,U⟩:=Y;rw [S];exact U
noncomputable def HN:ER:=fun σ=>some (.loc σ.nx,{σ with st:=(σ.nx,.dict [])::σ.st,nx:=σ.nx+1})
theorem aN.dict{Z:Pos}:aN T b X (.Dict [] [] Z) HN:=by
 refine⟨?_⟩;intro A R W σ s P U O S V;cases S;refine wpAny_Dict_empty ?_
 have h:=V.newId (o:={cls:=Value.type "dict",data:=Data.dict #[]}) rfl (ao:=.dict []) ⟨[],fun Y=>?_,rfl,rfl⟩ s.toks
 .exact⟨_,h.1,oa V rfl,h.2⟩
 .exact⟨#[],0,⟨rfl,rfl,rfl⟩,rfl,fun _ Q=>by simp at Q,.nil,rX⟩
noncomputable def xr(Z:List PV)(n:Nat):List PV:=(List.replicate n Z).flatten
noncomputable def Cz(o q:PV):ER:=ES (fun i=>oq (fun n=>zJ i fun Z σ=>if 0<=n/\n<2^20/\Z.length*n.toNat<=2^20 then some (.loc σ.nx,{σ with st:=(σ.nx,.list (xr Z n.toNat))::σ.st,nx:=σ.nx+1})else none) q) o
theorem aP.rep{Y:List PV}{Z:List Value}(h:aP W Y Z):∀n,aP W (xr Y n) (List.replicate n Z).flatten
 |0=>rfl
 |n+1=>by
  unfold xr;rw [oU,oU,fy,fy];exact h.append (aP.rep h n)
theorem Pb:bH T b (binaryOp .Mult) Cz:=by
 intro X A R W σ s p q u v j D d Y I x y;refine pP Y x fun i Y f=>eV Y y fun n t Y=>EA Y fun E e g Y=>gU Y fun H Y=>bx Y ?_
 obtain⟨Z,m,O,Q,w⟩:=dG I e;have P:Z.size*n.toNat<=2^20:=by rw [w];exact H.2.2
 refine wpAny_binaryOp_repeat_ref (T:="list") (U:="int") (by decide) ⟨_,O,rfl⟩ (fun B=>zp B n t) noFill_list_mul F.fills_int_mul Gb repeat_list F.slot_int_index.lookup
  (kK Gb (zp s n t) F.entry_int_rmul (F.args_int_rmul_2 _ _) (int___rmul___int_list n t (W.ρ i) Z m)
   ⟨O,rfl,⟨_,O,rfl⟩,kK F.slot_list_mul ⟨_,O,rfl⟩ F.entry_list_mul (F.args_list_mul_2 _ _)
    (AutoListH.list___mul___list_int_3 (W.ρ i) Z m n t (by simp [Builtin.List.listFitsIndex];exact⟨gW 0x401000000000000000074b501020014a021 rfl H.1,gW 0x80000000000000003a40848400080000192042421 rfl H.2.1⟩) (by exact(fun C=>aH 0xfffffffffffffff3842000400000c000022 rfl P C)) (by simp [Builtin.List.listTooLong,sizeLine];exact aH 0x4000000c00002000400000c000021 rfl P))
    ⟨O,?_⟩⟩)
 have h:=I.newId (o:={cls:=.type "list",data:=.seq (List.foldl (fun M N=>M++N) #[] (List.replicate (if Z.isEmpty=true then 0 else n.toNat) Z))}) rfl (ao:=.list (xr E n.toNat)) ⟨_,_,rfl,?_⟩ s.toks
 .exact⟨_,h.1,oa I rfl,h.2⟩
 .refine aP.mono (Wd.add_ext W _) ?_
  have G:∀(k:Nat) (V:Array Value),(List.foldl (fun M N=>M++N) V (List.replicate k Z)).toList=V.toList++(List.replicate k Z.toList).flatten:=by
   intro k
   induction k with
   |zero=>intro V;simp
   |succ k z=>intro V;rw [oU,Bg,z,oU,fy,IT,iH]
  rw [G]
  by_cases S:Z.isEmpty=true
  .rw [aC S]
   have l:Z.toList=[]:=by simpa using S
   have r:E=[]:=by
    have:=Q.length;rw [l]at this
    exact List.eq_nil_of_length_eq_zero this
   subst r;have:xr [] n.toNat=[]:=by unfold xr;simp
   rw [this];rfl
  .rw [aF S]
   simpa using Q.rep n.toNat
noncomputable def qt(fo U V:ER)(g:PV->PV->ER):SR:=fS fo fun o=>fS U fun k=>fS (aO o k) fun Y=>fS V fun v=>fS (g Y v) fun new σ=>(bt o k new σ).bind fun Z=>some (.next,Z)
theorem dc.augSub{o i S:Expr}{v z8:Pos}{op:Operator}{fo fi fv:ER}{g:PV->PV->ER}(ho:aN T b X o fo)(hi:aN T b X i fi)(hv:aN T b X S fv)(hg:bH T b (inplaceOp op) g)
  (z9:∀ov iv new,augStore i ov iv new=(do holding [new,ov,iv] (setItem ov iv new);release [new,ov,iv] [];pure .next):=by intro _ _ _;rfl):
  dc T b X (.AugAssign (.Subscript o i v) op S z8) (qt fo fi fv g):=by
 refine⟨?_⟩;intro A R W σ s a y9 hA Y hr;obtain⟨m,U,z2,Y⟩:=aS Y;obtain⟨n,F,z1,Y⟩:=aS Y;obtain⟨p,G,z0,Y⟩:=aS Y;obtain⟨N,V,c,Y⟩:=aS Y;obtain⟨q,H,d,Y⟩:=aS Y;obtain⟨z7,e,Y⟩:=py.mp Y;cases Y;refine wpAny_AugAssign_SubscriptAny (aI (ho.1 A R W σ s m U hA z2 hr) fun z6 y3 r f I y=>?_) z9;refine aI (hi.1 A R z6 U r n F hA z1 y) fun y8 y2 y6 O M z=>?_
 obtain⟨_,_,_,_,y0⟩:=nN (A:=A) z0 z (I.mono O.ext) M;refine aI y0 fun z5 w t P j B=>?_
 refine aI (hv.1 A R z5 G t N V hA c B) fun z4 x u Z k C=>?_
 refine aI (hg X A R z4 V u p N w x q H hA d C (j.mono Z.ext) k) fun y7 y1 y5 Q l D=>?_
 exact bG (nC D e (I.mono (((O.trans P).trans Z).trans Q).ext) (M.mono ((P.trans Z).trans Q).ext) l) (fun _ y4 ⟨z3,h,E⟩=>⟨z3,((((f.trans O).trans P).trans Z).trans Q).trans h,rfl,E⟩) ar
noncomputable def nH(o k:PV):ER:=ES (fun i=>oq (fun n=>zJ i fun Z σ=>if -(2^62)<=n/\n<2^62 then(seqIndex? n Z.length).bind fun j=>some (.none,{σ with st:=av σ.st i (.list (Z.eraseIdx j))})else none) k) o
noncomputable def ju(fo Z:ER):SR:=fS fo fun o=>fS Z fun k=>fS (nH o k) fun _ σ=>some (.next,σ)
theorem dc.delSub{o i:Expr}{O x:Pos}{fo d:ER}(u:aN T b X o fo)(g:aN T b X i d):dc T b X (.Delete [.Subscript o i O] x) (ju fo d):=by
 refine⟨?_⟩;intro A R W σ s a c f P hr;obtain⟨H,Y,C,P⟩:=aS P;obtain⟨I,S,D,P⟩:=aS P;obtain⟨p,y,Z,P⟩:=aS P;cases P;refine wpAny_Delete (wpAny_deleteEach_cons (wpAny_delete_Subscript (aI (u.1 A R W σ s H Y f C hr) fun z q M E F Q=>?_)));refine aI (g.1 A R z Y M I S f D Q) fun B r N U G V=>?_
 refine pP Z (F.mono U.ext) fun i Z g=>eV Z G fun n t Z=>EA Z fun ps e hn Z=>gU Z fun hk Z=>dh Z fun j hj Z=>?_
 cases Z;obtain⟨vs,m,u,w,l⟩:=dG V e;refine wpAny_delItem_plain (items:=vs) (k:=j) ⟨m,u⟩ (Dl hk) (l▸hj) (fun h' hp hs=>?_) (by rw [l];exact bJ hn (by decide));obtain⟨n',v⟩:=hp;have h:=V.updId e hs v (ao:=.list (ps.eraseIdx j)) ⟨_,_,rfl,by rw [mo];exact w.eraseIdx _⟩ N.toks;exact wpAny_deleteEach_nil ⟨B,(E.trans U).trans h.1,rfl,h.2⟩
end
end
section
open PySem.Builtin
noncomputable def fU(T:TR)(S:BR)(f:ER)(V:Nat):Nat->IK->AS->Option AS
 |0,_,_=>none
 |n+1,k,U=>match gZ U k with
  |some (some (p,R))=>(match T p U with
   |some W=>(match S W with
    |some (true,Z)=>(match f Z with
     |some (q,X)=>(match aQ [.loc V,q] X with
      |some (_,Y)=>fU T S f V n R Y
      |none=>none)
     |none=>none)
    |some (false,Z)=>fU T S f V n R Z
    |none=>none)
   |none=>none)
  |some none=>some U
  |none=>none
theorem Gu(tg fs f acc w1_ w2_):fU tg fs f acc 0 w1_ w2_=(none):=rfl
theorem HR(V U f acc n k σ):fU V U f acc (n+1) k σ=(match gZ σ k with
  |some (some (p,T))=>(match V p σ with
   |some W=>(match U W with
    |some (true,Z)=>(match f Z with
     |some (q,X)=>(match aQ [.loc acc,q] X with
      |some (_,Y)=>fU V U f acc n T Y
      |none=>none)
     |none=>none)
    |some (false,Z)=>fU V U f acc n T Z
    |none=>none)
   |none=>none)
  |some none=>some σ
  |none=>none):=rfl
noncomputable def iw(n U:Nat)(X:AS->Option (IK×AS))(V:TR)(T:BR)(f:ER):ER:=fun W=>match X W with
 |some (k,Z)=>(match fU V T f Z.nx n k ⟨List.replicate U none,(Z.nx,.list [])::Z.st,Z.nx+1⟩with
  |some Y=>some (.loc Z.nx,⟨Z.loc,Y.st,Y.nx⟩)
  |none=>none)
 |none=>none
section
variable {T:Tp}{X:Cx}{R:Fz}{W:Wd}{σ:AS}{s:Shared}{b:Nat}{A:Around}
structure mv(T:Tp)(b:Nat)(X:Cx)(ifs:List Expr)(f:BR):Prop where
 go:
  ∀A R W σ s c σ',jb b A->f σ=some (c,σ')->cj T X R W σ s->
   wpAny (model T.prog T.w) A (forIn ifs true fun c r=>if r=true then do let ok <-isTrue c X.env (eval c X.env);pure (ForInStep.yield ok)else pure (ForInStep.yield r)) (fg T X R W s c σ') bf s
theorem mv.nil:mv T b X [] gG:=by
 refine⟨?_⟩;intro A R W σ s c Z U V Y;cases V;exact bo (fg.same (k:=s.toks) Y)
theorem mv.one{e:Expr}{f:BR}(h:fW T b X e f):mv T b X [e] f:=by
 refine⟨?_⟩;intro A R W σ s c Z Q S V;rw [qE];rw [aC rfl];refine aR (aR (bG (h.1 A R W σ s c Z Q S V) (fun v Y U=>?_) ar));refine bo ?_
 show wpAny _ _ (forIn [] v _) _ _ _;rw [HD];exact bo U
theorem sY{scope:Scope}{env:Env}(h:∀x∈scope.names,x.2=.free->(env.cells.lookup x.1).isSome=true):
  ∃V,closureFor scope env=pure V/\∀x a,(x,NameKind.free)∈scope.names->env.cells.lookup x=some a->V.lookup x=some a:=by
 have G:∀(Z:List (Str×NameKind)) (Q:List (Str×Addr)),(∀x∈Z,x.2=.free->(env.cells.lookup x.1).isSome=true)->(∀x a,env.cells.lookup x=some a->Q.lookup x=none\/Q.lookup x=some a)->
   ∃V,(forIn Z Q fun x r=>if x.2==NameKind.free then(do let a <-cellOf env x.1;pure (ForInStep.yield ((x.1,a)::r)):Sem (ForInStep (List (Str×Addr))))else pure (ForInStep.yield r))=pure V /\
    (∀x a,env.cells.lookup x=some a->V.lookup x=none\/V.lookup x=some a)/\(∀x a,env.cells.lookup x=some a->((x,NameKind.free)∈Z\/Q.lookup x=some a)->V.lookup x=some a):=by
  intro Z
  induction Z with
  |nil=>intro Q _ H;exact⟨Q,rfl,H,fun x a e q=>q.elim (fun q=>by cases q) id⟩
  |cons y Z w=>
   intro Q F H;obtain⟨y,k⟩:=y;rw [qE]
   by_cases D:k=.free
   .subst D
    have:=F (y,.free) (.head _) rfl;obtain⟨U,Y⟩:=Option.isSome_iff_exists.mp this;have C:cellOf env y=pure U:=by
     unfold cellOf;rw [Y]
    have B:∀x a,env.cells.lookup x=some a->((y,U)::Q).lookup x=none\/((y,U)::Q).lookup x=some a:=fun x a e=>by
     rw [cU]
     by_cases S:x=y
     .subst S
      rw [Y]at e;obtain rfl:=aZ e
      simp
     .have:(x==y)=false:=by simp [S]
      rw [this];exact H x a e
    obtain⟨V,I,z,M⟩:=w ((y,U)::Q) (fun x N=>F x (IX _ N)) B;refine⟨V,?_,z,fun x a e q=>?_⟩
    .simp only [qz,ja]
     rw [C];exact I
    .refine M x a e ?_
     by_cases S:x=y
     .subst S
      rw [Y]at e;obtain rfl:=aZ e
      right;rw [cU];simp
     .rcases q with q|q
      .rcases cN.mp q with q|q
       .cases q;exact absurd rfl S
       .exact .inl q
      .right
       rw [cU];have:(x==y)=false:=by simp [S]
       rw [this];exact q
   .have E:(k==NameKind.free)=false:=by simp [D]
    obtain⟨V,I,z,M⟩:=w Q (fun x N=>F x (IX _ N)) H;refine⟨V,?_,z,fun x a e q=>M x a e ?_⟩
    .rw [E,aF kD]
     exact I
    .rcases q with q|q
     .rcases cN.mp q with q|q
      .cases q;exact absurd rfl D
      .exact .inl q
     .exact .inr q
 obtain⟨V,I,_,M⟩:=G scope.names [] h (fun x a e=>.inl rfl);refine⟨V,?_,fun x a N e=>M x a e (.inl N)⟩;unfold closureFor;show(forIn scope.names [] _ >>= _)=_;have e:(forIn scope.names ([]:List (Str×Addr)) fun x r=>match x with|(P,O)=>if(O==NameKind.free)=true then(do let a <-cellOf env P;pure (ForInStep.yield ((P,a)::r)):Sem (ForInStep (List (Str×Addr))))else pure (ForInStep.yield r))=pure V:=I;rw [show(forIn scope.names ([]:List (Str×Addr)) _:Sem (List (Str×Addr)))=pure V from e];rfl
end
end
section
open PySem.Builtin
section
variable {T:Tp}{X:Cx}{R:Fz}{W:Wd}{σ:AS}{s:Shared}{b:Nat}{A:Around}
noncomputable def tD:Heap:={objs:=#[]}
theorem lf(a:Addr):tD.get? a=none:=by
 unfold tD Heap.get?;rfl
theorem cH.zero(W:Wd)(h:Heap):cH W tD W h:=⟨fun _ _ e=>e,fun _ _ e=>.inl e,bZ _,fun _ _=>rfl,fun b o e=>by rw [lf]at e;exact aW e⟩
noncomputable def UI(z:Fz)(W:Wd)(h:Heap)(U:Wd)(V:Heap):Prop:=∀Y Z,dC z Z->cH Y Z W h->cH Y Z U V
set_option tactic.hygienic true in
theorem tW{it:Value}{J:Wd->IK->Fz->Prop}(P:lR T b X A it J){z3 Z iter:Expr}{g:List Expr}{scope:Scope}{pos:Pos}{tg:TR}{fs:BR}{f:ER}(ht:dR T b X Z tg)(y5:mv T b X g fs)(hf:aN T b X z3 f)(hA:jb b A)
  {I:Nat} {a:Addr}:∀(n:Nat) (k:IK) (z:Fz) (W:Wd) (σ:AS) (s:Shared) (O:AS),
  fU tg fs f I n k σ=some O->J W k z->dp T X R W σ s z->bk W (.loc I) (.ref a)->
  codeAny (model T.prog T.w) A (.compLoop (.ListComp z3 [⟨Z,iter,g,0⟩] scope pos) 0 it (.ref a) X.env) (fun r t=>∃fl,r=.ok fl/\∃G,UI z W s.heap G t.heap/\bk G (.loc I) (.ref a)/\cj T X R G O t) s
 |0,_,_,_,_,_,_,h,_,_,_=>aW h
 |n+1,k,z,W,σ,s,O,h,hj,hl,z7=>by
  have hu:A.under (.compLoop (.ListComp z3 [⟨Z,iter,g,0⟩] scope pos) 0 it (.ref a) X.env)=A:=vV rfl;refine wb ?_
  rw [hu];show wpAny (model T.prog T.w) A ((compTurn (.ListComp z3 [⟨Z,iter,g,0⟩] scope pos) 0 it (.ref a) X.env).onRaise (fun x=>do noteFrame x X.env;theTreesLotGoes x)) _ _ s;refine uJ (bG (Q:=fun fin t=>match fin with
   |.done fl=>∃G,UI z W s.heap G t.heap/\bk G (.loc I) (.ref a)/\cj T X R G O t
   |.again c'=>c'.quiet=true/\codeAny (model T.prog T.w) A c' (fun r t=>∃fl,r=.ok fl/\∃G,UI z W s.heap G t.heap/\bk G (.loc I) (.ref a)/\cj T X R G O t) t) (E:=bf) ?_ (fun fin t h'=>?_) ar)
  .rw [compTurn_list]
   refine aR (iM ?_);simp only [Gu,HR]at h
   split at h
   .rename_i p k' z2
    refine aR (bG (P.step R W σ s k z p k' hA hj hl z2) (fun x y hx=>?_) ar);obtain⟨v,H,Y,rfl,hv,d,S,c⟩:=hx;have M:=z7.mono (c W tD (fun a o _=>lf a) (cH.zero W s.heap)).2.ext
    split at h
    .rename_i F x1
     refine aR (P.own R H σ y k' Y Z v _ _ d S ?_);refine aR (gt (ht.1 A (R.un Y) H σ y p v F hA x1 S.rel hv) fun y0 z5 l B=>?_);have x5:=S.go l B;have z0:=M.mono l.ext;have done {j:Wd} {V:AS} {N:Shared} (gg:cH H y.heap j N.heap) (D:cj T X (R.un Y) j V N) (h:fU tg fs f I n k' V=some O):
       codeAny (model T.prog T.w) A (.compLoop (.ListComp z3 [⟨Z,iter,g,0⟩] scope pos) 0 it (.ref a) X.env) (fun r t=>∃fl,r=.ok fl/\∃G,UI z W s.heap G t.heap/\bk G (.loc I) (.ref a)/\cj T X R G O t) N:=
      mt (tW P ht y5 hf hA n k' Y j V N O h (P.mono _ _ _ _ gg.ext d) (S.go gg D) (M.mono gg.ext)) fun r t ⟨fl,e,G,g',x3,x4⟩=>
       ⟨fl,e,G,fun y1 z6 hd hg=>let⟨y6,y4⟩:=c y1 z6 hd hg;g' y1 z6 y6 (y4.trans gg),x3,x4⟩
     split at h
     .rename_i U z1
      refine aR (fx (y5.1 A (R.un Y) y0 F z5 _ U hA z1 B) fun z9 z4 m C=>?_);simp only [ja]
      split at h
      .rename_i q i x0
       split at h
       .rename_i q' V y9
        refine aR (aR (aI (hf.1 A (R.un Y) z9 U z4 q i hA x0 C) fun x2 u y7 z8 hu y2=>?_));refine aR (aI (cg X A (R.un Y) x2 i y7 [.loc I,q] [.ref a,u] q' V hA y9 y2 ⟨_,_,rfl,z0.mono (m.trans z8).ext,_,_,rfl,hu,rfl⟩) fun j u' N y8 _ D=>?_);exact bo (bo ⟨rfl,done (((l.trans m).trans z8).trans y8) D h⟩)
       .exact aW h
      .exact aW h
     .rename_i U z1
      refine aR (fx (y5.1 A (R.un Y) y0 F z5 _ U hA z1 B) fun z9 z4 m C=>?_);simp only [vv,ma];exact bo ⟨rfl,done (l.trans m) C h⟩
     .exact aW h
    .exact aW h
   .rename_i z2
    refine aR (bG (P.done R W σ s k z hA hj hl z2) (fun x y hx=>?_) ar);obtain⟨H,rfl,y3,c⟩:=hx;obtain rfl:=aZ h;exact bo ⟨H,c,z7.mono (c W tD (fun a o _=>lf a) (cH.zero W s.heap)).ext,y3⟩
   .exact aW h
  .cases fin with
   |done fl=>exact⟨fl,rfl,h'⟩
   |again c'=>exact h'
theorem gQ.more{Z:Fz}{st:List (Nat×AO)}(h:gQ T R W st s)(U:∀a o,Z.h a=some o->s.heap.get? a=some o)(S:∀g x,Z.g g=some x->s.gens[g]?=some x)
  (O:∀i,i<W.n->Z.h (W.ρ i)=none) (Q:∀P∈T.tabs,Z.h P=none):gQ T Z W st s:=
 ⟨h.top,h.hF,U,S,h.trk,fun i Y=>let⟨a,_,c⟩:=h.fre i Y;⟨a,O i Y,c⟩,h.inj,fun P V=>let⟨a,_,c⟩:=h.tabs P V;⟨a,Q P V,c⟩,h.bare,h.os,h.sysm⟩
noncomputable def dM(X:Cx)(Z:Scope)(vars:List Str)(Y:List (Str×Nat))(V:List (Str×Addr))(L:Addr):Cx:=⟨compEnvC Z V L X.env,vars,Y⟩
theorem zO{Z:Scope}{vars:List Str}{cvn:List (Str×Nat)}{cl:List (Str×Addr)}{nv:Nat}{z:Fz}(I:dp T X R W σ s z)(w:∀x a,(x,NameKind.free)∈Z.names->X.env.cells.lookup x=some a->cl.lookup x=some a)
  (y:∀x∈cvn,x∈X.cv/\(x.1,NameKind.free)∈Z.names) {O:Heap} (D:O.Ns s.heap.objs.size (fun x=>([]:List (Str×Value)).reverse.lookup x)) {N:Obj} (F:Heap.SameBut s.heap.objs.size (s.heap.push N) O) (k:Nat):
  ∃S,s.heap.get? X.env.locals=some S/\dp T (dM X Z vars cvn cl s.heap.objs.size) (R.un (iQ X.env.locals S)) W ⟨List.replicate nv none,σ.st,σ.nx⟩ {s with heap:=O,toks:=k} z/\(∀c o,s.heap.get? c=some o->O.get? c=some o):=by
 have V:=I.rel;obtain⟨m,hm,_⟩:=V.l.m;obtain⟨S,_,_,M,_⟩:=id hm;have keep:∀c o,s.heap.get? c=some o->O.get? c=some o:=fun c o e=>F.extBut c o (gn (bL e)) (dU _ e)
 have E:=aJ.mp V.l.nR;have U:∀a o,((R.un (iQ X.env.locals S)).un z).h a=some o->(a=X.env.locals/\o=S)\/(R.un z).h a=some o:=fun a o e=>by
  rcases bw.mp e with e|⟨n,e⟩
  .exact .inr (bw.mpr (.inl e))
  .rcases bw.mp e with e|⟨_,e⟩
   .obtain⟨rfl,rfl⟩:=cy.mp e;exact .inl ⟨rfl,rfl⟩
   .exact .inr (bw.mpr (.inr ⟨n,e⟩))
 have Q:∀a o,((R.un (iQ X.env.locals S)).un z).h a=some o->s.heap.get? a=some o:=fun a o e=>by
  rcases U a o e with⟨rfl,rfl⟩|e
  .exact M
  .exact V.r.hR a o e
 have Y:∀a,(R.un z).h a=none->a≠X.env.locals->((R.un (iQ X.env.locals S)).un z).h a=none:=fun a e C=>by
  have:=aJ.mp e;exact aJ.mpr ⟨this.1,aJ.mpr ⟨dE.mpr C,this.2⟩⟩
 refine⟨S,M,⟨⟨?_,⟨⟨_,D,fun i x p _ f=>?_⟩,?_,?_,?_,?_,?_⟩,V.nx⟩,I.nF,fun a o e=>?_,fun g x e=>?_⟩,keep⟩
 .refine(gQ.ext (σ:=⟨[],σ.st,0⟩) (s':={s with heap:=O,toks:=k}) V.r keep rfl rfl).more (fun a o e=>keep a o (Q a o e)) (fun g x e=>?_) (fun i H=>Y _ (V.r.fre i H).2.1 (V.l.ρ i H)) (fun P G=>Y _ (V.r.tabs P G).2.1 fun q=>V.l.t (q▸G))
  refine V.r.hG g x ?_
  rcases co.mp e with e|⟨n,e⟩
  .exact co.mpr (.inl e)
  .rcases co.mp e with e|⟨_,e⟩
   .exact aW e
   .exact co.mpr (.inr ⟨n,e⟩)
 .rw [kI]at f;exact aW f
 .exact aX V.r.hF (bZ _)
 .cases q:((R.un (iQ X.env.locals S)).un z).h (dM X Z vars cvn cl s.heap.objs.size).env.locals with
  |none=>rfl
  |some o=>exact absurd (bL (Q _ o q)) (eG _)
 .intro G
  obtain⟨_,_,ps,u,_⟩:=V.r.tabs _ G;exact absurd (bL u) (eG _)
 .intro i H e
  obtain⟨_,_,_,o,v⟩:=V.r.fre i H;exact absurd (bL v) (by rw [e];exact eG _)
 .intro j x i hj
  obtain⟨h1,h2⟩:=y (x,i) (ic hj);obtain⟨d,B⟩:=qQ h1
  obtain⟨u,v⟩:=V.l.cv d x i B;exact⟨u,w x _ h2 v⟩
 .refine aJ.mpr ⟨dE.mpr fun q=>?_,I.nR a o e⟩
  have:=E.1;rw [<-q,e]at this
  cases this
 .have:=I.nG g x e
  show(none:Option GenState).or (R.g g)=none;rw [this];rfl
theorem zt{U:Scope}{vars:List Str}{O:List (Str×Nat)}{f:List (Str×Addr)}{N w:Obj}{C:Addr}{V:Wd}{Z σ₂:AS}{Y S:Shared}(h:cj T (dM X U vars O f C) (R.un (iQ X.env.locals N)) V Z Y)
  (Q:cj T X R W σ₂ S) (H:S.heap.get? X.env.locals=some N) (g:GK W V) (E:V.F X.env.locals=none) (G:Y.heap.get? C=some w):
  dp T X R V ⟨σ₂.loc,Z.st,Z.nx⟩ Y (iQ C w):=by
 have z:(R.un (iQ X.env.locals N)).h X.env.locals=some N:=bw.mpr (.inl (cy.mpr ⟨rfl,rfl⟩));have B:X.env.locals≠C:=fun q=>by have:=h.l.nR;rw [show(dM X U vars O f C).env.locals=C from rfl,<-q,z]at this;cases this
 have D:=aJ.mp h.l.nR;have hR:∀a o,R.h a=some o->Y.heap.get? a=some o:=fun a o e=>by
  by_cases u:a=X.env.locals
  .subst u;rw [Q.l.nR]at e;exact aW e
  .exact h.r.hR a o (bw.mpr (.inr ⟨dE.mpr u,e⟩))
 refine⟨⟨h.r.more (fun a o e=>?_) (fun g x e=>?_) (fun i M=>?_) (fun P k=>?_),?_,h.nx⟩,fun a o e=>?_,fun a o e=>?_,fun a o e=>by exact aW e⟩
 .rcases bw.mp e with e|⟨_,e⟩
  .obtain⟨rfl,rfl⟩:=cy.mp e;exact G
  .exact hR a o e
 .rcases co.mp e with e|⟨_,e⟩
  .exact aW e
  .exact h.r.hG g x (co.mpr (.inr ⟨rfl,e⟩))
 .exact aJ.mpr ⟨dE.mpr (h.l.ρ i M),(aJ.mp (h.r.fre i M).2.1).2⟩
 .exact aJ.mpr ⟨dE.mpr fun q=>h.l.t (q▸k),(aJ.mp (h.r.tabs P k).2.1).2⟩
 .obtain⟨m,c,d⟩:=Q.l.m
  refine⟨⟨m,c.at' fun o e=>?_,fun i x p I y=>let⟨v,h3,h4⟩:=d i x p I y;⟨v,h3,h4.mono g⟩⟩,E,aJ.mpr ⟨dE.mpr B,Q.l.nR⟩,Q.l.t,fun i M e=>?_,fun j x i hj=>?_⟩
  .rw [H]at e;obtain rfl:=aZ e
   exact h.r.hR _ _ z
  .have:=(h.r.fre i M).2.1
   rw [e,z]at this;cases this
  .obtain⟨I,y⟩:=Q.l.cv j x i hj
   exact⟨fj I g.n,by rw [g.ρ i I];exact y⟩
 .obtain⟨rfl,_⟩:=cy.mp e;exact h.l.nF
 .obtain⟨rfl,_⟩:=cy.mp e;exact D.2
end
end
section
open PySem.Builtin
section
variable {T:Tp}{X:Cx}{R:Fz}{W:Wd}{σ:AS}{s:Shared}{b:Nat}{A:Around}
noncomputable def CD(Z:Scope)(Y:List (Str×Nat))(V:List Nat):Bool:=
 decide (Z.kind=.function)&&Z.names.all (fun x=>!(x.2==.cell)&&(!(x.2==.local)||decide (Z.names.lookup x.1=some .local))&&(!(x.2==.free)||Y.any (fun y=>y.1==x.1))) &&
 (V.filterMap (Y[·]?)).all (fun x=>decide ((x.1,NameKind.free)∈Z.names))
theorem Fj{Z:Scope}{Y S:List (Str×Nat)}{P:List Nat}(U:P.filterMap (Y[·]?)=S)(h:CD Z Y P=true):
  Z.kind=.function/\(∀x∈Z.names,x.2≠.cell)/\(∀x∈Z.names,x.2=.local->Z.names.lookup x.1=some .local)/\(∀x∈Z.names,x.2=.free->∃i,(x.1,i)∈Y)/\(∀x∈S,x∈Y/\(x.1,NameKind.free)∈Z.names):=by
 unfold CD at h
 simp only [cR,dl,gJ,zW,mW,gp]at h
 obtain⟨⟨I,Q⟩,O⟩:=h;rw [U]at O
 refine⟨I,fun x V=>(Q x V).1.1,fun x V e=>?_,fun x V e=>?_,fun x V=>⟨?_,O x V⟩⟩
 .rcases(Q x V).1.2 with q|q
  .exact absurd e q
  .exact q
 .rcases(Q x V).2 with q|q
  .exact absurd e q
  .obtain⟨y,N,H⟩:=zS.mp q
   exact⟨y.2,by rw [<-oA H];exact N⟩
 .rw [<-U]at V
  obtain⟨j,_,M⟩:=List.mem_filterMap.mp V;exact ic M
set_option tactic.hygienic true in
theorem NB(n:Nat){t U iter:Expr}{y:List Expr}{Z:Scope}{H z5:Pos}{vars:List Str}{S:List (Str×Nat)}{z4:AS->Option (IK×AS)}{tg:TR}{fs:BR}{f:ER}{I:Option (Value->Sem Unit)}{Q:Value->Shared->Prop}
  (z9:iX T b X iter z4) {js:List Nat} (x2:js.filterMap (X.cv[·]?)=S) (hB:CD Z X.cv js=true) (hs:∀x,foldedSetIterable iter X.env x=pure x)
  (z1:∀L N,dR T b (dM X Z vars S N L) U tg/\mv T b (dM X Z vars S N L) y fs/\aN T b (dM X Z vars S N L) t f) (hA:jb b A) {pv:PV} {z3:AS}
  (hf:iw n vars.length z4 tg fs f σ=some (pv,z3)) (hr:cj T X R W σ s)
  (hQ:∀W' C oC v O,bk W' pv v->(∃m,O.heap.Ns C m)->dp T X R W' z3 O (iQ C oC)->dC (iQ C oC) s.heap->cH W s.heap W' O.heap->compPost (model T.prog T.w) A bf I Q v C (.ok .next) O):
  wpAny (model T.prog T.w) A (comprehension (.ListComp t [⟨U,iter,y,0⟩] Z H) Z X.env z5 (newList []) false (eval iter X.env) I) Q bf s:=by
 obtain⟨hk,x1,x0,x3,x4⟩:=Fj x2 hB;unfold iw at hf
 split at hf
 .rename_i k V y4
  split at hf
  .rename_i M y3
   cases hf;have u:∀x i,(x,i)∈X.cv->X.env.cells.lookup x=some (W.ρ i):=fun x i c=>by
    obtain⟨j,hj⟩:=qQ c
    exact(hr.l.cv j x i hj).2
   obtain⟨N,z0,x5⟩:=sY (scope:=Z) (env:=X.env) fun x c e=>by
    obtain⟨i,hi⟩:=x3 x c e;rw [u _ _ hi];rfl
   refine wpAny_comprehension_free rfl hs z0 hk x0 (bG (z9.1 A R W σ s k V hA y4 hr) (fun x x7 c=>bG c (fun it Y hp=>?_) ar) ar);obtain⟨J,d,z,P,hj,hl,hd,hg⟩:=hp;refine wpAny_newList ?_ (by decide)
   have hz:=hl.rel.newId (o:={cls:=.type "list",data:=.seq ([]:List Value).toArray}) rfl (ao:=.list []) ⟨_,_,rfl,rfl⟩ Y.toks;have B:=hl.go hz.1 hz.2;have y2:bk (d.add Y.heap.objs.size) (.loc V.nx) (.ref Y.heap.objs.size):=oa hl.rel rfl;refine vi x1 (fun x c=>by cases c) (fun z8 y9 y6=>?_) hk;obtain⟨oL,y7,D,keep⟩:=zO (vars:=vars) (cvn:=S) (cl:=N) (nv:=vars.length) B x5 x4 y9 y6 (Y.toks+0);show codeAny _ _ (.compStart _ _ _ _ (dM X Z vars S N (Y.heap.push {cls:=.type "list",data:=.seq ([]:List Value).toArray}).objs.size).env) _ _;obtain⟨b1,b2,b3⟩:=z1 (Y.heap.push {cls:=.type "list",data:=.seq ([]:List Value).toArray}).objs.size N;have z7:=tW (pos:=H) (iter:=iter) (scope:=Z) (P (dM X Z vars S N (Y.heap.push {cls:=.type "list",data:=.seq ([]:List Value).toArray}).objs.size)) b1 b2 b3 hA n k z _ _ _ M y3 (((P X).mono _ _ _ _ hz.1.ext hj)) D y2;have fin:codeAny (model T.prog T.w) A (.compLoop (.ListComp t [⟨U,iter,y,0⟩] Z H) 0 it (.ref Y.heap.objs.size) (dM X Z vars S N (Y.heap.push {cls:=.type "list",data:=.seq ([]:List Value).toArray}).objs.size).env)
     (compPost (model T.prog T.w) A bf I Q (.ref Y.heap.objs.size) (Y.heap.push {cls:=.type "list",data:=.seq ([]:List Value).toArray}).objs.size) {Y with heap:=z8,toks:=Y.toks+0}:=by
    refine mt z7 fun r O ⟨fl,e,g,p,hv,G⟩=>?_
    subst e;have g1:=p W s.heap (fun a o e=>hd a o e) ((hg.trans hz.1).trans (cH.keep keep));have gx:=(p (d.add Y.heap.objs.size) tD (fun a o _=>lf a) (cH.zero _ _)).ext;obtain⟨z6,E,_⟩:=G.l.m;have x6:∃o,s.heap.get? X.env.locals=some o:=by
     obtain⟨m,hm,_⟩:=hr.l.m;obtain⟨o,_,_,ho,_⟩:=hm;exact⟨o,ho⟩
    obtain⟨oC,_,_,y8,_⟩:=id E;have y1:=zt (σ₂:={V with st:=(V.nx,.list [])::V.st,nx:=V.nx+1}) G B.out y7 gx (by
     cases q:g.F X.env.locals with
     |none=>rfl
     |some o=>
      rcases g1.fr _ o q with q'|q'
      .rw [hr.l.nF]at q';exact aW q'
      .obtain⟨o',y0⟩:=x6
       rw [q']at y0;exact aW y0) y8
    have:=hQ g _ _ _ O hv ⟨z6,E⟩ y1 (fun a o e=>by
     obtain⟨rfl,rfl⟩:=cy.mp e;cases q:s.heap.get? (dM X Z vars S N (Y.heap.push {cls:=.type "list",data:=.seq ([]:List Value).toArray}).objs.size).env.locals with
     |none=>rfl
     |some x9=>
      obtain⟨x8,z2⟩:=(hg.trans hz.1).th _ _ q;exact absurd (bL z2) (eG _)) g1
    cases I<;>exact this
   refine codeAny_compStart_list fin ?_
   exact bG ((P _).self _ _ _ _ k z (fun y5 s'=>codeAny (model T.prog T.w) A (.compLoop (.ListComp t [⟨U,iter,y,0⟩] Z H) 0 y5 (.ref Y.heap.objs.size) (dM X Z vars S N (Y.heap.push {cls:=.type "list",data:=.seq ([]:List Value).toArray}).objs.size).env)
     (compPost (model T.prog T.w) A bf I Q (.ref Y.heap.objs.size) (Y.heap.push {cls:=.type "list",data:=.seq ([]:List Value).toArray}).objs.size) s') bf ((P X).mono _ _ _ _ hz.1.ext hj) D fin) (fun _ _ h=>h) ar
  .exact aW hf
 .exact aW hf
theorem aN.comp(n:Nat){S Y iter:Expr}{V:List Expr}{Z:Scope}{O:Pos}{vars:List Str}{cvn:List (Str×Nat)}{P:AS->Option (IK×AS)}{D:TR}{B:BR}{f:ER}
  (N:iX T b X iter P) {js:List Nat} (G:js.filterMap (X.cv[·]?)=cvn) (o:CD Z X.cv js=true)
  (U:∀L E,dR T b (dM X Z vars cvn E L) Y D/\mv T b (dM X Z vars cvn E L) V B/\aN T b (dM X Z vars cvn E L) S f)
  (w:∀x,foldedSetIterable iter X.env x=pure x:=by intro _;rfl):aN T b X (.ListComp S [⟨Y,iter,V,0⟩] Z O) (iw n vars.length P D B f):=by
 refine⟨?_⟩;intro A R W σ s j z l q u;show wpAny _ A (comprehension (.ListComp S [⟨Y,iter,V,0⟩] Z O) Z X.env _ (newList []) false (eval iter X.env) Option.none) _ _ s;refine NB n N G o w U l q u fun k C i v Q y H t p r=>?_
 obtain⟨m,H⟩:=H;refine⟨m,H,fun h M=>?_⟩;obtain⟨I,F⟩:=t.fin M.extBut Q.toks;exact⟨k,F W s.heap p r,y,I⟩
end
end
section
open PySem.Builtin
section
variable {T:Tp}{X:Cx}{R:Fz}{W:Wd}{σ:AS}{s:Shared}{b:Nat}{A:Around}
theorem aN.globV(V:bA X)(i:Nat){x:Str}{v:Value}{Z:Pos}{p:PV}(Q:∀W,bk W p v)(S:T.gl[i]?=some (x,v))(P:X.env.scope.names.lookup x=some .globalImplicit)(N:(x==("__debug__":Str))=false):
  aN T b X (.Name x Z) (ab p):=by
 refine⟨?_⟩;intro A R W σ s H U F O Y;cases O;obtain⟨G,I,M⟩:=Y.r.top.glob i x v S s.heap Y.r.hF;exact vJ V.kind P (GI (by rw [V.glob];exact I) M (aL.same' Y (Q W))) N
noncomputable def OQ:PV->Option (PV×PV)
 |.tup Z=>(match Z with
  |[p,q]=>some (p,q)
  |_=>none)
 |_=>none
theorem AN{r p q:PV}(h:OQ r=some (p,q)):r=.tup [p,q]:=by
 cases r with
 |tup Z=>cases Z with
  |nil=>exact aW h
  |cons p Z=>cases Z with
   |nil=>exact aW h
   |cons q Z=>cases Z with
    |nil=>cases h;rfl
    |cons _ _=>exact aW h
 |_=>exact aW h
noncomputable def nB(f:ER)(i j:Nat):SR:=fS f fun r σ=>(OQ r).bind fun z=>some (.next,{σ with loc:=pT (pT σ.loc j z.2) i z.1})
theorem dc.swap(d:bA X)(i j:Nat){x y:Str}{S:List Expr}{k:Nat}{V M:Pos}{Z:Expr}{f:ER}(h:aN T b X Z f)(hi:X.vars[i]?=some x)(hj:X.vars[j]?=some y)
  (h1:swapsWithSole [.Tuple S k V] Z (Pos.line M) X.env=pure false) (h2:swappedStores [.Tuple S k V] Z X.env=pure (some [x,y])):dc T b X (.Assign [.Tuple S k V] Z M) (nB f i j):=by
 refine⟨?_⟩;intro A R W σ s a z1 c H hr;obtain⟨r,Y,D,H⟩:=aS H;obtain⟨⟨p,q⟩,E,H⟩:=py.mp H;cases H;cases AN E;refine Assign_Tuple_swapped (names:=[x,y]) (aI (h.1 A R W σ s _ Y c D hr) fun B v Q F hv U=>?_) h1 h2;obtain⟨t,vs,n,rfl,hF,z⟩:=hv;obtain⟨u,w,hu,hp,hq⟩:=VR z;have I:vs=#[u,w]:=by apply Al.mp;rw [hu]
 subst I;refine wpAny_unpackItems_tuple (items:=#[u,w]) c.hnd ⟨_,U.r.hF _ _ hF,rfl,n,rfl⟩ fun h' hx=>?_
 have keep:∀b o,Q.heap.get? b=some o->h'.get? b=some o:=fun b o e=>hx b o (gn (bL e)) e
 have m:cj T X R B Y {Q with heap:=h'}:=U.ext keep rfl rfl;show wpAny _ _ (assignInOrder [bindName X.env y,bindName X.env x] [w,u]) _ _ _;refine zX (Hb (gt (ly d hj m hq) fun z0 g P N=>?_));refine zX (Hb (gt (ly d hi N (hp.mono P.ext)) fun C l G O=>?_));exact FI ⟨C,((F.trans (cH.keep keep)).trans P).trans G,rfl,O⟩
end
end
section
open PySem.Builtin
noncomputable def dS:List (Str×NameKind)->List Str
 |[]=>[]
 |(x,k)::r=>if k==.cell then x::dS r else dS r
theorem ii:∀(Z:List (Str×NameKind)) (n:Nat) (Y:List (Str×Addr)) (x:Str),x∉dS Z->(cellsFrom n Z Y).lookup x=Y.lookup x
 |[],_,_,_,_=>rfl
 |(y,k)::r,n,Y,x,h=>by
  unfold dS at h
  unfold cellsFrom
  by_cases X:(k==NameKind.cell)=true
  .rw [aC X]at h ⊢
   rw [cN,not_or]at h
   rw [ii r _ _ x h.2,cU];have:(x==y)=false:=by simp [h.1]
   rw [this]
  .rw [aF X]at h ⊢
   exact ii r _ _ x h
theorem jH:∀(Z:List (Str×NameKind)) (n:Nat) (X:List (Str×Addr)) (x:Str) (j:Nat),(dS Z).Nodup->(dS Z)[j]?=some x->(cellsFrom n Z X).lookup x=some (n+j)
 |[],_,_,_,_,_,h=>by simp [dS]at h
 |(y,k)::r,n,X,x,j,Y,h=>by
  unfold dS at h Y
  unfold cellsFrom
  by_cases W:(k==NameKind.cell)=true
  .rw [aC W]at h Y ⊢
   rw [mO]at Y
   cases j with
   |zero=>
    obtain rfl:=aZ h;rw [ii r _ _ _ Y.1,cU];simp
   |succ j=>
    rw [jH r (n+1) _ x j Y.2 (by simpa using h)]
    congr 1;exact bB (Ng) (Lj)
  .rw [aF W]at h Y ⊢
   exact jH r n X x j Y h
theorem tj(kindOf:Str->Option NameKind){x:Str}(W:kindOf x=some .local):∀(pn:List Str) (Z:List Value) (m:Str->Option Value),pn.Nodup->bindL kindOf (pn.zip Z) m x=((pn.zip Z).lookup x).or (m x)
 |[],Z,m,_=>by rfl
 |_::_,[],m,_=>by rfl
 |y::pn,v::Z,m,X=>by
  rw [mO]at X
  rw [sk];unfold bindL;rw [tj kindOf W pn Z _ X.2,cU]
  by_cases h:x=y
  .subst h
   have Y:(pn.zip Z).lookup x=none:=by
    rw [zo];intro p V;have:=Jx (show(p.1,p.2)∈pn.zip Z from V);simp only [uM,ne_eq,gp];intro e;exact X.1 (e▸this.1)
   rw [Y];simp [W]
  .have:(x==y)=false:=by simp [h]
   simp only [this]
   congr 1
   split
   .simp [h]
   .rfl
theorem tE(kindOf:Str->Option NameKind){x:Str}(W:kindOf x≠some .local):∀(pn:List Str) (Z:List Value) (m:Str->Option Value),pn.Nodup->bindC kindOf (pn.zip Z) m x=((pn.zip Z).lookup x).or (m x)
 |[],Z,m,_=>by rfl
 |_::_,[],m,_=>by rfl
 |y::pn,v::Z,m,X=>by
  rw [mO]at X
  rw [sk];unfold bindC;rw [tE kindOf W pn Z _ X.2,cU]
  by_cases h:x=y
  .subst h
   have Y:(pn.zip Z).lookup x=none:=by
    rw [zo];intro p V;have:=Jx (show(p.1,p.2)∈pn.zip Z from V);simp only [uM,ne_eq,gp];intro e;exact X.1 (e▸this.1)
   rw [Y];simp [W]
  .have:(x==y)=false:=by simp [h]
   simp only [this]
   congr 1
   split
   .rfl
   .simp [h]
section
variable {T:Tp}{R:Fz}{W:Wd}{s:Shared}{b:Nat}{A:Around}
theorem qh:∀{pn:List Str} {X:List PV} {Z:List Value},aP W X Z->∀{x:Str},match(pn.zip X).lookup x with|some p=>∃v,(pn.zip Z).lookup x=some v/\bk W p v|none=>(pn.zip Z).lookup x=none
 |[],X,Z,h,x=>by simp
 |_::_,[],Z,h,x=>by rw [show Z=[]from h];rfl
 |y::pn,p::X,Z,h,x=>by
  obtain⟨v,V,rfl,S,U⟩:=h;simp only [sk,cU]
  by_cases Y:x=y
  .subst Y
   simp only [qz];exact⟨v,rfl,S⟩
  .have:(x==y)=false:=by simp [Y]
   simp only [this];exact qh U
noncomputable def bK(T:Tp)(fd:FuncData)(O:List Value->Args)(pn:List Str)(X:Nat->List PV)(V:List AO):Prop:=
 ∀A R W s Q S os E,S.length+(X os.length).length=pn.length->aP W S Q->W.n=os.length->gQ T R W (gr 0 os) s->
  wpAny (model T.prog T.w) A (bindArgs fd (O Q)) (fun Z P=>∃U Y,cH W s.heap U P.heap/\Z=pn.zip Y/\aP U (S++X os.length) Y/\gQ T R U (gr 0 (os++V)) P/\U.n=(os++V).length) E s
theorem bK.dflt{fd:FuncData}{U:List Value->Args}{pn:List Str}{dps:List PV}{dvs:List Value}(S:∀W,aP W dps dvs)
  (h:∀Z:List Value,Z.length+dvs.length=pn.length->∀s:Shared,Frag.In T.K s.heap->BindsTo s fd (U Z) (pn.zip (Z++dvs))):bK T fd U pn (fun _=>dps) []:=by
 intro A R W s Z O os E P Y Q V;have X:=(S W).length;refine h Z (by rw [<-Y.length,<-X];exact P) s (fun a o e=>V.hF a o (V.top.kin a o e)) _ _ _ _ ⟨W,Z++dvs,cH.refl ..,rfl,Y.append (S W),by rw [lT];exact V,by rw [lT];exact Q⟩
theorem bK.plain{fd:FuncData}{Y:List Value->Args}{pn:List Str}
  (h:∀Z:List Value,Z.length=pn.length->∀s:Shared,Frag.In T.K s.heap->BindsTo s fd (Y Z) (pn.zip Z)):bK T fd Y pn (fun _=>[]) []:=
 bK.dflt (dvs:=[]) (fun _=>rfl) fun Z X s V=>by rw [lT];exact h Z (by simpa using X) s V
noncomputable def dw(pn Y X:List Str)(Z:List PV)(os:List AO):AS:=
 ⟨X.map (fun x=>(pn.zip Z).lookup x),gr 0 (os++Y.map fun x=>AO.cell ((pn.zip Z).lookup x)),(os++Y.map fun x=>AO.cell ((pn.zip Z).lookup x)).length⟩
noncomputable def cB(pn U V:List Str)(Z:Nat->List PV)(Y:List AO)(f:Nat->SR):bO:=fun X os=>if X.length+(Z os.length).length=pn.length then ie os.length (f (os++Y).length (dw pn U V (X++Z os.length) (os++Y)))else none
noncomputable def aV(Z:List Str)(n:Nat):List (Str×Nat):=Z.zip (List.range' n Z.length)
theorem Er{Y:List Str}{n j:Nat}{x:Str}{i:Nat}(h:(aV Y n)[j]?=some (x,i)):Y[j]?=some x/\i=n+j:=by
 unfold aV at h
 rw [List.getElem?_zip_eq_some]at h
 refine⟨h.1,?_⟩;have Z:=h.2;have X:j<Y.length:=by
  have:=(ig.mp Z).1
  simpa using this
 rw [List.getElem?_range' X]at Z
 have:n+1*j=i:=by simpa using Z
 exact bB (ci 0x100002100011002008c0010a21 rfl this) (ci 0x200400008011002008c0010821 rfl this)
theorem rj:∀{l:List (Option PV)} {i:Nat} {q:PV},fB l i=some q->l[i]?=some (some q)
 |[],_,_,h=>aW h
 |y::l,0,q,h=>by rw [show y=some q from h];rfl
 |y::l,i+1,q,h=>rj (l:=l) h
theorem aU.of_cells{fa:Addr}{fo:Obj}{fd:FuncData}{body:List Stmt}{pn Q vn:List Str}{mk:List Value->Args}{M:Nat->List PV}{I:List AO}{f:Nat->SR}
  (hK:T.K.lookup fa=some fo) (hd:fo.data=.func fd) (w8:fd.scope.isCoroutine=false) (y9:fd.scope.isGenerator=false) (hb:fd.body=.stmts body)
  (w6:fd.globals=mainGlobals) (v1:fd.builtins=builtinsNs) (w9:fd.closure=[])
  (v0:∀h:Heap,Frag.In T.K h->h.CodeRec fd.code fd.qualname)
  (y1:bK T fd mk pn M I)
  (hk:fd.scope.kind=.function) (x4:dS fd.scope.names=Q) (x3:Q.Nodup)
  (z7:∀x∈pn,fd.scope.names.lookup x=some .local\/(fd.scope.names.lookup x=some .cell/\x∈Q))
  (x5:∀x∈Q,fd.scope.names.lookup x≠some .local)
  (z3:∀x∈vn,fd.scope.names.lookup x=some .local) (y5:pn.Nodup)
  (y0:∀n L cs,bu T b ⟨pa fd.qualname fd.scope fa L fd.code cs,vn,aV Q n⟩ body (f n)):aU T (b+1) (.ref fa) mk (cB pn Q vn M I f):=by
 intro A R W s vs l os pv w0 ns hA hC v7 w3 hn h0;unfold cB at hC
 split at hC
 .rename_i y4
  obtain⟨a,p,x9,ef,v2,hex⟩:=EZ hC;have x6:∀s':Shared,FH W.F s'.heap->Frag.In T.K s'.heap:=fun s' h a o e=>h a o (h0.top.kin a o e)
  have w7:=h0.hF _ _ (h0.top.kin _ _ hK);refine zV (by have:=hA.dep;exact ci 0x80000422004210080010421 rfl this) w7 hd w8 y9 hb (v0 _ (x6 s h0.hF)) ?_
  refine bG (y1 A.in1 R W s vs l os _ y4 w3 hn h0) (fun v5 Z hq=>?_) (fun _ _ h=>h);obtain⟨Y,ws,x7,rfl,z2,N,H⟩:=hq;have w2:ws.length=pn.length:=by rw [<-z2.length,df,y4]
  have z8:((pn.zip ws).map (·.1))=pn:=rc w2.symm;have z9:∀{x:Str} {j:Nat},Q[j]?=some x->(cellsFrom (Z.heap.objs.size+1) fd.scope.names []).lookup x=some (Z.heap.objs.size+1+j):=fun{x j} D=>jH _ _ _ _ _ (x4▸x3) (x4▸D)
  rw [w9];refine wpAny_newFunctionEnv_cells hk (fun x m=>?_) (fun v4 z0 v6 d=>?_)
  .have w1:x.1∈pn:=by
    have:x.1∈(pn.zip ws).map (·.1):=ri m
    rwa [z8]at this
   rcases z7 x.1 w1 with h|⟨h,h'⟩
   .exact .inl h
   .refine .inr ⟨h,?_⟩
    obtain⟨j,D⟩:=qQ h'
    rw [z9 D];rfl
  obtain⟨⟨⟨E,tk,rfl⟩,y6,keep,_⟩,z,_,_⟩:=d;have u:FH Y.F E:=fun c o e=>keep c o (N.hF c o e)
  refine⟨N.top.nolim _ u,?_⟩;have hE:v4=pa fd.qualname fd.scope fa Z.heap.objs.size fd.code (cellsFrom (Z.heap.objs.size+1) fd.scope.names []):=by
   rw [z0,w6,v1];rfl
  rw [hE]at y6 z ⊢
  clear z0 hE
  let S:Wd:={Y with ρ:=fun i=>if i<Y.n then Y.ρ i else Z.heap.objs.size+1+(i-Y.n),n:=Y.n+Q.length}
  have X:∀i,i<Y.n->S.ρ i=Y.ρ i:=fun i O=>aC O
  have V:∀j,S.ρ (Y.n+j)=Z.heap.objs.size+1+j:=fun j=>by
   show(if Y.n+j<Y.n then _ else _)=_;rw [aF (by exact(fun u0=>bb 0x800010421 rfl u0))];congr 1;exact bB (ci 0x80000022004020800010821 rfl (aA (bb 0x200004000020 rfl))) (ci 0x200022004020800010a21 rfl (aA (bb 0x200004000020 rfl)))
  have U:∀i,i<S.n->i<Y.n\/∃j,j<Q.length/\i=Y.n+j:=fun i O=>by
   have y7:i<Y.n+Q.length:=O
   by_cases h:i<Y.n
   .exact .inl h
   .exact .inr ⟨i-Y.n,by exact gP 0x200c010800100c02104400804000422 rfl y7 (aA (pU h)),by exact bB (MN (aA (pU h))) (MW (aA (pU h)))⟩
  have B:GK Y S:=⟨fun _ _ e=>e,pF _ _,fun i O=>X i O⟩;have y8:cH Y Z.heap S E:=⟨fun _ _ e=>e,fun _ _ e=>.inl e,pF _ _,fun i O=>X i O,fun c o e=>⟨o,keep c o e⟩⟩;have x2:∀j,j<Q.length->∃x o,Q[j]?=some x/\E.get? (Z.heap.objs.size+1+j)=some o/\nM T.w S (.cell ((pn.zip (l++M os.length)).lookup x)) o:=fun j D=>by
   have m:Q[j]?=some Q[j]:=fC D
   obtain⟨o,ho,x1⟩:=z _ _ (z9 m);refine⟨_,o,m,ho,_,x1,?_⟩;have hz:=qh (pn:=pn) (z2.mono B) (x:=Q[j]);cases q:(pn.zip (l++M os.length)).lookup Q[j]with
   |none=>exact trivial
   |some p=>
    rw [q]at hz
    obtain⟨v,z5,z4⟩:=hz;refine⟨v,?_,z4⟩;rw [tE _ (x5 _ (pB D)) _ _ _ y5,z5];rfl
  have z6:cj T ⟨pa fd.qualname fd.scope fa Z.heap.objs.size fd.code (cellsFrom (Z.heap.objs.size+1) fd.scope.names []),vn,aV Q (os++I).length⟩ R S (dw pn Q vn (l++M os.length) (os++I)) {Z with heap:=E,toks:=tk}:=by
   refine⟨⟨N.top,u,fun c o e=>keep c o (N.hR c o e),N.hG,fun i ao e=>?_,fun i O=>?_,fun i j O D e=>?_,fun P hP=>?_,N.bare,N.os,fun i O=>?_⟩,⟨⟨_,y6,fun i x q m hq=>?_⟩,?_,?_,fun hP=>?_,fun i O e=>?_,fun j x i h=>?_⟩,?_⟩
   .have e':(gr 0 ((os++I)++Q.map fun x=>AO.cell ((pn.zip (l++M os.length)).lookup x))).lookup i=some ao:=e
    rw [gf]at e'
    by_cases O:i<(os++I).length
    .rw [tm O]at e'
     obtain⟨r,o,t,h4⟩:=N.trk i ao (by rw [gf];exact e');exact⟨fj r (pF _ _),o,by rw [X i r];exact keep _ _ t,h4.mono B⟩
    .rw [Bd (Ju O),jS]at e'
     obtain⟨x,m,v3⟩:=kN.mp e';have k:i-(os++I).length<Q.length:=(ig.mp m).1;obtain⟨y,o,hy,ho,w4⟩:=x2 _ k;rw [m]at hy;obtain rfl:=aZ hy
     have d:i=Y.n+(i-(os++I).length):=by rw [H];exact bB (MN (aA (pU O))) (MW (aA (pU O)))
     have w5:i<Y.n+Q.length:=by exact gP 0x100c021002100060108020840000422 rfl k d
     refine⟨w5,o,?_,v3▸w4⟩;rw [d,V];exact ho
   .rcases U i O with h|⟨j,D,rfl⟩
    .rw [X i h]
     obtain⟨r,t,h4,o,h5⟩:=N.fre i h;exact⟨r,t,h4,o,keep _ _ h5⟩
    .rw [V]
     obtain⟨_,o,_,ho,_⟩:=x2 j D;refine⟨aX N.hF (by exact(bb 0x1004200084000020 rfl)),aX N.hR (by exact(bb 0x1004200084000020 rfl)),fun hP=>?_,o,ho⟩;obtain⟨_,_,z1,t,_⟩:=N.tabs _ hP;have h9:@LT.lt Nat _ (Z.heap.objs.size+1+j) Z.heap.objs.size:=bL t;exact absurd h9 (by exact(fun u0=>bb 0x4010800210421 rfl h9))
   .have G:∀i,i<Y.n->Y.ρ i<Z.heap.objs.size:=fun i O=>by
     obtain⟨_,_,_,o,h5⟩:=N.fre i O;exact bL h5
    rcases U i O with h|⟨i',y7,rfl⟩<;>rcases U j D with h'|⟨j',v8,rfl⟩
    .rw [X i h,X j h']at e;exact N.inj i j h h' e
    .rw [X i h,V]at e
     have h7:@LT.lt Nat _ (Y.ρ i) Z.heap.objs.size:=G i h;rw [e]at h7
     exact absurd (show @LT.lt Nat _ (Z.heap.objs.size+1+j') Z.heap.objs.size from h7) (by exact(fun u0=>bb 0x4010800210421 rfl h7))
    .rw [V,X j h']at e
     have h7:@LT.lt Nat _ (Y.ρ j) Z.heap.objs.size:=G j h';rw [<-e]at h7
     exact absurd (show @LT.lt Nat _ (Z.heap.objs.size+1+i') Z.heap.objs.size from h7) (by exact(fun u0=>bb 0x4010800210421 rfl h7))
    .rw [V,V]at e
     have h8:@Eq Nat (Z.heap.objs.size+1+i') (Z.heap.objs.size+1+j'):=e;exact bB (gP 0x80300820180400880108002104010800210821 rfl h8) (gP 0x40300840180400880108002104010800210a21 rfl h8)
   .obtain⟨r,t,z1,h4,h5⟩:=N.tabs P hP
    exact⟨r,t,z1,keep _ _ h4,h5⟩
   .rcases U i O with h|⟨j,D,rfl⟩
    .rw [X i h];exact N.sysm i h
    .rw [V]
     obtain⟨a,o',r,t⟩:=N.top.big;have h5:@LT.lt Nat _ a Z.heap.objs.size:=bL (N.hF a o' r);have h4:@LT.lt Nat _ 1 a:=t;intro q;have q':@Eq Nat (Z.heap.objs.size+1+j) 1:=q;exact ci 0x1088010840210820004210840000423 rfl h5 h4 q'
   .have hz:=qh (pn:=pn) (z2.mono B) (x:=x)
    have y3:(vn.map fun x=>(pn.zip (l++M os.length)).lookup x)[i]?=some (some q):=by
     have:fB (vn.map fun x=>(pn.zip (l++M os.length)).lookup x) i=some q:=hq;exact rj this
    rw [jS,m]at y3
    have y2:(pn.zip (l++M os.length)).lookup x=some q:=by simpa using y3
    rw [y2]at hz
    obtain⟨v,z5,z4⟩:=hz;refine⟨v,?_,z4⟩;rw [tj _ (z3 x (ic m)) _ _ _ y5,z5];rfl
   .exact aX N.hF (bZ _)
   .exact aX N.hR (bZ _)
   .obtain⟨_,_,z1,t,_⟩:=N.tabs _ hP
    exact absurd (bL t) (eG _)
   .rcases U i O with h|⟨j,D,rfl⟩
    .rw [X i h]at e
     obtain⟨_,_,_,o,h4⟩:=N.fre i h;exact absurd (bL h4) (by rw [e];exact eG _)
    .rw [V]at e
     have e':@Eq Nat (Z.heap.objs.size+1+j) Z.heap.objs.size:=e;exact bb 0x4010800210821 rfl e'
   .obtain⟨r,rfl⟩:=Er h
    have k:j<Q.length:=(ig.mp r).1;rw [<-H];exact⟨by show _<Y.n+Q.length;exact ci 0x40200800100410840000421 rfl k,by rw [V];exact z9 r⟩
   .show(os++I++Q.map fun x=>AO.cell ((pn.zip (l++M os.length)).lookup x)).length=Y.n+Q.length
    rw [df,cW,H]
  refine AX (bG ((y0 (os++I).length Z.heap.objs.size _).1 (A.deeper _) R S _ _ a x9 (hA.deeper _) ef z6) (fun fl s' hp=>?_) ar);obtain⟨x8,g,x0,C⟩:=hp;have hg:cH W s.heap x8 s'.heap:=(x7.trans y8).trans g;show Ji T R W s pv (w0++ns) _ s';rcases v2 with rfl|⟨rfl,rfl⟩
  .obtain⟨v,rfl,hv⟩:=x0
   exact pA hex hn hg hv C
  .rw [show fl=.next from x0]
   exact pA hex hn hg Dz C
 .exact aW hC
end
end
section
open PySem.Builtin
section
variable {T:Tp}{X X':Cx}{R:Fz}{W:Wd}{σ:AS}{s:Shared}{b:Nat}{A:Around}
theorem pE{loc':List (Option PV)}(Y:cj T X R W σ s){Q:Heap}{F:Str->Option Value}{O:Obj}(D:Q.Ns s.heap.objs.size F)(E:Heap.SameBut s.heap.objs.size (s.heap.push O) Q)(k:Nat)
  (I:X'.env.locals=s.heap.objs.size) (M:∀(i:Nat) x p,X'.vars[i]?=some x->fB loc' i=some p->∃v,F x=some v/\bk W p v)
  (B:∀(j:Nat) x i,X'.cv[j]?=some (x,i)->i<W.n/\X'.env.cells.lookup x=some (W.ρ i)):
  ∃U,s.heap.get? X.env.locals=some U/\cj T X' (R.un (iQ X.env.locals U)) W ⟨loc',σ.st,σ.nx⟩ {s with heap:=Q,toks:=k}/\(∀c o,s.heap.get? c=some o->Q.get? c=some o):=by
 obtain⟨m,z,_⟩:=Y.l.m;obtain⟨U,_,_,N,_⟩:=id z;have keep:∀c o,s.heap.get? c=some o->Q.get? c=some o:=fun c o e=>E.extBut c o (gn (bL e)) (dU _ e)
 have V:∀a o,(R.un (iQ X.env.locals U)).h a=some o->(a=X.env.locals/\o=U)\/R.h a=some o:=fun a o e=>by
  rcases bw.mp e with e|⟨_,e⟩
  .obtain⟨rfl,rfl⟩:=cy.mp e;exact .inl ⟨rfl,rfl⟩
  .exact .inr e
 have S:∀a o,(R.un (iQ X.env.locals U)).h a=some o->s.heap.get? a=some o:=fun a o e=>by
  rcases V a o e with⟨rfl,rfl⟩|e
  .exact N
  .exact Y.r.hR a o e
 have Z:∀a,R.h a=none->a≠X.env.locals->(R.un (iQ X.env.locals U)).h a=none:=fun a e C=>aJ.mpr ⟨dE.mpr C,e⟩
 refine⟨U,N,⟨?_,⟨⟨F,by rw [I];exact D,M⟩,?_,?_,?_,?_,B⟩,Y.nx⟩,keep⟩
 .refine(gQ.ext (σ:=⟨[],σ.st,0⟩) (s':={s with heap:=Q,toks:=k}) Y.r keep rfl rfl).more (fun a o e=>keep a o (S a o e)) (fun g x e=>?_) (fun i H=>Z _ (Y.r.fre i H).2.1 (Y.l.ρ i H)) (fun P G=>Z _ (Y.r.tabs P G).2.1 fun q=>Y.l.t (q▸G))
  rcases co.mp e with e|⟨_,e⟩
  .exact aW e
  .exact Y.r.hG g x e
 .rw [I];exact aX Y.r.hF (bZ _)
 .rw [I]
  cases q:(R.un (iQ X.env.locals U)).h s.heap.objs.size with
  |none=>rfl
  |some o=>exact absurd (bL (S _ o q)) (eG _)
 .rw [I];intro G
  obtain⟨_,_,u,w,_⟩:=Y.r.tabs _ G;exact absurd (bL w) (eG _)
 .rw [I];intro i H e
  obtain⟨_,_,_,o,y⟩:=Y.r.fre i H;exact absurd (bL y) (by rw [e];exact eG _)
theorem pr{M:Obj}{V:Wd}{Z U:AS}{Y S:Shared}(h:cj T X' (R.un (iQ X.env.locals M)) V Z Y)
  (Q:cj T X R W U S) (N:S.heap.get? X.env.locals=some M) (g:cH W S.heap V Y.heap):
  cj T X R V ⟨U.loc,Z.st,Z.nx⟩ Y:=by
 have D:(R.un (iQ X.env.locals M)).h X.env.locals=some M:=bw.mpr (.inl (cy.mpr ⟨rfl,rfl⟩));have y:∀a o,R.h a=some o->Y.heap.get? a=some o:=fun a o e=>by
  by_cases E:a=X.env.locals
  .subst E;rw [Q.l.nR]at e;exact aW e
  .exact h.r.hR a o (bw.mpr (.inr ⟨dE.mpr E,e⟩))
 refine⟨h.r.more y (fun g x e=>h.r.hG g x (co.mpr (.inr ⟨rfl,e⟩))) (fun i H=>(aJ.mp (h.r.fre i H).2.1).2) (fun P w=>(aJ.mp (h.r.tabs P w).2.1).2),?_,h.nx⟩;obtain⟨m,B,C⟩:=Q.l.m;refine⟨⟨m,B.at' fun o e=>?_,fun i x p I G=>let⟨v,k,u⟩:=C i x p I G;⟨v,k,u.mono g.ext⟩⟩,?_,Q.l.nR,Q.l.t,fun i H e=>?_,fun j x i z=>?_⟩
 .rw [N]at e;obtain rfl:=aZ e
  exact h.r.hR _ _ D
 .cases q:V.F X.env.locals with
  |none=>rfl
  |some o=>
   rcases g.fr _ o q with O|O
   .rw [Q.l.nF]at O;exact aW O
   .rw [N]at O;cases O
 .have:=(h.r.fre i H).2.1
  rw [e,D]at this;cases this
 .obtain⟨I,G⟩:=Q.l.cv j x i z
  exact⟨fj I g.n,by rw [g.ρ i I];exact G⟩
noncomputable abbrev CF:=List PV->List (Nat×AO)->Nat->Option (PV×List (Nat×AO)×Nat)
noncomputable def pQ(T:Tp)(b:Nat)(p:PV)(F:CF):Prop:=
 ∀X A R W σ s a o fd S V U Z Y,jb b A->F S σ.st σ.nx=some (U,Z,Y)->cj T X R W σ s->bk W p (.ref a)->s.heap.get? a=some o->o.data=.func fd->aP W S V->
  wpAny (model T.prog T.w) A (runValue (.call (.ref a) ⟨V,[]⟩)) (aL T X R W s U ⟨σ.loc,Z,Y⟩) bf s
open Classical in
noncomputable def mj(V:PV)(F:CF)(fc:ER)(P:LR):ER:=fun σ=>match fc σ with
 |some (p,Y)=>(match P Y with
  |some (Q,Z)=>if p=V then(match F Q Z.st Z.nx with|some (q,U,S)=>some (q,⟨Z.loc,U,S⟩)|none=>none)else none
  |none=>none)
 |none=>none
noncomputable def NP:PV->Bool
 |.clo ..=>true
 |_=>false
theorem zH{p:PV}(h:NP p=true):∃U V Z S Y Q,p=.clo U V Z S Y Q:=by
 cases p with
 |clo=>exact⟨_,_,_,_,_,_,rfl⟩
 |_=>exact mU h
set_option tactic.hygienic true in
theorem aN.clo{f:Expr}{B:List Expr}{U:Pos}{V:PV}{F:CF}{fc:ER}{fs:LR}(hf:aN T b X f fc)(k:gD T b X B fs)(hF:pQ T b V F)(hp:NP V=true:=by rfl)(m:∀P,(starEach B P).any (·.1)=false:=by intro _;rfl)
  (i:∀P,eval (.Call f B [] U) P=(do callWith U (<-eval f P) [] (backTo U (starEach B P)) []):=by intro _;rfl):aN T b X (.Call f B [] U) (mj V F fc fs):=by
 refine⟨?_⟩;intro A R W σ s pv z1 h O hr;unfold mj at O
 split at O
 .rename_i p Y C
  split at O
  .rename_i d Z D
   split at O
   .rename_i n
    subst n
    split at O
    .rename_i q z2 z3 E
     cases O;rw [i];refine aR (aI (hf.1 A R W σ s p Y h C hr) fun y u I G hu N=>?_);have t:=hu;obtain⟨c,e,x,z0,w,cs,rfl⟩:=zH hp;obtain⟨_,a,o,rfl,l,z5,z6,pm,an,z7,ct,j,z4⟩:=hu;obtain⟨g,H⟩:∃fd,o.data=.func fd:=⟨_,j⟩;refine vr (o:=o) (fd:=g) (cV (cD (m _)) (bG (k.1 A R y Y I d Z U h D N) (fun vs M hq=>?_) ar));obtain⟨z,Q,v,S⟩:=hq;have ho:=S.r.hF _ _ (Q.F _ _ l);refine⟨⟨ho,H⟩,?_⟩;exact dB (G.trans Q) (hF X A R z Z M a o _ d vs _ _ _ h E S (t.mono Q.ext) ho H v)
    .exact aW O
   .exact aW O
  .exact aW O
 .exact aW O
noncomputable def fP(pn V:List Str)(f:SR):CF:=fun Y st U=>if Y.length=pn.length then
  (match f ⟨V.map (fun x=>(pn.zip Y).lookup x),st,U⟩with
   |some (.ret p,Z)=>some (p,Z.st,Z.nx)
   |some (.next,Z)=>some (.none,Z.st,Z.nx)
   |_=>none)else none
theorem wM{pn V:List Str}{f:SR}{Y:List PV}{st:List (Nat×AO)}{U:Nat}{r:PV×List (Nat×AO)×Nat}(h:fP pn V f Y st U=some r):
  Y.length=pn.length/\∃a Z,f ⟨V.map (fun x=>(pn.zip Y).lookup x),st,U⟩=some (a,Z)/\r.2=(Z.st,Z.nx)/\(a=.ret r.1\/a=.next/\r.1=.none):=by
 unfold fP at h
 split at h
 .rename_i S
  refine⟨S,?_⟩
  split at h
  .obtain rfl:=aZ h;exact⟨_,_,by assumption,rfl,.inl rfl⟩
  .obtain rfl:=aZ h;exact⟨_,_,by assumption,rfl,.inr ⟨rfl,rfl⟩⟩
  .exact aW h
 .exact aW h
theorem pQ.step{O V:Str}{U:Arguments}{Y:List Stmt}{Z:Scope}{G:List (Str×Nat)}{pn vn:List Str}{f:SR}
  (y9:Z.isCoroutine=false) (z1:Z.isGenerator=false)
  (t:∀(P:List Value) (z3:List (Str×Addr)) (M pm:Value) (an:Option Addr) (Q ct:Value),P.length=pn.length->bindArgs (fnX O V U Y Z z3 .none .none M pm an Q ct) ⟨P,[]⟩=pure (pn.zip P))
  (hk:Z.kind=.function) (w:∀x∈Z.names,x.2≠.cell) (y3:∀x∈pn,Z.names.lookup x=some .local) (y0:pn.Nodup) (y8:(G.map (·.1)).Nodup)
  (u:∀fa L cd cl,bu T b ⟨pa V Z fa L cd cl,vn,G⟩ Y f):pQ T (b+1) (.clo O V U Y Z G) (fP pn vn f):=by
 intro X A R W σ s a o fd ps P pv z4 z5 hA hF m hu ho hd D;obtain⟨hl,af,E,ef,z9,d⟩:=wM hF;obtain⟨x0,a',o',e,y7,x3,M,pm,an,Q,ct,x2,x1⟩:=hu;cases e;have y5:=m.r.hF _ _ y7;have C:P.length=pn.length:=by rw [<-D.length,hl]
 refine uU (zV (fd:=fnX O V U Y Z (G.map fun x=>(x.1,W.ρ x.2)) .none .none M pm an Q ct) (body:=Y) (by have:=hA.dep;exact ci 0x80000422004210080010421 rfl this) y5 x2 y9 z1 rfl (x1 _ m.r.hF) ?_);rw [t P _ M pm an Q ct C];refine bo ?_
 have S:((pn.zip P).map (·.1))=pn:=rc C.symm;refine vi w (fun x hx=>y3 x.1 (by
  have:x.1∈(pn.zip P).map (·.1):=ri hx
  rwa [S]at this)) (fun I z0 z8=>?_) hk
 have y6:∀x,(pn.zip P).reverse.lookup x=(pn.zip P).lookup x:=fun x=>by
  cases q:(pn.zip P).lookup x with
  |none=>
   rw [zo]at q ⊢
   intro p hp;exact q p (uh.mp hp)
  |some v=>
   have hm:(x,v)∈pn.zip P:=by
    clear z0 S C D
    revert q
    generalize pn.zip P=l;intro q
    induction l with
    |nil=>exact aW q
    |cons y l ih=>
     obtain⟨y1,y2⟩:=y;rw [cU]at q
     by_cases k:x=y1
     .subst k
      rw [qz,Option.some.injEq]at q
      subst q;exact .head _
     .have:(x==y1)=false:=by simp [k]
      rw [this]at q
      exact .tail _ (ih q)
   exact mB (by rw [Au,S];exact List.pairwise_reverse.mpr (y0.imp fun h=>nS h)) (uh.mpr hm)
 obtain⟨oL,y4,z,keep⟩:=pE (X':=⟨pa V Z a s.heap.objs.size Q (G.map fun x=>(x.1,W.ρ x.2)),vn,G⟩) (loc':=vn.map (fun x=>(pn.zip ps).lookup x)) m z0 z8 (s.toks+(pn.zip P).length) rfl (fun i x p h1 h2=>by
   have h3:=rj h2;rw [jS,h1]at h3
   have h4:(pn.zip ps).lookup x=some p:=by simpa using h3
   have hz:=qh (pn:=pn) D (x:=x);rw [h4]at hz
   obtain⟨v,z7,z6⟩:=hz;exact⟨v,by rw [y6];exact z7,z6⟩) (fun j x i hj=>by
   have hm:=ic hj;refine⟨x0 _ hm,?_⟩;show(G.map fun x=>(x.1,W.ρ x.2)).lookup x=_;exact mB (by rw [oB];exact y8) (iq.mpr ⟨(x,i),hm,rfl⟩))
 have n:FH W.F I:=fun c o e=>keep c o (m.r.hF c o e)
 refine⟨m.r.top.nolim _ n,?_⟩;show codeAny _ _ (.func Y (pa V Z a s.heap.objs.size Q (G.map fun x=>(x.1,W.ρ x.2)))) _ _;refine AX (bG ((u a s.heap.objs.size Q _).1 (A.deeper _) _ W _ _ af E (hA.deeper _) ef z) (fun fl s' hp=>?_) ar);obtain⟨N,g,z2,B⟩:=hp;have hg:cH W s.heap N s'.heap:=(cH.keep (W:=W) (h:=s.heap) (h':=I) keep).trans g;have H:=pr B m y4 hg;injection z9 with q1 q2
 rw [show z4=E.st from q1,show z5=E.nx from q2];rcases d with rfl|⟨rfl,hn⟩
 .obtain⟨v,rfl,hv⟩:=z2
  exact⟨N,hg,hv,H⟩
 .rw [show fl=.next from z2]
  refine⟨N,hg,?_,H⟩;rw [show pv=.none from hn];exact Dz
end
end
section
open PySem.Builtin
section
variable {T:Tp}{X:Cx}{R:Fz}{W:Wd}{σ:AS}{s:Shared}{b:Nat}{A:Around}
noncomputable def iJ:List (Str×NameKind)->List Str
 |[]=>[]
 |(x,k)::r=>if k==.free then x::iJ r else iJ r
theorem Ty:iJ []=([]):=rfl
theorem RX(x k r):iJ ((x,k)::r)=(if k==.free then x::iJ r else iJ r):=rfl
theorem sG{Z:Scope}{V:Env}{g:Str->Addr}(h:∀x∈iJ Z.names,V.cells.lookup x=some (g x)):closureFor Z V=pure ((iJ Z.names).reverse.map fun x=>(x,g x)):=by
 have O:∀(Y:List (Str×NameKind)) (Q:List (Str×Addr)),(∀x∈iJ Y,V.cells.lookup x=some (g x))->
   (forIn Y Q fun x r=>if x.2==NameKind.free then(do let a <-cellOf V x.1;pure (ForInStep.yield ((x.1,a)::r)):Sem (ForInStep (List (Str×Addr))))else pure (ForInStep.yield r))=pure (((iJ Y).reverse.map fun x=>(x,g x))++Q):=by
  intro Y
  induction Y with
  |nil=>intro Q _;rfl
  |cons y Y M=>
   intro Q S;obtain⟨y,k⟩:=y;rw [qE];unfold iJ at S ⊢
   by_cases I:(k==NameKind.free)=true
   .simp only [I,ja]at S ⊢
    have N:cellOf V y=pure (g y):=by
     unfold cellOf;rw [S y (.head _)]
    rw [N];have:=M ((y,g y)::Q) (fun x G=>S x (.tail _ G));rw [zv,lU,iH];exact this
   .simp only [I,vv,ma]at S ⊢
    exact M Q S
 have H:=O Z.names [] h;unfold closureFor;show(forIn Z.names [] _ >>= _)=_;have e:(forIn Z.names ([]:List (Str×Addr)) fun x r=>match x with|(U,P)=>if(P==NameKind.free)=true then(do let a <-cellOf V U;pure (ForInStep.yield ((U,a)::r)):Sem (ForInStep (List (Str×Addr))))else pure (ForInStep.yield r))=pure ((iJ Z.names).reverse.map fun x=>(x,g x)):=by rw [lT]at H;exact H
 rw [show(forIn Z.names ([]:List (Str×Addr)) _:Sem (List (Str×Addr)))=pure ((iJ Z.names).reverse.map fun x=>(x,g x))from e];rfl
noncomputable def sV(i:Nat)(p:PV):SR:=fun σ=>match σ.st.lookup i with|some (.cell _)=>some (.next,{σ with st:=av σ.st i (.cell (some p))})|_=>none
theorem cj.made(Y:cj T X R W σ s){P c':Addr}{oc fo:Obj}{d:Array Value}{V:Heap}(g:P∈T.tabs)(hx:Heap.ExtBut P s.heap V)(G:s.heap.objs.size<=c')(n:V.get? c'=some oc)(z4:fo.isFreed=false)
  (u:V.get? P=some (tabObj d)) (w:NW (T.tl P) ((W.fz c' oc).fz V.objs.size fo).F d) (k:Nat):
  cH W s.heap ((W.fz c' oc).fz V.objs.size fo) (V.push fo)/\cj T X R ((W.fz c' oc).fz V.objs.size fo) σ {s with heap:=V.push fo,toks:=k}:=by
 obtain⟨tF,tR,f,tO,tT⟩:=Y.r.tabs P g;have N:=bL n;have keep:∀a o,a≠P->s.heap.get? a=some o->(V.push fo).get? a=some o:=fun a o z3 e=>dU _ (hx a o z3 e)
 have O {F:Addr->Option Obj} (hF:F P=none):∀a o,F a=some o->a≠P:=fun a o e q=>by rw [q,hF]at e;exact aW e
 have B:s.heap.objs.size<=V.objs.size:=bJ G (iR N);have z6:W.F c'=none:=aX Y.r.hF G;have z5:(W.fz c' oc).F V.objs.size=none:=by
  show(if _=_ then _ else _)=_;rw [aF (sh N)];exact aX Y.r.hF B
 have z1:=Wd.fz_ext W (o:=oc) z6;have z0:=Wd.fz_ext (W.fz c' oc) (o:=fo) z5;have M:∀a o,W.F a=some o->((W.fz c' oc).fz V.objs.size fo).F a=some o:=fun a o e=>z0.F _ _ (z1.F _ _ e)
 have U:∀a o,((W.fz c' oc).fz V.objs.size fo).F a=some o->(a=V.objs.size/\o=fo)\/(a=c'/\o=oc)\/W.F a=some o:=fun a o e=>by
  by_cases Z:a=V.objs.size
  .subst Z
   have:some fo=some o:=by
    have z:(if V.objs.size=V.objs.size then some fo else(W.fz c' oc).F V.objs.size)=some o:=e
    rwa [aC rfl]at z
   obtain rfl:=aZ this;exact .inl ⟨rfl,rfl⟩
  .have z:(if a=V.objs.size then some fo else(W.fz c' oc).F a)=some o:=e
   rw [aF Z]at z
   have D:(if a=c' then some oc else W.F a)=some o:=z
   by_cases I:a=c'
   .rw [aC I]at D;obtain rfl:=aZ D;exact .inr (.inl ⟨I,rfl⟩)
   .rw [aF I]at D;exact .inr (.inr D)
 have S:∀a o,s.heap.get? a=some o->W.F a=none->((W.fz c' oc).fz V.objs.size fo).F a=none:=fun a o e hn=>by
  have H:=bL e;cases q:((W.fz c' oc).fz V.objs.size fo).F a with
  |none=>rfl
  |some y=>
   rcases U a y q with⟨Z,_⟩|⟨Z,_⟩|Z
   .rw [Z]at H;exact absurd H (kz.mpr B)
   .rw [Z]at H;exact absurd H (kz.mpr G)
   .rw [hn]at Z;exact aW Z
 have th:∀a o,s.heap.get? a=some o->∃y,(V.push fo).get? a=some y:=fun a o e=>by
  by_cases ha:a=P
  .subst ha;exact⟨_,dU _ u⟩
  .exact⟨o,keep a o ha e⟩
 refine⟨⟨M,fun a o e=>?_,bZ _,fun i hi=>rfl,th⟩,⟨?_,?_,Y.nx⟩⟩
 .rcases U a o e with⟨Z,_⟩|⟨Z,_⟩|Z
  .refine .inr ?_
   cases q:s.heap.get? a with
   |none=>rfl
   |some y=>have:=bL q;rw [Z]at this;exact absurd this (kz.mpr B)
  .refine .inr ?_
   cases q:s.heap.get? a with
   |none=>rfl
   |some y=>have:=bL q;rw [Z]at this;exact absurd this (kz.mpr G)
  .exact .inl Z
 .refine⟨Y.r.top.mono M,fun a o e=>?_,fun a o e=>keep a o (O tR a o e) (Y.r.hR a o e),Y.r.hG,fun i ao e=>?_,fun i hi=>?_,Y.r.inj,fun Q hQ=>?_,Y.r.bare,Y.r.os,Y.r.sysm⟩
  .rcases U a o e with⟨rfl,rfl⟩|⟨rfl,rfl⟩|Z
   .exact iI _ z4
   .exact dU _ n
   .exact keep a o (O tF a o Z) (Y.r.hF a o Z)
  .obtain⟨Z,o,I,E⟩:=Y.r.trk i ao e
   exact⟨Z,o,keep _ _ (fun q=>(Y.r.fre i Z).2.2.1 (q▸g)) I,E.mono ⟨M,bZ _,fun _ _=>rfl⟩⟩
  .obtain⟨Z,I,E,o,C⟩:=Y.r.fre i hi
   exact⟨S _ o C Z,I,E,o,keep _ _ (fun q=>E (q▸g)) C⟩
  .by_cases j:Q=P
   .subst j
    exact⟨S _ _ tO tF,tR,d,dU _ u,w⟩
   .obtain⟨Z,I,qs,E,C⟩:=Y.r.tabs Q hQ
    refine⟨S _ _ E Z,I,qs,keep _ _ j E,?_⟩;rcases C with C|⟨c,e,h5⟩
    .exact .inl C
    .exact .inr ⟨c,e,fun h hh=>h5 h fun a o z=>hh a o (M a o z)⟩
 .obtain⟨m,hm,hl⟩:=Y.l.m
  obtain⟨oL,_,_,z2,_⟩:=id hm;have z7:X.env.locals≠P:=fun q=>Y.l.t (q▸g)
  refine⟨⟨m,hm.at' fun o e=>keep _ o z7 e,fun i x p Z I=>let⟨v,E,C⟩:=hl i x p Z I;⟨v,E,C.mono ⟨M,bZ _,fun _ _=>rfl⟩⟩⟩,S _ oL z2 Y.l.nF,Y.l.nR,Y.l.t,Y.l.ρ,Y.l.cv⟩
set_option tactic.hygienic true in
theorem dc.defn(hX:bA X){V q:Str}{Z:Arguments}{U:List Stmt}{Y:Scope}{z0:Pos}(j i:Nat){P c:Addr}{cs:List (Str×Nat)}(hx:X.cv[j]?=some (V,i))(C:X.env.scope.names.lookup V=some .cell)
  (hP:P∈T.tabs) (E:X.env.code=.ref c) (y4:∀h:Heap,Frag.In T.K h->CodeHd h c P) (hq:qualnameIn X.env V V=q) (u:T.tl P=(z0.line,z0.col,q))
  (z7:cs.map (·.1)=(iJ Y.names).reverse) (y9:∀x∈cs,x∈X.cv) (x8:(cs.map (·.1)).Nodup)
  (hd:Z.defaults=[]) (y3:Z.kw_defaults=[]) (z8:annTrees Z none X.env=[]):
  dc T b X (.FunctionDef V Z U [] none [] Y none V z0) (sV i (.clo V q Z U Y cs)):=by
 refine⟨?_⟩;intro A R W σ s a x6 hA hf H;unfold sV at hf
 split at hf
 .rename_i x4 e
  cases hf;have S:∀x∈cs,X.env.cells.lookup x.1=some (W.ρ x.2)/\x.2<W.n:=fun x Q=>by
   obtain⟨j',z4⟩:=qQ (y9 x Q)
   exact⟨(H.l.cv j' x.1 x.2 z4).2,(H.l.cv j' x.1 x.2 z4).1⟩
  have D:closureFor Y X.env=pure (cs.map fun x=>(x.1,W.ρ x.2)):=by
   rw (occs:=.all) [sG (g:=fun x=>(X.env.cells.lookup x).getD 0) (fun x Q=>?_)]
   .congr 1
    rw (occs:=.all) [<-z7,oB];exact BN fun x Q=>by show(x.1,(X.env.cells.lookup x.1).getD 0)=_;rw (occs:=.all) [(S x Q).1];rfl
   .have:x∈cs.map (·.1):=by rw (occs:=.all) [z7];exact uh.mpr Q
    obtain⟨y,hy,rfl⟩:=iq.mp this;rw (occs:=.all) [(S y hy).1];rfl
  obtain⟨v,bm,ob,k,y8,y7,m,y6,y5,z6⟩:=H.r.top.bm s.heap H.r.hF;obtain⟨tF,tR,ps,tO,tT⟩:=H.r.tabs P hP;have x0:bm≠P:=fun q=>by rw [q,tF]at m;exact aW m
  have x2:mainGlobals≠P:=fun q=>by
   obtain⟨o,es,ep,e1,e2,_⟩:=k;rw [q,tO]at e1;cases e1;cases e2
  have x1:bm≠mainGlobals:=fun q=>by
   obtain⟨o,es,ep,e1,e2,_⟩:=k;have:=H.r.hF _ _ m;rw [q,e1]at this;cases this;rw [z6]at e2;cases e2
  have y0:s.heap.BuiltinsAt v P:=⟨bm,ob,y8,y7,x1,x0,H.r.hF _ _ m,y6,y5,z6⟩;have z9:=y4 s.heap fun a o e=>H.r.hF a o (H.r.top.kin a o e)
  refine nestDef_K hd y3 z8 ?_
  rw (occs:=.all) [hq];rcases tT with rfl|⟨z,rfl,N⟩
  .refine makeFunction_K (mg:=v) D hX.glob k E z9 tO trivial rfl x2 y0 fun G I M h' tk Q z5 x9 N y1=>?_
   obtain⟨x5,f,vs,t,e2,p,d,hv⟩:=N;cases e2;have hm:=H.made (P:=P) (c':=G) (oc:=f) (fo:=fnMade V q Z U Y (cs.map fun x=>(x.1,W.ρ x.2)) M ((v "__name__").getD .none) G I) hP Q z5 p rfl y1
    (.inr ⟨G,by rw (occs:=.all) [u];rfl,fun h hh=>⟨G,f,vs,t,rfl,hh _ _ (Wd.fz_ext (W.fz G f) (by
     show(if _=_ then _ else _)=_;rw (occs:=.all) [aF (sh (bL p))];exact aX H.r.hF (bJ z5 (iR (bL p)))) |>.F _ _ (by show(if _=_ then _ else _)=_;rw (occs:=.all) [aC rfl])),d,by rw (occs:=.all) [u];exact hv⟩⟩) tk
   have x3:((W.fz G f).fz h'.objs.size (fnMade V q Z U Y (cs.map fun x=>(x.1,W.ρ x.2)) M ((v "__name__").getD .none) G I)).F G=some f:=by
    show(if _=_ then _ else _)=_;rw (occs:=.all) [aF (gn (bL p))];show(if _=_ then _ else _)=_;rw (occs:=.all) [aC rfl]
   have z1:bk ((W.fz G f).fz h'.objs.size (fnMade V q Z U Y (cs.map fun x=>(x.1,W.ρ x.2)) M ((v "__name__").getD .none) G I)) (.clo V q Z U Y cs) (.ref h'.objs.size):=
    ⟨fun x Q=>(S x Q).2,_,_,rfl,by show(if _=_ then _ else _)=_;rw (occs:=.all) [aC rfl],rfl,_,_,_,_,_,rfl,fun h hh=>⟨G,f,vs,t,rfl,hh _ _ x3,d,hv⟩⟩
   exact gt (mq hX hx C hm.2 e z1) fun w z2 B O=>⟨w,hm.1.trans B,rfl,O⟩
  .refine makeFunction_hit (mg:=v) D hX.glob k E z9 tO (by exact trivial) (cv:=.ref z) (by rw (occs:=.all) [u];simp [codeAmong,rawInt]) y0 fun I M h' tk z3 x7=>?_
   have y2:cj T X R W σ {s with heap:=h',toks:=tk}:=H.ext z3 rfl rfl;have hm:=y2.newF (o:={cls:=Value.type "function",data:=Data.func (fnX V q Z U Y (cs.map fun x=>(x.1,W.ρ x.2)) .none .none M ((v "__name__").getD .none) none (.ref z) I)}) rfl tk;have z1:bk (W.fz h'.objs.size {cls:=Value.type "function",data:=Data.func (fnX V q Z U Y (cs.map fun x=>(x.1,W.ρ x.2)) .none .none M ((v "__name__").getD .none) none (.ref z) I)}) (.clo V q Z U Y cs) (.ref h'.objs.size):=
    ⟨fun x Q=>(S x Q).2,_,_,rfl,hm.2.1,rfl,_,_,_,_,_,rfl,fun h hh=>by rw [u]at N;exact N h fun a o q'=>hh a o (hm.1.F a o q')⟩
   exact gt (mq hX hx C hm.2.2 e z1) fun w z2 B O=>⟨w,((cH.keep z3).trans hm.1).trans B,rfl,O⟩
 .exact aW hf
end
end
section
open PySem.Builtin
section
variable {T:Tp}{X:Cx}{R:Fz}{W:Wd}{σ:AS}{s:Shared}{b:Nat}{A:Around}
inductive To(a:Addr)(W:Wd)(k:IK)(z:Fz):Prop
 |mk(i j:Nat)(ek:k=.rev i j)(hi:i<W.n)(o:Obj)(ez:z=iQ a o)(hio:RM "list_reverseiterator" #[.ref (W.ρ i),.int ((j:Int)-1) 0] o)
set_option tactic.hygienic true in
theorem tr(a:Addr):lR T b X A (.ref a) (To a) where
 mono:=fun W W' k z g h=>by
  obtain⟨i,j,c,S,o,e,Z⟩:=h;exact⟨i,j,c,fj S g.n,o,e,by rw [g.ρ _ S];exact Z⟩
 step:=fun R W σ s k z p k' y U V Y=>by
  obtain⟨i,j,rfl,S,o,rfl,Z⟩:=U;cases j with
  |zero=>cases Y
  |succ j=>
   refine dh (show(dN (σ.st.lookup i)).bind _=_ from Y) fun t e Y=>?_
   obtain⟨q,w,Y⟩:=kN.mp Y;cases Y;obtain⟨_,ol,I,u,n,rfl,N⟩:=V.rel.r.trk i _ (gC e);obtain⟨x,f,O⟩:=N.get w;refine wpAny_pyNext_rev_item (it:=a) (l:=W.ρ i) (i:=j) (items:=u) (x:=x) ⟨o,V.here,Z.1,by rw [Z.2,show((j+1:Nat):Int)-1=j from by exact ce (KH) (KN)];rfl⟩ ⟨_,I,rfl,n,rfl⟩ (by simpa using f) fun d G M=>?_
   obtain⟨m,H,D,F⟩:=G;obtain⟨B,C⟩:=V.upd M H s.toks;exact⟨x,W,_,rfl,O,⟨i,j,rfl,S,m,rfl,D,F⟩,B,C⟩
 done:=fun R W σ s k z y U V Y=>by
  obtain⟨i,j,rfl,S,o,rfl,Z⟩:=U;cases j with
  |succ j=>
   refine dh (show(dN (σ.st.lookup i)).bind _=_ from Y) fun t e Y=>?_
   obtain⟨q,w,Y⟩:=kN.mp Y;cases Y
  |zero=>
   refine wpAny_pyNext_rev_end y.hnd (it:=a) (l:=W.ρ i) ⟨o,V.here,Z.1,by rw [Z.2];rfl⟩ fun d M=>?_
   obtain⟨B,C⟩:=V.fin M s.toks;exact⟨W,rfl,B,C⟩
 own:=fun R W σ s k z P v Q E U V h=>by
  obtain⟨i,j,rfl,S,o,rfl,Z⟩:=U;exact gV V.here Z.1 Z.2 (by decide) h
 self:=fun R W σ s k z Q E U V h=>by
  obtain⟨i,j,rfl,S,o,rfl,Z⟩:=U;exact wpAny_pyIter_revIter (it:=a) (l:=W.ρ _) (i:=_) ⟨o,V.here,Z.1,Z.2⟩ h
noncomputable def Oc:PV->Option Nat
 |.loc i=>some i
 |_=>none
theorem AJ{p:PV}{i:Nat}(h:Oc p=some i):p=.loc i:=by
 cases p with
 |loc j=>obtain rfl:=(aZ h).symm;rfl
 |_=>exact aW h
noncomputable def vZ(f:ER):AS->Option (IK×AS):=fS f fun p σ=>(Oc p).bind fun i=>(dN (σ.st.lookup i)).bind fun Z=>some (.rev i Z.length,σ)
theorem iX.rev{F e:Expr}{U:Pos}{f:ER}(g:aN T b X F (ab (.val (.type "reversed"))))(h:aN T b X e f)(q:∀V,starEach [e] V=[(false,eval e V)]:=by intro _;rfl)
  (D:∀V,eval (.Call F [e] [] U) V=(do callWith U (<-eval F V) [] (backTo U (starEach [e] V)) []):=by intro _;rfl):iX T b X (.Call F [e] [] U) (vZ f):=by
 refine⟨?_⟩;intro A R W σ s k x y P o;obtain⟨p,E,H,P⟩:=aS P;refine dh P fun i d P=>dh P fun B I P=>?_
 cases P;cases AJ d;rw [D,q];refine aR (aI (g.1 A R W σ s _ σ y rfl o) fun G u O M r Q=>?_);rw [show u=.type "reversed" from r];refine Bh rfl (uX (rH (aI (h.1 A R G σ O _ _ y H Q) fun S v Z N t Y=>qT ?_)));obtain⟨j,rfl⟩:=t;obtain⟨C,n,m,w,l⟩:=dG Y (gC I);refine call_reversed_list (items:=C) ⟨_,m,rfl,n,rfl⟩ ?_
 have z:To Z.heap.objs.size S (.rev i B.length) (iQ Z.heap.objs.size (revObj (S.ρ i) ((C.size:Int)-1))):=⟨i,B.length,rfl,j,_,rfl,rfl,by rw [<-l];rfl⟩;exact(tr (b:=b) Z.heap.objs.size).self _ _ _ _ _ _ _ _ z (dp.new Y rfl Z.toks).1 (kx.new (M.trans N) Y rfl (fun X=>tr Z.heap.objs.size) z)
noncomputable def lV:SR:=fun _=>none
theorem dc.dead{st:Stmt}:dc T b X st lV:=⟨fun _ _ _ _ _ _ _ _ h _=>by exact aW h⟩
theorem bu.dead{st:List Stmt}:bu T b X st lV:=⟨fun _ _ _ _ _ _ _ _ h _=>by exact aW h⟩
noncomputable def SF:SR:=fun σ=>some (.ret .none,σ)
theorem dc.retNone{Z:Pos}:dc T b X (.Return none Z) SF:=by
 refine⟨?_⟩;intro A R W σ s a Y S U V;cases U;exact wpAny_Return_none ⟨W,cH.refl ..,⟨_,rfl,rfl⟩,V⟩
end
end
section
open PySem.Builtin
section
variable {prog:Program}{w:World}{A:Around}{E:Value->Shared->Prop}{s:Shared}
theorem pk{a:Addr}{g n:Nat}{gs:GenState}{P:Nat->Shared->Shared->Prop}{Y:Protocol}{Q:Option Value->Shared->Prop}(C:A.handled=none)
  (D:s.heap.NoLimit) (V:A.depth<recursionLimit)
  (O:s.heap.IsGen a g) (S:s.gens[g]?=some gs)
  (U:gs.Goes (model prog w) A.in1 (fun n X r Z=>r=.ok (.ret .none)/\P n X Z) Y n (.send .none) (s.setGen g .running))
  (B:∀v Z W,W.bare=true->Y (n-1) (s.setGen g .running) v Z (fun I R=>match n with
    |0=>False
    |m+1=>W.Goes (model prog w) A.in1 (fun n X r Z=>r=.ok (.ret .none)/\P n X Z) Y m I R)->Q (some v) (Z.setGen g W))
  (z:∀Z,P n (s.setGen g .running) Z->∀M,(∀b o,Z.heap.get? b=some o->M.get? b=some o)->Q none {Z.setGen g .finished with heap:=M}):
  wpAny (model prog w) A (pyNext (.ref a)) Q E s:=by
 unfold pyNext;refine aR (wpAny_attempt (wpAny_callSpecial?_slot (name:=Str.ofString "__next__") O.typeIs slot_gen_next
  (Ar slot_gen_next O.typeIs entry_gen_next ?_ (args_gen_next _))))
 show wpAny _ _ (Builtin.Generator.genWake (.ref a) (.send .none)) _ _ s;unfold Builtin.Generator.genWake;refine aR (gI (wpAny_genNumber O (aR (wpAny_genState S ?_))));cases gs with
 |running=>exact U.elim
 |finished=>exact U.elim
 |_=>
  refine aR (wpAny_roomToWake D V ?_);show wpAny _ _ (.resume g (.send .none) [] _) _ _ s;refine wpAny_resumeQ S U (fun x Z H=>?_) (fun v Z W N G=>?_)
  .obtain⟨rfl,F⟩:=H
   show wpAny _ _ (newExc (.type "StopIteration") [] >>= _) _ _ _;refine aR ?_
   simp only [newExc,newTuple];refine aR (FW ?_ (by size_fits));refine aR (m:=firstArgMember _ _) (kT (a:=Value.none) (by first|rfl|(simp only [firstArgMember];rfl)) ?_);refine FW ?_ (by size_fits)
   dsimp only [raiseNew];refine aR (aR (wpAny_handled ?_));rw [show A.in1.handled=none from C];refine wpAny_throw ?_
   refine aR (wpAny_isInstance (T:="StopIteration") (b:=true) ⟨_,iI _ rfl,rfl⟩ isSubtype_stop ?_);exact bo (z Z F _ fun b o N=>dU _ (dU _ N))
  .exact bo ⟨v,rfl,bo (B v Z W N G)⟩
end
section
variable {M:Model}{A:Around}{R:GenEnd}{Y:Protocol}{n:Nat}{s₀:Shared}{c:Code}{fs:List Frame}{s:Shared}{env:Env}
 {K:Flow->Sem Fin} {H:Value->Sem Fin} {gd:Bool->Bool} {lv:List Value->List Value}
theorem jr{W X:Type}{m:Sem W}{f:W->Sem X}{K:X->Sem Fin}
  (h:wpAny M (A.over c fs) m (fun a Z=>Seg M A R Y n s₀ c ((f a).wrap K H gd lv) fs Z) (fun x Z=>Seg M A R Y n s₀ c (H x) fs Z) s):
  Seg M A R Y n s₀ c ((m >>= f).wrap K H gd lv) fs s:=by
 rw [vx,rO];exact BL h
theorem Bl{X:Expr}{W Z:List Stmt}{U:Pos}
  (h:wpAny M (A.over c fs) (isTrue X env (eval X env)) (fun b V=>if b=true then Seg M A R Y n s₀ c ((execs W env).wrap K H gd lv) fs V else Seg M A R Y n s₀ c ((execs Z env).wrap K H gd lv) fs V)
   (fun x V=>Seg M A R Y n s₀ c (H x) fs V) s):Seg M A R Y n s₀ c ((exec (.If X W Z U) env).wrap K H gd lv) fs s:=by
 rw [exec_If];show Seg M A R Y n s₀ c (.at U fun _=>(isTrue X env (eval X env) >>= fun b=>if b=true then execs W env else execs Z env).wrap K H gd lv) fs s;refine seg_at ?_
 rw [vx,rO];refine BL (bG h (fun b V T=>?_) fun _ _ x=>x);cases b with
 |true=>rw [aC rfl]at T ⊢;exact T
 |false=>rw [aF kD]at T ⊢;exact T
theorem se{st:Stmt}(h:wpAny M (A.over c fs) (exec st env) (fun f Z=>Seg M A R Y n s₀ c (K f) fs Z) (fun x Z=>Seg M A R Y n s₀ c (H x) fs Z) s):
  Seg M A R Y n s₀ c ((exec st env).wrap K H gd lv) fs s:=BL h
theorem ML{Z iter:Expr}{W X:List Stmt}{P:Pos}(N:∀x,foldedSetIterable iter env x=pure x)
  (h:wpAny M (A.over c fs) (eval iter env) (fun x U=>wpAny M (A.over c fs) (pyIter x) (fun O V=>∀p,Seg M A R Y n s₀ (.forLoop Z O W X env) (M.den (.forLoop Z O W X env))
   (.ret (fun r=>((match r with|.ok f=>(.pure f:Sem Flow)|.error e=>.raise e).onRaise fun(x:Value)=>do
    if(<-field x 1)==Value.none then unsupported "frame.own-activation:exception-without-traceback"
    setFlight x env.frame).wrap K H gd lv) none (gd false) (lv []) c p []::fs) V) (fun x Q=>Seg M A R Y n s₀ c (H x) fs Q) U) (fun x Q=>Seg M A R Y n s₀ c (H x) fs Q) s):
  Seg M A R Y n s₀ c ((exec (.For Z iter W X P) env).wrap K H gd lv) fs s:=by
 rw [exec_For];refine jr (iM (jr (bG h (fun x U S=>?_) fun _ _ x=>x)));rw [N];refine jr (bo (jr (iM (jr (gI (bG S (fun O V T=>?_) fun _ _ x=>x))))));exact seg_call T
end
section
variable {prog:Program}{w:World}{A:Around}{R:GenEnd}{Y:Protocol}{n:Nat}{s₀:Shared}{fs:List Frame}{s:Shared}{env:Env}
noncomputable def Ol(c:Code):Flow->Sem Fin
 |.next|.cont=>.pure (.again c)
 |.brk=>.pure (.done .next)
 |.ret v=>.pure (.done (.ret v))
noncomputable def rx(env:Env)(e:Value):Sem Fin:=(do noteFrame e env;theTreesLotGoes e:Sem Unit).wrap (fun _=>.raise e) .raise id id
theorem pq{Z:Expr}{V:Value}{W X:List Stmt}
  (h:wpAny (model prog w) (A.over (.forLoop Z V W X env) fs) (pyNext V) (fun r U=>match r with
   |none=>Seg (model prog w) A R Y n s₀ (.forLoop Z V W X env) (.pure (.again (.block X env))) fs U
   |some v=>wpAny (model prog w) (A.over (.forLoop Z V W X env) fs) (letOwnedTupleGo Z V v) (fun _ S=>wpAny (model prog w) (A.over (.forLoop Z V W X env) fs) (assign Z env v)
     (fun _ T=>Seg (model prog w) A R Y n s₀ (.forLoop Z V W X env) ((execs W env).wrap (Ol (.forLoop Z V W X env)) (rx env) id id) fs T) bf S) bf U) bf s):
  Seg (model prog w) A R Y n s₀ (.forLoop Z V W X env) ((model prog w).den (.forLoop Z V W X env)) fs s:=by
 show Seg _ A R Y n s₀ _ ((forTurn Z V W X env).onRaise (fun x=>do noteFrame x env;theTreesLotGoes x)) fs s;rw [FL];unfold forTurn;refine jr (iM (jr (uz (bG h (fun r U Q=>?_) ar))));cases r with
 |none=>exact Q
 |some v=>
  refine jr (bG Q (fun _ S O=>jr (bG O (fun _ T P=>?_) ar)) ar);rw [vx,rO];rw [Io (execs W env) _ _ (K':=Ol (.forLoop Z V W X env)) (H':=rx env) (fun f=>by cases f<;>rfl)
   (fun e=>by unfold rx;first|exact AW _ _|(show(do noteFrame e env;theTreesLotGoes e:Sem Unit).bind (fun _=>.raise e)=_;rw [AW]))]
  exact P
theorem Fm{Z:List Stmt}(h:Seg (model prog w) A R Y n s₀ (.block Z env) ((execs Z env).wrap (fun f=>.pure (.done f)) (rx env) id id) fs s):
  Seg (model prog w) A R Y n s₀ (.block Z env) ((model prog w).den (.block Z env)) fs s:=by
 show Seg _ A R Y n s₀ _ (((execs Z env).onRaise (fun x=>do noteFrame x env;theTreesLotGoes x)) >>= fun f=>pure (.done f)) fs s;rw [FL,vx,rO];refine cast (bv (fun t=>Seg (model prog w) A R Y n s₀ (.block Z env) t fs s) (Io (execs Z env) _ _ (fun f=>rfl) (fun e=>?_))) h;unfold rx;rw [AW,rO];rfl
end
end
section
open PySem.Builtin
section
variable {T:Tp}{X:Cx}{R:Fz}{W:Wd}{σ:AS}{s s' s₀:Shared}{b:Nat}{A:Around}
noncomputable def Tp.nt(T:Tp):Tp:={T with tabs:=[]}
noncomputable def base(F:Addr->Option Obj):Wd:=⟨F,fun _=>0,0⟩
structure dk(os:OsState)(own:List Addr)(s₀ s₁:Shared):Prop where
 heap:∀a o,a∉own->s₀.heap.get? a=some o->s₁.heap.get? a=some o
 gens:∀(g:Nat) x,s₀.gens[g]?=some x->s₁.gens[g]?=some x
 bare:AllBare s₁.gens
 os:s₁.os=os
theorem dk.trans{os:OsState}{V:List Addr}{s₀ Y Z:Shared}(a:dk os V s₀ Y)(c:dk os V Y Z):dk os V s₀ Z:=
 ⟨fun x o h e=>c.heap x o h (a.heap x o h e),fun g x e=>c.gens g x (a.gens g x e),c.bare,c.os⟩
structure jN(T:Tp)(F:Addr->Option Obj)(own:List Addr)(s:Shared):Prop where
 top:ki T F
 hF:FH F s.heap
 none:∀a∈own,F a=none
 bare:AllBare s.gens
 os:s.os=T.os
theorem jN.go{F:Addr->Option Obj}{Y:List Addr}{Z:Shared}(h:jN T F Y s)(g:dk T.os Y s Z):jN T F Y Z:=
 ⟨h.top,fun a o e=>g.heap a o (fun V=>by rw [h.none a V]at e;exact aW e) (h.hF a o e),h.none,g.bare,g.os⟩
theorem ki.nt{F:Addr->Option Obj}(h:ki T F):ki T.nt F:=⟨h.kin,h.glob,h.blt,h.nolim,h.big,h.bm⟩
theorem Vn{F:Addr->Option Obj}{Z:List Addr}{loc:List (Option PV)}(h:jN T F Z s)(S:X.env.locals∈Z)(V:X.cv=[])(Q:∃m,s.heap.Ns X.env.locals m/\∀(i:Nat) x p,X.vars[i]?=some x->fB loc i=some p->∃v,m x=some v/\bk (base F) p v):
  cj T.nt X (fu s Z) (base F) ⟨loc,[],0⟩ s:=
 {r:={top:=h.top.nt,hF:=h.hF,hR:=fun a o e=>(eo.mp e).2,hG:=fun g x e=>e,trk:=(fun i O e=>by exact aW e),fre:=fun i Y=>absurd Y (ix i),inj:=fun i j Y=>absurd Y (ix i),tabs:=(fun P U=>by cases U),bare:=h.bare,os:=h.os,sysm:=fun i Y=>absurd Y (ix i)}
  l:={m:=Q,nF:=h.none _ S,nR:=il S,t:=(fun U=>by cases U),ρ:=fun i Y=>absurd Y (ix i),cv:=(fun j x i e=>by rw [V]at e;trivial)}
  nx:=rfl}
theorem wX{Z:List Addr}(h:cj T.nt X (fu s Z) W σ s'):dk T.os Z s s':=
 ⟨fun a o Y e=>h.r.hR a o (eo.mpr ⟨Y,e⟩),fun g x e=>h.r.hG g x e,h.r.bare,h.r.os⟩
noncomputable def ff:Nat->Bool->List Nat->List PV
 |_,_,[]=>[]
 |i,true,c::Z=>.tup [.int i,.str ⟨#[92,c]⟩]::ff (i+1) false Z
 |i,false,c::Z=>if c=92 then ff (i+1) true Z else .tup [.int i,.str ⟨#[c]⟩]::ff (i+1) false Z
theorem lp(w1_ w2_):ff w1_ w2_ []=([]):=rfl
theorem li(i c cs):ff i true (c::cs)=(.tup [.int i,.str ⟨#[92,c]⟩]::ff (i+1) false cs):=rfl
theorem lA(i c cs):ff i false (c::cs)=(if c=92 then ff (i+1) true cs else .tup [.int i,.str ⟨#[c]⟩]::ff (i+1) false cs):=rfl
noncomputable def cE:Bool->List Nat->Bool
 |e,[]=>e
 |true,_::Z=>cE false Z
 |false,c::Z=>cE (c==92) Z
inductive TU(T:Tp)(F:Addr->Option Obj)(own:List Addr)(its:List PV)(n:Nat)(s₀:Shared)(v:Value)(s₁:Shared)(kap:Resume->Shared->Prop):Prop
 |mk(ps:List PV)(a:Addr)(vs:Array Value)(k:Nat)(h1:its[its.length-1-n]?=some (.tup ps))(h2:v=.ref a)(h3:s₁.heap.get? a=some {cls:=.type "tuple",data:=.seq vs k})(h4:a∉own)
  (h5:F a=some {cls:=.type "tuple",data:=.seq vs k}\/s₀.heap.get? a=none) (h6:aP (base F) ps vs.toList) (h7:dk T.os own s₀ s₁) (h8:∀c∈own,∃o,s₁.heap.get? c=some o)
  (h9:∀s'',(∀c∈own,∀o,s₁.heap.get? c=some o->s''.heap.get? c=some o)->jN T F own s''->kap (.send .none) s'')
noncomputable def sN(T:Tp)(F:Addr->Option Obj)(Z:List Addr)(Y:List PV):Protocol:=TU T F Z Y
noncomputable def Fe(T:Tp)(Y:List Addr):GenEnd:=fun n s₀ r Z=>r=.ok (.ret .none)/\(n=0/\dk T.os Y s₀ Z)
noncomputable def mF:PV->Bool
 |.int _|.str _|.bool _|.none=>true
 |_=>false
theorem bk.plain{W Y:Wd}{p:PV}{v:Value}(Z:mF p=true)(h:bk W p v):bk Y p v:=by
 cases p<;>first|exact h|exact mU Z
theorem aP.plain{W P:Wd}:∀{Y:List PV} {Z:List Value},Y.all mF=true->aP W Y Z->aP P Y Z
 |[],Z,_,h=>h
 |p::Y,Z,U,h=>by
  rw [List.all_cons,cR]at U
  obtain⟨v,V,e,Q,S⟩:=h;exact⟨v,V,e,Q.plain U.1,aP.plain U.2 S⟩
noncomputable def eR(x:Str)(Z:Int)(esc:Bool)(Y:Option Str):List (Option PV):=[cS x,cI Z,some (.bool esc),Y.map .str]
structure ga(T:Tp)(X:Cx)(F:Addr->Option Obj)(own:List Addr)(x:Str)(pv:Int)(esc:Bool)(ch:Option Str)(s:Shared):Prop where
 base:jN T F own s
 loc:∃m,s.heap.Ns X.env.locals m/\∀(j:Nat) y p,X.vars[j]?=some y->fB (eR x pv esc ch) j=some p->∃v,m y=some v/\bk (Mine.base F) p v
structure jV(e it:Addr)(x:Str)(t:Tok)(i:Nat)(s:Shared):Prop where
 en:∃old,IsEnum s.heap e it i old
 si:s.heap.IsStrIter it "str_ascii_iterator" x t i
theorem jV.keep{e Z:Addr}{x:Str}{t:Tok}{i:Nat}(h:jV e Z x t i s)(U:∀o,s.heap.get? e=some o->s'.heap.get? e=some o)(V:∀o,s.heap.get? Z=some o->s'.heap.get? Z=some o):jV e Z x t i s':=
 ⟨let⟨Y,S⟩:=h.en;⟨Y,U _ S⟩,let⟨o,P,Q⟩:=h.si;⟨o,V _ P,Q⟩⟩
theorem jN.sub{F:Addr->Option Obj}{Y Z:List Addr}(h:jN T F Y s)(V:∀a∈Z,a∈Y):jN T F Z s:=⟨h.top,h.hF,fun a U=>h.none a (V a U),h.bare,h.os⟩
theorem dk.sub{os:OsState}{Y Z:List Addr}(h:dk os Y s s')(V:∀a∈Y,a∈Z):dk os Z s s':=⟨fun a o U e=>h.heap a o (fun S=>U (V a S)) e,h.gens,h.bare,h.os⟩
theorem gR{x:Str}{Y:Int}{esc:Bool}{Z:Option Str}{j:Nat}{p:PV}(h:fB (eR x Y esc Z) j=some p):mF p=true:=by
 unfold eR at h
 match j,h with
 |0,h=>cases h;rfl
 |1,h=>cases h;rfl
 |2,h=>cases h;rfl
 |3,h=>
  cases Z with
  |none=>exact aW h
  |some c=>cases h;rfl
 |j+4,h=>exact aW h
theorem ga.rel{F:Addr->Option Obj}{Z:List Addr}{x:Str}{V:Int}{esc:Bool}{U:Option Str}(h:ga T X F Z x V esc U s)(Q:X.env.locals∈Z)(Y:X.cv=[]):
  cj T.nt X (fu s [X.env.locals]) (Mine.base F) ⟨eR x V esc U,[],0⟩ s:=
 Vn (h.base.sub fun a S=>by rw [cJ.mp S];exact Q) (cJ.mpr rfl) Y h.loc
theorem ga.of{F:Addr->Option Obj}{Z:List Addr}{x:Str}{Y:Int}{esc:Bool}{U:Option Str}(P:jN T F Z s)(N:X.env.locals∈Z)(h:cj T.nt X (fu s [X.env.locals]) W ⟨eR x Y esc U,[],0⟩ s'):
  ga T X F Z x Y esc U s'/\dk T.os [X.env.locals] s s':=
 ⟨⟨P.go ((wX h).sub fun a O=>by rw [cJ.mp O];exact N),let⟨m,Q,S⟩:=h.l.m;⟨m,Q,fun j y p H V=>let⟨v,I,M⟩:=S j y p H V;⟨v,I,M.plain (gR V)⟩⟩⟩,wX h⟩
end
end
section
open PySem.Builtin
section
variable {T:Tp}{X:Cx}{s s' s₀:Shared}{b:Nat}{A:Around}
theorem dk.refl'{F:Addr->Option Obj}{Z:List Addr}(h:jN T F Z s):dk T.os Z s s:=⟨fun _ _ _ e=>e,fun _ _ e=>e,h.bare,h.os⟩
theorem wO{F Z:Addr->Option Obj}{Y:List Addr}{G:Wd}{R:Fz}{I:List PV}{v:Value}{M:AS}(x:jN T F Y s₀)(B:dk T.os Y s₀ s)(U:∀a o,Z a=some o->F a=some o\/s₀.heap.get? a=none)(Q:∀a∈Y,Z a=none)
  (W:∀a∈Y,∃o,s.heap.get? a=some o) (g:cH (base Z) s.heap G s'.heap) (C:bk G (.tup I) v) (z:cj T.nt X R G M s') (y:I.all mF=true):
  ∃a S k,v=.ref a/\s'.heap.get? a=some {cls:=.type "tuple",data:=.seq S k}/\a∉Y/\(F a=some {cls:=.type "tuple",data:=.seq S k}\/s₀.heap.get? a=none)/\aP (base F) I S.toList:=by
 obtain⟨a,S,k,rfl,N,H⟩:=C;have O:=g.fr _ _ N;have P:a∉Y:=fun D=>by
  rcases O with h|h
  .have:=Q a D
   rw [show Z a=some _ from h]at this;cases this
  .obtain⟨o,E⟩:=W a D
   rw [h]at E;exact aW E
 have V:s.heap.get? a=none->s₀.heap.get? a=none:=fun h=>by
  cases q:s₀.heap.get? a with
  |none=>rfl
  |some o=>rw [B.heap a o P q]at h;cases h
 refine⟨a,S,k,rfl,z.r.hF _ _ N,P,?_,H.plain y⟩;rcases O with h|h
 .exact U _ _ h
 .exact .inr (V h)
theorem tx{F O:Addr->Option Obj}{e E:Addr}{x:Str}{t:Tok}{i:Nat}{h:Int}{esc:Bool}{ch:Option Str}{N:List PV}{ps:List PV}{n:Nat}{c:Code}{r:List Frame}{K:Flow->Sem Fin}{H:Value->Sem Fin}{gd:Bool->Bool}{lv:List Value->List Value}
  {ye:Expr} {l z2:Pos} {f:ER} {R:GenEnd} {Z:List Addr} (V:Z=[X.env.locals,e,E]) (y3:X.env.locals≠e) (y2:X.env.locals≠E)
  (z3:aN T.nt b X ye f) (hf:f ⟨eR x h esc ch,[],0⟩=some (.tup ps,⟨eR x h esc ch,[],0⟩)) (hp:ps.all mF=true)
  (hA:jb b (A.over c r)) (z7:splitAtGen r=none) (z6:gd false=false) (z8:r.any Frame.guarded=false) (y0:X.env.scope.isCoroutine=false) (hi:interactive X.env=false) (z9:X.cv=[])
  (hb:jN T F Z s₀) (hs:dk T.os Z s₀ s) (u:∀a o,O a=some o->F a=some o\/s₀.heap.get? a=none) (I:ga T X O Z x h esc ch s) (z:jV e E x t i s)
  (d:N[N.length-1-n]?=some (.tup ps))
  (cont:∀W,ga T X F Z x h esc ch W->jV e E x t i W->Seg (model T.prog T.w) A R (sN T F Z N) n W c (K .next) r W):
  Seg (model T.prog T.w) A R (sN T F Z N) (n+1) s₀ c ((exec (.Expr (.Yield (some ye) l) z2) X.env).wrap K H gd lv) r s:=by
 have Y:X.env.locals∈Z:=by rw [V];exact .head _
 refine seg_Expr_Yield z7 z6 z8 (bG (z3.1 (A.over c r) _ (base O) ⟨eR x h esc ch,[],0⟩ s _ _ hA hf (I.rel Y z9)) (fun v S z4=>?_) ar) y0 hi;obtain⟨W',g,hv,hr⟩:=z4;intro y5 hk;obtain⟨U,Q⟩:=ga.of I.base Y hr;have hL:∀a o,a≠X.env.locals->s.heap.get? a=some o->S.heap.get? a=some o:=fun a o hn q=>Q.heap a o (fun C=>hn (cJ.mp C)) q
 have M:jV e E x t i S:=z.keep (fun o q=>hL e o (nS y3) q) (fun o q=>hL E o (nS y2) q);have P:∀a∈Z,∃o,s.heap.get? a=some o:=fun a G=>by
  rw [V]at G
  rcases cN.mp G with rfl|G
  .obtain⟨m,C,_⟩:=I.loc
   obtain⟨o,_,_,D,_⟩:=C;exact⟨o,D⟩
  rcases cN.mp G with rfl|G
  .obtain⟨y4,D⟩:=z.en;exact⟨_,D⟩
  .rw [cJ.mp G]
   obtain⟨o,D,_⟩:=z.si;exact⟨o,D⟩
 obtain⟨a,vs,k,rfl,h1,h2,h3,h4⟩:=wO hb hs u I.base.none P g hv hr hp;have hS:dk T.os Z s₀ S:=hs.trans (Q.sub fun a G=>by rw [cJ.mp G];exact Y);refine⟨ps,a,vs,k,d,rfl,h1,h2,h3,h4,hS,fun c' y1=>?_,fun W B z1=>?_⟩
 .obtain⟨o,D⟩:=P c' y1
  by_cases z0:c'=X.env.locals
  .subst z0
   obtain⟨m,C,_⟩:=U.loc;obtain⟨o',_,_,z5,_⟩:=C;exact⟨o',z5⟩
  .exact⟨o,hL c' o z0 D⟩
 .refine hk .none W ?_
  show Seg _ _ _ _ _ _ _ _ _ _;refine cont W ⟨z1,?_⟩ (M.keep (fun o q=>B e (by rw [V];exact .tail _ (.head _)) o q) (fun o q=>B E (by rw [V];exact .tail _ (.tail _ (.head _))) o q));obtain⟨m,C,hv⟩:=U.loc;exact⟨m,C.at' fun o q=>B _ Y o q,fun j y p q1 q2=>let⟨v,q3,q4⟩:=hv j y p q1 q2;⟨v,q3,q4.plain (gR q2)⟩⟩
structure uE(T:Tp)(b:Nat)(X:Cx)(target escE c2 y1 y2:Expr)(sF sT:Stmt):Prop where
 tg:dR T b X target (dK 2 (aT (am 1) (aT (am 3) cM)))
 be:fW T b X escE (aq (aa 2))
 b2:fW T b X c2 (aq (ae (aa 3) (ab (.str ⟨#[92]⟩)) jd))
 y1:aN T b X y1 (ey (ac (aa 1) (ac (ae (ab (.str ⟨#[92]⟩)) (aa 3) ba) aj)))
 y2:aN T b X y2 (ey (ac (aa 1) (ac (aa 3) aj)))
 sF:dc T b X sF (ai (ab (.bool false)) (am 2))
 sT:dc T b X sT (ai (ab (.bool true)) (am 2))
noncomputable def fD(Z M P Q:Expr)(N O:Stmt)(W U Y V R S:Pos):List Stmt:=
 [.If Z [.Expr (.Yield (some P) W) U,N] [.If M [O] [.Expr (.Yield (some Q) Y) V] S] R]
theorem JG{F:Addr->Option Obj}{e it:Addr}{x:Str}{t:Tok}{W:List PV}{Z:List Addr}(O:Z=[X.env.locals,e,it])(v6:X.env.locals≠e)(w6:X.env.locals≠it)(t1:e≠it)
  {ts:List Expr} {kk:Nat} {tp:Pos} {N c2 y1 y2:Expr} {sF sT:Stmt} {y9 x1 y8 x0 x3 x2:Pos} (B:uE T.nt b X (.Tuple ts kk tp) N c2 y1 y2 sF sT)
  {c0:Code} {k:Result->Sem Fin} {g0:Bool} {l0:List Value} {p0:Pos} (r6:g0=false)
  (hA:jb b (A.over (.forLoop (.Tuple ts kk tp) (.ref e) (fD N c2 y1 y2 sF sT y9 x1 y8 x0 x3 x2) [] X.env) [.ret k none g0 l0 c0 p0 []]))
  (s3:X.env.scope.isCoroutine=false) (hi:interactive X.env=false) (x5:X.cv=[]) (r9:∀c∈x.cps.toList,c<128)
  (s7:∀pv ch s₀ s,jN T F Z s₀->dk T.os Z s₀ s->ga T X F Z x pv false ch s->Seg (model T.prog T.w) A (Fe T Z) (sN T F Z W) 0 s₀ c0 (k (.ok .next)) [] s):
  ∀(cs:List Nat) (i:Nat) (pv:Int) (esc:Bool) (ch:Option Str) (n:Nat) (s₀ s:Shared),x.cps.toList.drop i=cs->i<=x.cps.size->cE esc cs=false->n=(ff i esc cs).length->W.drop (W.length-n)=ff i esc cs->n<=W.length->
   jN T F Z s₀->dk T.os Z s₀ s->ga T X F Z x pv esc ch s->jV e it x t i s->
   Seg (model T.prog T.w) A (Fe T Z) (sN T F Z W) n s₀ (.forLoop (.Tuple ts kk tp) (.ref e) (fD N c2 y1 y2 sF sT y9 x1 y8 x0 x3 x2) [] X.env)
    ((model T.prog T.w).den (.forLoop (.Tuple ts kk tp) (.ref e) (fD N c2 y1 y2 sF sT y9 x1 y8 x0 x3 x2) [] X.env)) [.ret k none g0 l0 c0 p0 []] s:=by
 have V:X.env.locals∈Z:=by rw [O];exact .head _
 have D:=Draws.strAscii (prog:=T.prog) (w:=T.w) (A:=(A.over (.forLoop (.Tuple ts kk tp) (.ref e) (fD N c2 y1 y2 sF sT y9 x1 y8 x0 x3 x2) [] X.env) [.ret k none g0 l0 c0 p0 []]).in1) hA.hnd it x t;intro cs
 induction cs with
 |nil=>
  intro i pv esc ch n s₀ s t2 u1 C hn G Y hb hs R x4;have he:esc=false:=C;subst he;have r2:n=0:=hn;subst r2;refine pq ?_
  obtain⟨s8,v5⟩:=x4.en;have r5:x.cps.size<=i:=by simpa using Bm.mp t2
  have r3:i=x.cps.size:=bB u1 r5;refine wpAny_pyNext_enum_endD D v5 (r3▸x4.si) fun h' hx=>?_
  refine vk rfl (Fm ?_);show Seg _ _ _ _ _ _ _ (leafOf (.ok .next)) _ _;refine seg_leaf (.ok .next) ?_
  have hS:dk T.os Z s {s with heap:=h'}:=⟨fun a o hn q=>hx a o (fun e'=>hn (by rw [O,e'];exact .tail _ (.tail _ (.head _)))) q,fun _ _ q=>q,R.base.bare,R.base.os⟩;obtain⟨m,hm,hv⟩:=R.loc;exact s7 pv ch s₀ _ hb (hs.trans hS) ⟨R.base.go hS,m,hm.at' fun o q=>hx _ o w6 q,hv⟩
 |cons c cs ih=>
  intro i pv esc ch n s₀ s t2 u1 C hn G Y hb hs R x4;obtain⟨s5,z5⟩:=gb t2;have y0:i<x.cps.size:=by
   have:=(ig.mp s5).1
   simpa using this
  have s4:x.cps[i]?=some c:=by simpa using s5
  refine pq ?_
  obtain⟨s8,v5⟩:=x4.en;refine wpAny_pyNext_enum_itemD D v5 x4.si y0 t1 (by simpa using t1) fun v h' tk hP s0 u3 t8 p3 u9=>?_
  obtain⟨c',u,s6,rfl⟩:=hP;rw [s4]at s6;obtain rfl:=aZ s6
  refine wpAny_letOwnedTupleGo_enum s0 fun x6 v4 z0=>?_
  have x8:e<s.heap.objs.size:=bL v5;have w9:it<s.heap.objs.size:=by obtain⟨o,ho,_⟩:=x4.si;exact bL ho
  have u8:X.env.locals<s.heap.objs.size:=by obtain⟨m,hm,_⟩:=R.loc;exact hm.lt
  have I:∀a o,a≠e->a≠it->s.heap.get? a=some o->x6.get? a=some o:=fun a o h1 h2 q=>(z0.2 a h1).trans (u9 a o h1 h2 q)
  have x7:x6.get? s.heap.objs.size=some {cls:=.type "tuple",data:=.seq #[.int i tk,.str ⟨#[c]⟩ u]}:=(z0.2 _ (sh x8)).trans t8;have r0:s.heap.get? s.heap.objs.size=none:=by
   cases q:s.heap.get? s.heap.objs.size with
   |none=>rfl
   |some o=>exact absurd (bL q) (eG _)
  let Q:Addr->Option Obj:=fun a=>if a=s.heap.objs.size then some {cls:=.type "tuple",data:=.seq #[.int i tk,.str ⟨#[c]⟩ u]}else F a
  have r8:F s.heap.objs.size=none:=aX R.base.hF (bZ _);have v7:∀a o,F a=some o->Q a=some o:=fun a o q=>by
   show(if a=_ then _ else _)=_;rw [aF (fun e'=>by rw [e',r8]at q;exact aW q)];exact q
  have d:∀a o,Q a=some o->(a=s.heap.objs.size/\o={cls:=.type "tuple",data:=.seq #[.int i tk,.str ⟨#[c]⟩ u]})\/F a=some o:=fun a o q=>by
   have q':(if a=s.heap.objs.size then some {cls:=.type "tuple",data:=.seq #[.int i tk,.str ⟨#[c]⟩ u]}else F a)=some o:=q
   by_cases h:a=s.heap.objs.size
   .rw [aC h]at q';obtain rfl:=aZ q';exact .inl ⟨h,rfl⟩
   .rw [aF h]at q';exact .inr q'
  have z7:∀a∈Z,a<s.heap.objs.size:=fun a ha=>by
   rw [O]at ha
   rcases cN.mp ha with rfl|ha
   .exact u8
   rcases cN.mp ha with rfl|ha
   .exact x8
   .rw [cJ.mp ha];exact w9
  have v9:∀a,a∉Z->a≠e/\a≠it:=fun a hn=>⟨fun q=>hn (by rw [O,q];exact .tail _ (.head _)),fun q=>hn (by rw [O,q];exact .tail _ (.tail _ (.head _)))⟩
  let S:Shared:={s with heap:=x6,toks:=tk+1}
  have w1:dk T.os Z s S:=⟨fun a o hn q=>I a o (v9 a hn).1 (v9 a hn).2 q,fun _ _ q=>q,R.base.bare,R.base.os⟩;have t4:jN T Q Z S:=by
   refine⟨R.base.top.mono v7,fun a o q=>?_,fun a ha=>?_,R.base.bare,R.base.os⟩
   .rcases d a o q with⟨rfl,rfl⟩|q
    .exact x7
    .exact w1.heap a o (fun hm=>by rw [R.base.none a hm]at q;exact aW q) (R.base.hF a o q)
   .cases q:Q a with
    |none=>rfl
    |some o=>
     rcases d a o q with⟨h1,_⟩|q'
     .have:=z7 a ha;rw [h1]at this;exact absurd this (eG _)
     .rw [R.base.none a ha]at q';exact aW q'
  have y5:ga T X Q Z x pv esc ch S:=by
   obtain⟨m,hm,hv⟩:=R.loc;exact⟨t4,m,hm.at' fun o q=>I _ o v6 w6 q,fun j y p q1 q2=>let⟨w,q3,q4⟩:=hv j y p q1 q2;⟨w,q3,q4.plain (gR q2)⟩⟩
  have v1:jV e it x t (i+1) S:=⟨⟨_,v4⟩,by
   obtain⟨o,ho,hr⟩:=u3;exact⟨o,(z0.2 it (nS t1)).trans ho,hr⟩⟩
  have s9:bk (base Q) (.tup [.int i,.str ⟨#[c]⟩]) (.ref s.heap.objs.size):=
   ⟨_,#[.int i tk,.str ⟨#[c]⟩ u],0,rfl,by show(if _=_ then _ else _)=_;rw [aC rfl],⟨_,_,rfl,eh _ _,_,_,rfl,nA _ _,rfl⟩⟩
  have t9:dK 2 (aT (am 1) (aT (am 3) cM)) (.tup [.int i,.str ⟨#[c]⟩]) ⟨eR x pv esc ch,[],0⟩=some ⟨eR x i esc (some ⟨#[c]⟩),[],0⟩:=rfl;refine gt (T:=T.nt) (B.tg.1 _ _ (base Q) ⟨eR x pv esc ch,[],0⟩ S _ _ _ hA t9 (y5.rel V x5) s9) fun p2 v8 q7 u7=>?_
  obtain⟨y4,w5⟩:=ga.of y5.base V u7;have w7 {P S:Shared} (h:dk T.os [X.env.locals] P S):dk T.os Z P S:=h.sub fun a ha=>by rw [cJ.mp ha];exact V
  have z {P S:Shared} {j:Nat} (h:dk T.os [X.env.locals] P S) (q:jV e it x t j P):jV e it x t j S:=
   q.keep (fun o r=>h.heap e o (fun hm=>v6 (cJ.mp hm).symm) r) (fun o r=>h.heap it o (fun hm=>w6 (cJ.mp hm).symm) r)
  have v0:=z w5 v1;have t3:dk T.os Z s₀ v8:=(hs.trans w1).trans (w7 w5);have y7:∀a o,Q a=some o->F a=some o\/s₀.heap.get? a=none:=fun a o q=>by
   rcases d a o q with⟨rfl,_⟩|q
   .refine .inr ?_
    cases r:s₀.heap.get? s.heap.objs.size with
    |none=>rfl
    |some o'=>
     have:=hs.heap _ o' (fun hm=>absurd (z7 _ hm) (eG _)) r;rw [r0]at this;exact aW this
   .exact .inl q
  unfold fD;refine lK (Bl (bG (B.be.1 _ _ (base Q) ⟨eR x i esc (some ⟨#[c]⟩),[],0⟩ v8 esc _ hA rfl (y4.rel V x5)) (fun v t6 hp=>?_) ar));obtain⟨rfl,p1,q6,u6⟩:=hp;obtain⟨l,w4⟩:=ga.of y4.base V u6;have z9:=z w4 v0;have w0:=t3.trans (w7 w4);have u2:splitAtGen [Frame.ret k none g0 l0 c0 p0 []]=none:=rfl;have s1:([Frame.ret k none g0 l0 c0 p0 []]:List Frame).any Frame.guarded=false:=by rw [r6];rfl
  have t7 {st:Stmt} {ev t5:Bool} {F':Addr->Option Obj} {M P:Shared} {m:Nat} {K:Flow->Sem Fin} {H:Value->Sem Fin} (u3:dc T.nt b X st (ai (ab (.bool t5)) (am 2))) (s2:ga T X F' Z x i ev (some ⟨#[c]⟩) M) (r4:jV e it x t (i+1) M)
    (hk:∀U,ga T X F' Z x i t5 (some ⟨#[c]⟩) U->jV e it x t (i+1) U->dk T.os Z M U->Seg (model T.prog T.w) A (Fe T Z) (sN T F Z W) m P (.forLoop (.Tuple ts kk tp) (.ref e) (fD N c2 y1 y2 sF sT y9 x1 y8 x0 x3 x2) [] X.env) (K .next) [.ret k none g0 l0 c0 p0 []] U):
    Seg (model T.prog T.w) A (Fe T Z) (sN T F Z W) m P (.forLoop (.Tuple ts kk tp) (.ref e) (fD N c2 y1 y2 sF sT y9 x1 y8 x0 x3 x2) [] X.env) ((exec st X.env).wrap K H id id) [.ret k none g0 l0 c0 p0 []] M:=by
   refine se (er (T:=T.nt) (u3.1 _ _ (base F') ⟨eR x i ev (some ⟨#[c]⟩),[],0⟩ M .next ⟨eR x i t5 (some ⟨#[c]⟩),[],0⟩ hA rfl (s2.rel V x5)) fun q8 fl U q0 r7 u4=>?_);rw [show fl=.next from r7];obtain⟨v3,w2⟩:=ga.of s2.base V u4;exact hk U v3 (z w2 r4) (w7 w2)
  cases v with
  |true=>
   rw [aC rfl];obtain⟨m,rfl⟩:∃m,n=m+1:=⟨_,hn⟩;obtain⟨z3,z1⟩:=gb (x:=PV.tup [.int i,.str ⟨#[92,c]⟩]) (r:=ff (i+1) false cs) G;refine lK (tx O v6 w6 B.y1 (f:=_) (ps:=[.int i,.str ⟨#[92,c]⟩]) rfl rfl hA u2 rfl s1 s3 hi x5 hb w0 y7 l z9 (by rw [show W.length-1-m=W.length-(m+1)from by exact bB ((dP (m) (W.length-1)).elim (fun u0=>OZ (aA (vz Y)) (aA (dY u0)) (aA (qj Y))) (fun u0=>Qj Y (eg (dY u0)) (aA (qj Y)))) ((dP (m) (W.length-1)).elim (fun u0=>Pm (aA (vz Y)) (aA (qj Y)) (aA (dY u0))) (fun u0=>Qg u0 (aA (vz Y)) (aA (qj Y)) (eg (dY u0))))];exact z3) fun w8 E x9=>?_);refine lK (t7 B.sF E x9 fun U z4 z2 g=>?_);refine vk rfl ?_
   refine ih (i+1) i false (some ⟨#[c]⟩) m w8 U z5 y0 C (by simpa [lp,li,lA]using hn) (by rw [show W.length-m=W.length-(m+1)+1 from by exact bB (Hv (aA (wj Y)) (aA (qj Y))) (GU (aA (qj Y)) (aA (wj Y)))];exact z1) (by exact(wj Y)) E.base g z4 z2
  |false=>
   rw [aF kD];refine lK (Bl (bG (B.b2.1 _ _ (base Q) ⟨eR x i false (some ⟨#[c]⟩),[],0⟩ t6 ((⟨#[c]⟩:Str)==⟨#[92]⟩) _ hA rfl (l.rel V x5)) (fun v M hp=>?_) ar));obtain⟨rfl,q9,q5,u5⟩:=hp;obtain⟨y3,w3⟩:=ga.of l.base V u5;have z8:=z w3 z9;have z6:=w0.trans (w7 w3)
   by_cases y6:c=92
   .subst y6
    rw [aC (by rfl)];refine lK (t7 B.sT y3 z8 fun U z4 z2 g=>?_);refine vk rfl ?_
    have e1:ff i false (92::cs)=ff (i+1) true cs:=by rfl
    rw [e1]at hn G
    have v2:ga T X F Z x i true (some ⟨#[92]⟩) U:=by
     obtain⟨m,hm,hv⟩:=z4.loc;exact⟨hb.go (z6.trans g),m,hm,fun j y p q1 q2=>let⟨w,q3,q4⟩:=hv j y p q1 q2;⟨w,q3,q4.plain (gR q2)⟩⟩
    exact ih (i+1) i true (some ⟨#[92]⟩) n s₀ U z5 y0 C hn G Y hb (z6.trans g) v2 z2
   .have r1:((⟨#[c]⟩:Str)==⟨#[92]⟩)=false:=by simp [y6]
    rw [r1,aF kD];have e1:ff i false (c::cs)=.tup [.int i,.str ⟨#[c]⟩]::ff (i+1) false cs:=by simp [lp,li,lA,y6]
    rw [e1]at hn G
    have t0:cE false cs=false:=by
     have:cE false (c::cs)=cE (c==92) cs:=rfl;rw [this]at C
     have hb:(c==92)=false:=by simp [y6]
     rwa [hb]at C
    obtain⟨m,rfl⟩:∃m,n=m+1:=⟨_,hn⟩;obtain⟨z3,z1⟩:=gb G;refine lK (tx O v6 w6 B.y2 (f:=_) (ps:=[.int i,.str ⟨#[c]⟩]) rfl rfl hA u2 rfl s1 s3 hi x5 hb z6 y7 y3 z8 (by rw [show W.length-1-m=W.length-(m+1)from by exact bB ((dP (m) (W.length-1)).elim (fun u0=>OZ (aA (vz Y)) (aA (dY u0)) (aA (qj Y))) (fun u0=>Qj Y (eg (dY u0)) (aA (qj Y)))) ((dP (m) (W.length-1)).elim (fun u0=>Pm (aA (vz Y)) (aA (qj Y)) (aA (dY u0))) (fun u0=>Qg u0 (aA (vz Y)) (aA (qj Y)) (eg (dY u0))))];exact z3) fun w8 E x9=>?_);refine vk rfl ?_
    exact ih (i+1) i false (some ⟨#[c]⟩) m w8 w8 z5 y0 t0 (by simpa using hn) (by rw [show W.length-m=W.length-(m+1)+1 from by exact bB (Hv (aA (wj Y)) (aA (qj Y))) (GU (aA (qj Y)) (aA (wj Y)))];exact z1) (by exact(wj Y)) E.base (dk.refl' E.base) E x9
end
end
section
open PySem.Builtin
section
variable {T:Tp}{X:Cx}{s s' s₀:Shared}{b:Nat}{A:Around}
noncomputable def jt(u v w x y z B C D P Q:Pos)(q r t:Nat)(H:List Expr)(G:Pos)(W p I M:Expr)(E F:Stmt)(U R V S N O:Pos)(Z:Expr)(Y:List Stmt):List Stmt:=
 [.Assign [.Name "pos" u] (.Constant (.int 0) q v) w,.Assign [.Name "escape" x] (.Constant (.bool false) r y) z,
  .For (.Tuple H t G) (.Call (.Name "enumerate" B) [.Name "addr" C] [] D) (fD W p I M E F U R V S N O) [] P,.If Z Y [] Q]
theorem Iq{F:Addr->Option Obj}{x:Str}{t:Tok}{m:Str->Option Value}{q1 q2 q3 q4 q5 q6 q7 q8 q9 g I:Pos}{k1 k2 kk:Nat}{ts:List Expr}{tp:Pos}{W c2 y1 y2:Expr}{sF sT:Stmt}{O M P N G H:Pos}{Y:Expr}{U:List Stmt}
  (B:uE T.nt b X (.Tuple ts kk tp) W c2 y1 y2 sF sT) (y6:fW T.nt b X Y (aq (aa 2))) (hX:bA X) (E:X.vars=([("addr":Str),"pos","escape","ch"]:List Str)) (y5:X.cv=[]) (x1:X.env.scope.isCoroutine=false) (hi:interactive X.env=false)
  (z6:∀h:Heap,FH F h->∃mg mb,h.Ns mainGlobals mg/\mg "enumerate"=none/\h.Ns builtinsNs mb/\mb "enumerate"=some (.type "enumerate")) (x0:X.env.scope.names.lookup ("enumerate":Str)=some NameKind.globalImplicit)
  (x5:jb b (A.over (.func (jt q1 q2 q3 q4 q5 q6 q7 q8 q9 g I k1 k2 kk ts tp W c2 y1 y2 sF sT O M P N G H Y U) X.env) []))
  (x4:∀it k p,jb b (A.over (.forLoop (.Tuple ts kk tp) it (fD W c2 y1 y2 sF sT O M P N G H) [] X.env) [.ret k none false [] (.func (jt q1 q2 q3 q4 q5 q6 q7 q8 q9 g I k1 k2 kk ts tp W c2 y1 y2 sF sT O M P N G H Y U) X.env) p []]))
  (n:jN T F [X.env.locals] s) (hm:s.heap.Ns X.env.locals m) (y0:m "addr"=some (.str x t)) (d:∀c∈x.cps.toList,c<128) (y4:cE false x.cps.toList=false):
  Seg (model T.prog T.w) A (Fe T [X.env.locals,s.heap.objs.size+1,s.heap.objs.size]) (sN T F [X.env.locals,s.heap.objs.size+1,s.heap.objs.size] (ff 0 false x.cps.toList)) (ff 0 false x.cps.toList).length s
   (.func (jt q1 q2 q3 q4 q5 q6 q7 q8 q9 g I k1 k2 kk ts tp W c2 y1 y2 sF sT O M P N G H Y U) X.env) ((model T.prog T.w).den (.func (jt q1 q2 q3 q4 q5 q6 q7 q8 q9 g I k1 k2 kk ts tp W c2 y1 y2 sF sT O M P N G H Y U) X.env)) [] s:=by
 have z5:∀y∈([("addr":Str),"pos","escape","ch"]:List Str),X.env.scope.names.lookup y=some .local:=fun y hy=>hX.vars y (E▸hy)
 have f:(X.env.scope.kind==.class||X.env.scope.kind==.module&&X.env.locals != X.env.globals)=false:=by rw [hX.kind];rfl
 refine seg_func ?_
 unfold jt;refine lK (se (FX (Kg (Bf (z5 "pos" (by exact .tail _ (.head _))) hm (fun x7 z3 C=>?_) f)) rfl));refine lK (se (FX (HX (Bf (z5 "escape" (by exact .tail _ (.tail _ (.head _)))) z3 (fun Z z D=>?_) f)) rfl));have y8:Z.objs.size=s.heap.objs.size:=D.1.trans C.1;have S:∀a o,a≠X.env.locals->s.heap.get? a=some o->Z.get? a=some o:=fun a o hn q=>(D.2 a hn).trans ((C.2 a hn).trans q)
 have z8:FH F Z:=fun a o q=>S a o (fun e=>by rw [e,n.none _ (cJ.mpr rfl)]at q;exact aW q) (n.hF a o q)
 refine lK (ML (by intro _;rfl) ?_);obtain⟨mg,mb,e1,e2,e3,e4⟩:=z6 Z z8;show wpAny _ _ (do callWith q9 (<-eval (.Name "enumerate" q7) X.env) [] (backTo q9 (starEach [.Name "addr" q8] X.env)) []) _ _ _;refine aR (vJ hX.kind x0 (Ko (by rw [hX.glob];exact e1) e2 (by rw [hX.blt];exact e3) e4 ?_) rfl);refine Bh rfl (uX (rH (vb (AG hX.kind (z5 "addr" (by exact oI)) z (v:=.str x t) (by rw [aF (by decide),aF (by decide)];exact y0) (qT ?_)) rfl)));refine call_enumerate_str fun h' he u x8 V=>?_
 have R:Z.objs.size=s.heap.objs.size:=y8;replace he:IsEnum h' (Z.objs.size+1) Z.objs.size 0 .none:=he;replace u:h'.IsStrIter Z.objs.size (strIterType x) x t 0:=u;replace V:∀c o,Z.get? c=some o->h'.get? c=some o:=V;rw [R]at he u
 have y9:strIterType x="str_ascii_iterator":=by
  unfold strIterType;rw [aC];rw [Array.all_eq_true];intro i hi;exact dq (d _ (by simp))
 rw [y9]at u
 show wpAny _ _ (pyIter (.ref (Z.objs.size+1))) _ _ _;rw [R];refine wpAny_pyIter_enum (e:=s.heap.objs.size+1) (it:=s.heap.objs.size) (i:=0) he fun p=>?_
 have r:X.env.locals<s.heap.objs.size:=hm.lt;have z0:∀a o,a≠X.env.locals->s.heap.get? a=some o->h'.get? a=some o:=fun a o hn q=>V a o (S a o hn q)
 have hL:X.env.locals≠s.heap.objs.size+1:=fun q=>by rw [q]at r;exact absurd (show(s.heap.objs.size+1:Nat)<s.heap.objs.size from r) (by exact(fun u0=>aH 0x840010421 rfl u0))
 have x3:X.env.locals≠s.heap.objs.size:=gn r;have z4:∀a∈[X.env.locals,s.heap.objs.size+1,s.heap.objs.size],F a=none:=fun a ha=>by
  rcases cN.mp ha with rfl|ha
  .exact n.none _ (cJ.mpr rfl)
  rcases cN.mp ha with rfl|ha
  .exact aX n.hF (jo _)
  .rw [cJ.mp ha];exact aX n.hF (bZ _)
 have y7:jN T F [X.env.locals,s.heap.objs.size+1,s.heap.objs.size] s:=⟨n.top,n.hF,z4,n.bare,n.os⟩;have hS:∀tk,dk T.os [X.env.locals,s.heap.objs.size+1,s.heap.objs.size] s {s with heap:=h',toks:=tk}:=fun tk=>⟨fun a o hn q=>z0 a o (fun e=>hn (by rw [e];exact .head _)) q,fun _ _ q=>q,n.bare,n.os⟩
 refine JG rfl hL x3 (Nat.succ_ne_self _) B (g0:=false) rfl (x4 _ _ _) x1 hi y5 d (fun pv ch s₀ z9 x2 z1 y3=>?_) x.cps.toList 0 0 false none _ s _ rfl (jy _) y4 rfl (by rw [Nat.sub_self];rfl) (bZ _) y7 (hS _) ⟨y7.go (hS _),?_⟩ ⟨⟨_,he⟩,u⟩
 .show Seg _ _ _ _ _ _ _ ((execs [.If Y U [] I] X.env).wrap _ _ _ _) _ _
  refine lK (Bl (bG (y6.1 _ _ (base F) ⟨eR x pv false ch,[],0⟩ z9 false _ x5 rfl (y3.rel (.head _) y5)) (fun v x6 Q=>?_) ar));obtain⟨rfl,w0,x9,z2⟩:=Q;rw [aF kD];obtain⟨_,z7⟩:=ga.of y3.base (.head _) z2;show Seg _ _ _ _ _ _ _ (leafOf (.ok (.ret .none))) _ _;exact seg_end (.ok (.ret .none)) ⟨rfl,rfl,z1.trans (z7.sub fun a ha=>by rw [cJ.mp ha];exact .head _)⟩
 .refine⟨_,z.keeps V,fun j y p l Q=>?_⟩
  rw [E]at l
  match j,l,Q with
  |0,l,Q=>cases l;cases Q;exact⟨_,by rw [aF (by decide),aF (by decide)];exact y0,nA _ _⟩
  |1,l,Q=>cases l;cases Q;exact⟨_,by rw [aF (by decide),aC rfl],eh _ _⟩
  |2,l,Q=>cases l;cases Q;exact⟨_,aC rfl,fY _⟩
  |3,l,Q=>exact aW Q
  |j+4,l,Q=>exact aW Q
end
end
section
open PySem.Builtin
section
variable {T:Tp}{X:Cx}{R:Fz}{W:Wd}{σ:AS}{s s':Shared}{b:Nat}{A:Around}
theorem dp.turn{z:Fz}(h:dp T X R W σ s z)(V:∀c o,z.h c=none->s.heap.get? c=some o->s'.heap.get? c=some o)
  (E:∀g x,z.g g=none->s.gens[g]?=some x->s'.gens[g]?=some x) (D:AllBare s'.gens) (I:s'.os=s.os):cj T X R W σ s':=by
 have Z:=h.rel;have O:∀c,(R.un z).h c=none->z.h c=none:=fun c e=>(aJ.mp e).1
 refine⟨⟨Z.r.top,fun a o e=>V a o ?_ (Z.r.hF a o e),fun a o e=>V a o ?_ (h.out.r.hR a o e),fun g x e=>E g x ?_ (h.out.r.hG g x e),fun i B e=>?_,fun i F=>?_,Z.r.inj,fun P C=>?_,D,I.trans Z.r.os,Z.r.sysm⟩,?_,Z.nx⟩
 .cases q:z.h a with
  |none=>rfl
  |some S=>have:=h.nF a S q;rw [e]at this;cases this
 .cases q:z.h a with
  |none=>rfl
  |some S=>have:=h.nR a S q;rw [e]at this;cases this
 .cases q:z.g g with
  |none=>rfl
  |some S=>have:=h.nG g S q;rw [e]at this;cases this
 .obtain⟨U,o,Y,Q⟩:=Z.r.trk i B e
  exact⟨U,o,V _ _ (O _ (Z.r.fre i U).2.1) Y,Q⟩
 .obtain⟨U,Y,Q,o,N⟩:=Z.r.fre i F
  exact⟨U,(aJ.mp Y).2,Q,o,V _ _ (O _ Y) N⟩
 .obtain⟨U,Y,M,Q,N⟩:=Z.r.tabs P C
  exact⟨U,(aJ.mp Y).2,M,V _ _ (O _ Y) Q,N⟩
 .obtain⟨m,H,G⟩:=Z.l.m
  exact⟨⟨m,H.at' fun o e=>V _ o (O _ Z.l.nR) e,G⟩,Z.l.nF,(aJ.mp Z.l.nR).2,Z.l.t,Z.l.ρ,Z.l.cv⟩
theorem dp.renew{z S:Fz}(h:dp T X R W σ s z)(V:cj T X R W σ s')(O:∀c o,S.h c=some o->s'.heap.get? c=some o/\(z.h c≠none\/s.heap.get? c=none))
  (I:∀g x,S.g g=some x->s'.gens[g]?=some x/\(z.g g≠none\/s.gens[g]?=none)):dp T X R W σ s' S:=by
 have U:=h.rel;have fresh:∀c o,s.heap.get? c=some o->z.h c=none->S.h c=none:=fun c o e M=>by
  cases q:S.h c with
  |none=>rfl
  |some Y=>
   rcases(O c Y q).2 with Z|Z
   .exact absurd M Z
   .rw [e]at Z;cases Z
 have N:∀c,(R.un z).h c=none->z.h c=none:=fun c e=>(aJ.mp e).1
 refine⟨⟨V.r.more (fun a o e=>?_) (fun g x e=>?_) (fun i E=>?_) (fun P D=>?_),⟨V.l.m,V.l.nF,?_,V.l.t,V.l.ρ,V.l.cv⟩,V.nx⟩,fun c o e=>?_,fun c o e=>?_,fun g x e=>?_⟩
 .rcases bw.mp e with e|⟨_,e⟩
  .exact(O a o e).1
  .exact V.r.hR a o e
 .rcases co.mp e with e|⟨_,e⟩
  .exact(I g x e).1
  .exact V.r.hG g x e
 .obtain⟨_,Q,_,o,C⟩:=U.r.fre i E
  exact aJ.mpr ⟨fresh _ o C (N _ Q),(aJ.mp Q).2⟩
 .obtain⟨_,Q,y,B,_⟩:=U.r.tabs P D
  exact aJ.mpr ⟨fresh _ _ B (N _ Q),(aJ.mp Q).2⟩
 .obtain⟨m,G,_⟩:=U.l.m
  obtain⟨o,_,_,H,_⟩:=G;exact aJ.mpr ⟨fresh _ o H (N _ U.l.nR),(aJ.mp U.l.nR).2⟩
 .rcases(O c o e).2 with Z|Z
  .cases q:z.h c with
   |none=>exact absurd q Z
   |some Y=>exact h.nF c Y q
  .cases q:W.F c with
   |none=>rfl
   |some Y=>have:=U.r.hF c Y q;rw [Z]at this;exact aW this
 .rcases(O c o e).2 with Z|Z
  .cases q:z.h c with
   |none=>exact absurd q Z
   |some Y=>exact h.nR c Y q
  .cases q:R.h c with
   |none=>rfl
   |some Y=>have:=h.out.r.hR c Y q;rw [Z]at this;exact aW this
 .rcases(I g x e).2 with Z|Z
  .cases q:z.g g with
   |none=>exact absurd q Z
   |some Y=>exact h.nG g Y q
  .cases q:R.g g with
   |none=>rfl
   |some Y=>have:=h.out.r.hG g Y q;rw [Z]at this;exact aW this
theorem dp.addF{z:Fz}(h:dp T X R W σ s z){c:Addr}{o:Obj}(q:s.heap.get? c=some o)(k:W.F c=none)(G:∀i,i<W.n->W.ρ i≠c)(g:X.env.locals≠c)(j:c∉T.tabs)(B:z.h c=none):
  dp T X R (W.fz c o) σ s z:=by
 have H:=Wd.fz_ext W (o:=o) k;have Y:=h.rel;have U:∀a V,(W.fz c o).F a=some V->(a=c/\V=o)\/W.F a=some V:=fun a V e=>by
  have N:(if a=c then some o else W.F a)=some V:=e
  by_cases S:a=c
  .rw [aC S]at N;obtain rfl:=aZ N;exact .inl ⟨S,rfl⟩
  .rw [aF S]at N;exact .inr N
 have Z:∀a,a≠c->W.F a=none->(W.fz c o).F a=none:=fun a S e=>by
  show(if a=c then some o else W.F a)=none;rw [aF S];exact e
 refine⟨⟨⟨Y.r.top.mono H.F,fun a V e=>?_,Y.r.hR,Y.r.hG,fun i ao e=>?_,fun i E=>?_,Y.r.inj,fun P D=>?_,Y.r.bare,Y.r.os,Y.r.sysm⟩,?_,Y.nx⟩,fun a V e=>?_,h.nR,h.nG⟩
 .rcases U a V e with⟨rfl,rfl⟩|e
  .exact q
  .exact Y.r.hF a V e
 .obtain⟨O,V,Q,I⟩:=Y.r.trk i ao e
  exact⟨O,V,Q,I.mono H⟩
 .obtain⟨O,Q⟩:=Y.r.fre i E
  exact⟨Z _ (G i E) O,Q⟩
 .obtain⟨O,Q,C,I,M⟩:=Y.r.tabs P D
  refine⟨Z _ (fun e=>j (e▸D)) O,Q,C,I,?_⟩;rcases M with M|⟨d,e,f⟩
  .exact .inl M
  .exact .inr ⟨d,e,fun h u=>f h fun a V N=>u a V (H.F a V N)⟩
 .obtain⟨m,y,w⟩:=Y.l.m
  exact⟨⟨m,y,fun i x p O Q=>let⟨v,I,M⟩:=w i x p O Q;⟨v,I,M.mono H⟩⟩,Z _ g Y.l.nF,Y.l.nR,Y.l.t,Y.l.ρ,Y.l.cv⟩
 .refine Z a (fun S=>?_) (h.nF a V e)
  rw [S,B]at e;exact aW e
end
end
section
open PySem.Builtin
section
variable {T:Tp}{X:Cx}{R:Fz}{W:Wd}{σ:AS}{s s':Shared}{b:Nat}{A:Around}
theorem iD{g:Nat}{x:GenState}(h:AllBare s.gens)(U:x.bare=true):AllBare (s.setGen g x).gens:=by
 intro y V;obtain⟨i,Z⟩:=Array.mem_iff_getElem?.mp V
 by_cases e:i=g
 .subst e
  have Y:i<s.gens.size:=by
   have:=(Bw.mp Z).1
   simpa [Shared.setGen]using this
  have:(s.setGen i x).gens[i]?=some x:=by simp [Shared.setGen,Y]
  rw [this]at Z;obtain rfl:=aZ Z;exact U
 .have:(s.setGen g x).gens[i]?=s.gens[i]?:=by simp [Shared.setGen,nS e]
  rw [this]at Z
  exact h _ (Array.mem_of_getElem? Z)
theorem gS{g Z:Nat}{x:GenState}(h:Z≠g):(s.setGen g x).gens[Z]?=s.gens[Z]?:=by simp [Shared.setGen,nS h]
inductive Pv(o:Obj)(g:Nat):Prop
 |mk(hc:o.cls=.type "generator")(nm qn:Value)(hd:o.data=.fields #[.int g 0,nm,qn])(hs:o.slots=#[])
inductive Uv(T:Tp)(A:Around)(a:Addr)(F:Addr->Option Obj)(z:Fz)(gs:GenState)(g:Nat)(ps:List PV)(s:Shared):Prop
 |mk(own:List Addr)(its:List PV)(o1:a∉own)(o2:∀c∈own,F c=none/\(z.h c≠none\/s.heap.get? c=none))(o3:ps=its.drop (its.length-ps.length))(o4:ps.length<=its.length)
  (o5:gs.Goes (model T.prog T.w) A.in1 (Fe T own) (sN T F own its) ps.length (.send .none) (s.setGen g .running))
inductive Qx(T:Tp)(A:Around)(a:Addr)(W:Wd)(k:IK)(z:Fz):Prop
 |mk(ps:List PV)(ek:k=.its ps)(g:Nat)(gs:GenState)(oG:Obj)(F:Addr->Option Obj)(h1:z.h a=some oG)(h2:Pv oG g)(h3:z.g g=some gs)(h4:∀g',z.g g'≠none->g'=g)(h5:ki T F)(h6:∀c o,F c=some o->W.F c=some o)
  (h7:∀p∈ps,∃qs,p=.tup qs/\qs.all mF=true) (h8:∀s:Shared,(∀c o,z.h c=some o->s.heap.get? c=some o)->FH F s.heap->AllBare s.gens->s.os=T.os->Uv T A a F z gs g ps s)
set_option tactic.hygienic true in
theorem DQ(a:Addr):lR T b X A (.ref a) (Qx T A a) where
 mono:=fun W W' k z g h=>by
  obtain⟨y,ek,M,gs,w,F,h1,h2,h3,h4,h5,h6,h7,h8⟩:=h;exact⟨y,ek,M,gs,w,F,h1,h2,h3,h4,h5,fun c o e=>g.F c o (h6 c o e),h7,h8⟩
 own:=fun R W σ s k z w1 v Q E hj G h=>by
  obtain⟨y,rfl,M,gs,w,F,h1,h2,h3,h4,h5,h6,h7,h8⟩:=hj;obtain⟨hc,nm,qn,hd,hs⟩:=h2;exact gV (G.rel.r.hR a w (bw.mpr (.inl h1))) hc hd (by decide) h
 self:=fun R W σ s k z Q E hj G h=>by
  obtain⟨y,rfl,M,gs,w,F,h1,⟨hc,nm,qn,hd,hs⟩,h3,h4,h5,h6,h7,h8⟩:=hj;exact wpAny_pyIter_gen (g:=M) ⟨w,nm,qn,G.rel.r.hR a w (bw.mpr (.inl h1)),hc,hd,hs⟩ h
 done:=fun R W σ s k z hA hj G hn=>by
  obtain⟨y,rfl,M,gs,w,F,h1,⟨hc,nm,qn,hd,hs⟩,h3,h4,h5,h6,h7,h8⟩:=hj;cases y with
  |cons p y=>cases hn
  |nil=>
   have j:∀c o,z.h c=some o->s.heap.get? c=some o:=fun c o e=>G.rel.r.hR c o (bw.mpr (.inl e))
   obtain⟨own,H,o1,o2,o3,o4,o5⟩:=h8 s j (fun c o e=>G.rel.r.hF c o (h6 c o e)) G.rel.r.bare G.rel.r.os;refine pk (g:=M) (gs:=gs) (n:=0) (P:=fun n z0 V=>n=0/\dk T.os own z0 V) (Y:=sN T F own H) hA.hnd (G.rel.r.top.nolim _ G.rel.r.hF) (by have:=hA.dep;exact ci 0x10000084400800010421 rfl this) ⟨w,nm,qn,j a w h1,hc,hd,hs⟩ (G.rel.r.hG M gs (co.mpr (.inl h3))) o5 (fun v V u hb hy=>?_) (fun V hp h' hk=>?_)
   .obtain⟨y0,N,vs,k0,y1,y2,y3,y4,y5,y6,y7,y8,y9⟩:=hy
    exact(y9 V (fun _ _ _ e=>e) ⟨h5,fun c o e=>y7.heap c o (fun hm=>by rw [(o2 c hm).1]at e;exact aW e) (G.rel.r.hF c o (h6 c o e)),fun c hm=>(o2 c hm).1,y7.bare,y7.os⟩).elim
   .obtain⟨_,hS⟩:=hp
    have d:∀c o,z.h c=none->s.heap.get? c=some o->c∉own:=fun c o t e hm=>by
     rcases(o2 c hm).2 with q|q
     .exact q t
     .rw [q]at e;exact aW e
    have z8:∀g x,z.g g=none->s.gens[g]?=some x->({V.setGen M .finished with heap:=h'}:Shared).gens[g]?=some x:=fun g x t e=>by
     have z1:g≠M:=fun q=>by rw [q,h3]at t;cases t
     show(V.setGen M .finished).gens[g]?=_;rw [gS z1];exact hS.gens g x (by rw [gS z1];exact e)
    have z7:cj T X R W σ {V.setGen M .finished with heap:=h'}:=G.turn (fun c o t e=>hk c o (hS.heap c o (d c o t e) e)) z8 (iD hS.bare rfl) (hS.os.trans G.rel.r.os.symm);refine⟨W,rfl,z7,fun B S O Z=>⟨Z.F,Z.fr,Z.n,Z.ρ,fun c o e=>?_⟩⟩;obtain⟨D,I⟩:=Z.th c o e
    by_cases t:z.h c=none
    .exact⟨D,hk c D (hS.heap c D (d c D t I) I)⟩
    .cases q:z.h c with
     |none=>exact absurd q t
     |some x0=>have:=O c x0 q;rw [e]at this;cases this
 step:=fun R W σ s k z p k' hA hj G hn=>by
  obtain⟨y,rfl,M,gs,w,F,h1,⟨hc,nm,qn,hd,hs⟩,h3,h4,h5,h6,h7,h8⟩:=hj;cases y with
  |nil=>cases hn
  |cons p0 y=>
   cases hn;have j:∀c o,z.h c=some o->s.heap.get? c=some o:=fun c o e=>G.rel.r.hR c o (bw.mpr (.inl e))
   obtain⟨own,H,o1,o2,o3,o4,o5⟩:=h8 s j (fun c o e=>G.rel.r.hF c o (h6 c o e)) G.rel.r.bare G.rel.r.os;refine pk (g:=M) (gs:=gs) (n:=y.length+1) (P:=fun n z0 V=>n=0/\dk T.os own z0 V) (Y:=sN T F own H) hA.hnd (G.rel.r.top.nolim _ G.rel.r.hF) (by have:=hA.dep;exact ci 0x10000084400800010421 rfl this) ⟨w,nm,qn,j a w h1,hc,hd,hs⟩ (G.rel.r.hG M gs (co.mpr (.inl h3))) o5 (fun v V u hb hy=>?_) (fun V hp h' hk=>absurd hp.1 (zU _));obtain⟨y0,N,vs,k0,y1,rfl,y3,y4,y5,y6,y7,y8,y9⟩:=hy;have w3:H.drop (H.length-(y.length+1))=p::y:=o3.symm;obtain⟨w6,z6⟩:=gb w3;have C:y.length+1<=H.length:=o4;have z9:H[H.length-1-y.length]?=some (.tup y0):=y1;rw [show H.length-1-y.length=H.length-(y.length+1)from by exact bB ((dP (y.length) (H.length-1)).elim (fun u0=>OZ (aA (vz C)) (aA (dY u0)) (aA (qj C))) (fun u0=>Qj C (eg (dY u0)) (aA (qj C)))) ((dP (y.length) (H.length-1)).elim (fun u0=>Pm (aA (vz C)) (aA (qj C)) (aA (dY u0))) (fun u0=>Qg u0 (aA (vz C)) (aA (qj C)) (eg (dY u0)))),w6]at z9
   obtain rfl:=aZ z9;have w9:∀c,(s.setGen M .running).heap.get? c=s.heap.get? c:=fun _=>rfl
   have d:∀c o,z.h c=none->s.heap.get? c=some o->c∉own:=fun c o t e hm=>by
    rcases(o2 c hm).2 with q|q
    .exact q t
    .rw [q]at e;exact aW e
   have z8:∀g x,z.g g=none->s.gens[g]?=some x->(V.setGen M u).gens[g]?=some x:=fun g x t e=>by
    have z1:g≠M:=fun q=>by rw [q,h3]at t;cases t
    rw [gS z1];exact y7.gens g x (by rw [gS z1];exact e)
   have x3:V.gens[M]?=some .running:=y7.gens M _ (setGen_self (G.rel.r.hG M gs (co.mpr (.inl h3))));have z7:cj T X R W σ (V.setGen M u):=G.turn (s':=V.setGen M u) (fun c o t e=>y7.heap c o (d c o t e) e) z8 (iD y7.bare hb) (y7.os.trans G.rel.r.os.symm);have w7:V.heap.get? a=some w:=y7.heap a w o1 (j a w h1)
   let z':Fz:=⟨fun c=>if c=a\/c∈own then V.heap.get? c else none,fun g=>if g=M then some u else none⟩
   have z4:∀c o,z'.h c=some o->(c=a\/c∈own)/\V.heap.get? c=some o:=fun c o e=>by
    have e':(if c=a\/c∈own then V.heap.get? c else none)=some o:=e
    by_cases U:c=a\/c∈own
    .rw [aC U]at e';exact⟨U,e'⟩
    .rw [aF U]at e';exact aW e'
   have x2:z'.h a=some w:=by show(if a=a\/a∈own then _ else _)=_;rw [aC (.inl rfl)];exact w7
   have x7:dp T X R W σ (V.setGen M u) z':=G.renew z7 (fun c o e=>by
     obtain⟨U,e'⟩:=z4 c o e;refine⟨e',?_⟩;rcases U with rfl|U
     .left;rw [h1];simp
     .exact(o2 c U).2) (fun g x e=>by
     have e':(if g=M then some u else none)=some x:=e
     by_cases z2:g=M
     .subst z2
      rw [aC rfl]at e';obtain rfl:=aZ e'
      exact⟨setGen_self x3,.inl (by rw [h3];simp)⟩
     .rw [aF z2]at e';exact aW e')
   have z5:∀B S,dC z S->cH B S W s.heap->dC z' S/\∀c o,S.get? c=some o->∃o',V.heap.get? c=some o':=fun B S O Z=>by
    have x1:∀c,c∈own->S.get? c=none:=fun c U=>by
     rcases(o2 c U).2 with q|q
     .cases r:z.h c with
      |none=>exact absurd r q
      |some o'=>exact O c o' r
     .cases r:S.get? c with
      |none=>rfl
      |some o'=>obtain⟨D,I⟩:=Z.th c o' r;rw [q]at I;exact aW I
    refine⟨fun c o e=>?_,fun c o e=>?_⟩
    .rcases(z4 c o e).1 with rfl|U
     .exact O _ _ h1
     .exact x1 c U
    .obtain⟨D,I⟩:=Z.th c o e
     exact⟨D,y7.heap c D (fun hm=>by rw [x1 c hm]at e;exact aW e) I⟩
   obtain⟨qs,x4,f⟩:=h7 _ (.head _);have hJ:∀W',(∀c o,W.F c=some o->W'.F c=some o)->Qx T A a W' (.its y) z':=fun W' w8=>by
    refine⟨y,rfl,M,u,w,F,x2,⟨hc,nm,qn,hd,hs⟩,by show(if M=M then _ else _)=_;rw [aC rfl],fun g' z2=>?_,h5,fun c o e=>w8 c o (h6 c o e),fun q hq=>h7 q (.tail _ hq),fun w2 w5 w0 x8 x5=>?_⟩
    .by_cases h:g'=M
     .exact h
     .exfalso;apply z2;show(if g'=M then _ else _)=_;rw [aF h]
    .refine⟨own,H,o1,fun c U=>⟨(o2 c U).1,.inl ?_⟩,?_,by exact wj C,?_⟩
     .obtain⟨o,ho⟩:=y8 c U
      have:z'.h c=some o:=by show(if c=a\/c∈own then _ else _)=_;rw [aC (.inr U)];exact ho
      rw [this];simp
     .rw [show H.length-y.length=H.length-(y.length+1)+1 from by exact bB (Hv (aA (wj C)) (aA (qj C))) (GU (aA (qj C)) (aA (wj C)))];exact z6.symm
     .refine y9 (w2.setGen M .running) (fun c U o e=>w5 c o ?_) ⟨h5,w0,fun c U=>(o2 c U).1,iD x8 rfl,x5⟩
      show(if c=a\/c∈own then _ else _)=_;rw [aC (.inr U)];exact e
   rcases y5 with y5|y5
   .refine⟨.ref N,W,z',rfl,⟨N,vs,k0,rfl,h6 _ _ y5,y6.plain (by cases x4;exact f)⟩,hJ W fun _ _ e=>e,x7,fun B S O Z=>?_⟩
    obtain⟨d1,d2⟩:=z5 B S O Z;exact⟨d1,Z.F,Z.fr,Z.n,Z.ρ,d2⟩
   .have z3:s.heap.get? N=none:=y5
    have x9:W.F N=none:=by
     cases q:W.F N with
     |none=>rfl
     |some o'=>have:=G.rel.r.hF N o' q;rw [z3]at this;exact aW this
    have hex:∀c o,s.heap.get? c=some o->c≠N:=fun c o e q=>by rw [q,z3]at e;exact aW e
    have w4:z'.h N=none:=by
     show(if N=a\/N∈own then _ else _)=_;rw [aF]
     rintro (q|q)
     .exact hex a w (j a w h1) q.symm
     .exact y4 q
    have x6:=x7.addF (c:=N) (o:={cls:=.type "tuple",data:=.seq vs k0}) y3 x9 (fun i hi=>by obtain⟨_,_,_,o,h⟩:=G.rel.r.fre i hi;exact hex _ o h)
     (by obtain⟨m,hm,_⟩:=G.rel.l.m;obtain⟨o,_,_,ho,_⟩:=hm;exact hex _ o ho) (fun hP=>by obtain⟨_,_,q,h,_⟩:=G.rel.r.tabs _ hP;rw [z3]at h;exact aW h) w4
    have hx:=Wd.fz_ext W (o:=({cls:=.type "tuple",data:=.seq vs k0}:Obj)) x9;refine⟨.ref N,W.fz N {cls:=.type "tuple",data:=.seq vs k0},z',rfl,⟨N,vs,k0,rfl,by show(if _=_ then _ else _)=_;rw [aC rfl],y6.plain (by cases x4;exact f)⟩,hJ _ hx.F,x6,fun B S O Z=>?_⟩;obtain⟨d1,d2⟩:=z5 B S O Z;refine⟨d1,fun c o e=>hx.F c o (Z.F c o e),fun c o e=>?_,Z.n,Z.ρ,d2⟩;have e':(if c=N then some ({cls:=.type "tuple",data:=.seq vs k0}:Obj)else W.F c)=some o:=e
    by_cases U:c=N
    .subst U
     right
     cases r:S.get? c with
     |none=>rfl
     |some o'=>obtain⟨D,I⟩:=Z.th c o' r;rw [z3]at I;exact aW I
    .rw [aF U]at e';exact Z.fr c o e'
end
end
section
open PySem.Builtin
section
variable {T:Tp}{X:Cx}{R:Fz}{W:Wd}{σ:AS}{s s':Shared}{b:Nat}{A:Around}
noncomputable def ui(x:Str):Bool:=x.cps.toList.all fun c=>decide (c<128)
noncomputable def Ia:List PV->Option Str
 |[p]=>(match p with
  |.str x=>some x
  |_=>none)
 |_=>none
theorem wR{Z:List PV}{x:Str}(h:Ia Z=some x):Z=[.str x]:=by
 cases Z with
 |nil=>exact aW h
 |cons p Z=>cases Z with
  |cons _ _=>exact aW h
  |nil=>cases p with
   |str y=>obtain rfl:=(aZ h).symm;rfl
   |_=>exact aW h
noncomputable def sm(f:LR):AS->Option (IK×AS):=fS f fun Z σ=>(Ia Z).bind fun x=>if ui x&&!cE false x.cps.toList then some (.its (ff 0 false x.cps.toList),σ)else none
noncomputable def ny(T:Tp)(b:Nat)(Z:Addr):Prop:=
 ∀A X R W σ s x t,jb b A->ui x=true->cE false x.cps.toList=false->cj T X R W σ s->
  wpAny (model T.prog T.w) A (runValue (.call (.ref Z) ⟨[.str x t],[]⟩)) (kx T b X A R W s (.its (ff 0 false x.cps.toList)) σ) bf s
theorem iX.esc{f:Expr}{C:List Expr}{V:Pos}{w:Addr}{fo:Obj}{fd:FuncData}{fs:LR}(hf:aN T b X f (ab (.val (.ref w))))(hL:gD T b X C fs)(hC:ny T b w)
  (hK:T.K.lookup w=some fo) (hd:fo.data=.func fd) (l:∀U,(starEach C U).any (·.1)=false:=by intro _;rfl)
  (h:∀U,eval (.Call f C [] V) U=(do callWith V (<-eval f U) [] (backTo V (starEach C U)) []):=by intro _;rfl):iX T b X (.Call f C [] V) (sm fs):=by
 refine⟨?_⟩;intro A R W σ s k N g E hr;obtain⟨ps,p,D,E⟩:=aS E;refine dh E fun x ex E=>gU E fun Y hq=>?_
 cases wR ex;rw [cR,mW]at Y
 cases hq;rw [h];refine aR (aI (hf.1 A R W σ s _ σ g rfl hr) fun y u G Q hu M=>?_);rw [show u=.ref w from hu];refine vr (o:=fo) (fd:=fd) (cV (cD (l _)) (bG (hL.1 A R y σ G _ N V g D M) (fun vs H m=>?_) ar));obtain⟨B,S,n,Z⟩:=m;obtain⟨v,rfl,t,rfl⟩:=UX n;refine⟨⟨Z.r.hF _ _ (Z.r.top.kin _ _ hK),hd⟩,?_⟩;refine bG (hC A X R B N H x t g Y.1 Y.2 Z) (fun v I m=>?_) ar;obtain⟨J,O,z,P,c,d,i,hg⟩:=m;have j:=(Q.trans S).trans hg;refine(P X).self R O N I _ z _ _ c d ⟨J,O,z,P,c,d,fun a o q=>?_,j⟩;cases r:s.heap.get? a with
 |none=>rfl
 |some o'=>
  obtain⟨e,F⟩:=(Q.trans S).th a o' r;have:=i a o q;rw [F]at this;cases this
theorem jF:∀(Z:List Nat) (i:Nat) (e:Bool),∀p∈ff i e Z,∃Y,p=.tup Y/\Y.all mF=true
 |[],_,e,p,h=>by cases e<;>cases h
 |c::Z,i,true,p,h=>by
  rcases cN.mp h with rfl|h
  .exact⟨_,rfl,rfl⟩
  .exact jF Z _ _ p h
 |c::Z,i,false,p,h=>by
  dsimp only [lp,li,lA]at h
  split at h
  .exact jF Z _ _ p h
  .rcases cN.mp h with rfl|h
   .exact⟨_,rfl,rfl⟩
   .exact jF Z _ _ p h
theorem ny.of{f:Addr}{fo:Obj}{fd:FuncData}{q1 q2 q3 q4 q5 q6 q7 q8 q9 x1 x0:Pos}{k1 k2 kk:Nat}{ts:List Expr}{tp:Pos}{w c2 y1 y2:Expr}{sF sT:Stmt}{y7 y9 y6 y8 x3 x2:Pos}{M:Expr}{d:List Stmt}
  (D:3<=b)
  (hK:T.K.lookup f=some fo) (hd:fo.data=.func fd) (w2:fd.scope.isCoroutine=false) (x9:fd.scope.isGenerator=true)
  (hb:fd.body=.stmts (jt q1 q2 q3 q4 q5 q6 q7 q8 q9 x1 x0 k1 k2 kk ts tp w c2 y1 y2 sF sT y7 y9 y6 y8 x3 x2 M d))
  (v5:fd.globals=mainGlobals) (u2:fd.builtins=builtinsNs) (v8:fd.closure=[])
  (v9:∀h:Heap,Frag.In T.K h->h.CodeRec fd.code fd.qualname)
  (z9:∀v:Value,∀s:Shared,Frag.In T.K s.heap->BindsTo s fd ⟨[v],[]⟩ ([("addr",v)]:List (Str×Value)))
  (z7:∀x∈fd.scope.names,x.2≠.cell)
  (hX:∀L,bA ⟨pa fd.qualname fd.scope f L fd.code [],([("addr":Str),"pos","escape","ch"]:List Str),[]⟩)
  (z6:∀F,ki T F->∀h:Heap,FH F h->∃mg mb,h.Ns mainGlobals mg/\mg "enumerate"=none/\h.Ns builtinsNs mb/\mb "enumerate"=some (.type "enumerate")) (v3:fd.scope.names.lookup ("enumerate":Str)=some NameKind.globalImplicit)
  (B:∀L,uE T.nt 0 ⟨pa fd.qualname fd.scope f L fd.code [],([("addr":Str),"pos","escape","ch"]:List Str),[]⟩ (.Tuple ts kk tp) w c2 y1 y2 sF sT)
  (w3:∀L,fW T.nt 0 ⟨pa fd.qualname fd.scope f L fd.code [],([("addr":Str),"pos","escape","ch"]:List Str),[]⟩ M (aq (aa 2))):ny T b f:=by
 intro A X R W σ s x t hA w4 w1 U;have z0:∀s':Shared,FH W.F s'.heap->Frag.In T.K s'.heap:=fun s' h a o e=>h a o (U.r.top.kin a o e)
 have v7:=U.r.hF _ _ (U.r.top.kin _ _ hK);refine uU (codeAny_call_generator (by have:=hA.dep;exact ci 0x400802110000080410800308022 rfl D this) v7 hd w2 x9 hb (v9 _ (z0 s U.r.hF)) ?_);refine bG (z9 (.str x t) s (z0 s U.r.hF) _ _ bf (fun b s'=>b=([("addr",Value.str x t)]:List (Str×Value))/\s=s') ⟨rfl,rfl⟩) (fun u4 u5 u1=>?_) ar;obtain⟨rfl,rfl⟩:=u1;have hv:=(hX s.heap.objs.size).vars;refine vi z7 (fun x hx=>by cases hx with|head=>exact hv "addr" (by exact oI)|tail _ h=>cases h) (fun O w9 x8=>?_) (hX 0).kind;have keep:∀c o,s.heap.get? c=some o->O.get? c=some o:=fun c o e=>
  x8.extBut c o (gn (bL e)) (dU _ e)
 have y5:FH W.F O:=fun c o e=>keep c o (U.r.hF c o e)
 refine⟨U.r.top.nolim _ y5,?_⟩;have w0:newEnv fd.scope s.heap.objs.size fd.globals fd.closure (fd.qualname++".<locals>.") (some f) fd.code none fd.builtins=pa fd.qualname fd.scope f s.heap.objs.size fd.code []:=by
  rw [v5,u2,v8];rfl
 rw [w0];have x7:O.objs.size=s.heap.objs.size+1:=by rw [x8.1];simp [Heap.push]
 obtain⟨oL,es,ep,w8,z3⟩:=id w9;have w5:s.heap.get? s.heap.objs.size=none:=by
  cases q:s.heap.get? s.heap.objs.size with
  |none=>rfl
  |some o=>exact absurd (bL q) (eG _)
 have w7:s.heap.get? (s.heap.objs.size+1)=none:=by
  cases q:s.heap.get? (s.heap.objs.size+1)with
  |none=>rfl
  |some o=>exact absurd (show(s.heap.objs.size+1:Nat)<s.heap.objs.size from bL q) (by exact(fun u=>aH 0x840010421 rfl u))
 have j:s.gens[s.gens.size]?=none:=by simp
 let oG:Obj:={cls:=.type "generator",data:=.fields #[.int s.gens.size 0,.str fd.name (s.toks+1),.str fd.qualname (s.toks+1+1)]}
 let c0:Code:=.func (jt q1 q2 q3 q4 q5 q6 q7 q8 q9 x1 x0 k1 k2 kk ts tp w c2 y1 y2 sF sT y7 y9 y6 y8 x3 x2 M d) (pa fd.qualname fd.scope f s.heap.objs.size fd.code [])
 let Q:Shared:={s with heap:=O.push oG,gens:=s.gens.push (.fresh c0),toks:=s.toks+1+1+1}
 let z:Fz:=⟨fun c=>if c=s.heap.objs.size+1 then some oG else if c=s.heap.objs.size then some oL else none,fun g=>if g=s.gens.size then some (.fresh c0)else none⟩
 have Y:∀c o,s.heap.get? c=some o->Q.heap.get? c=some o:=fun c o e=>dU _ (keep c o e)
 have y3:Q.heap.get? s.heap.objs.size=some oL:=dU _ w8
 have y4:Q.heap.get? (s.heap.objs.size+1)=some oG:=by rw [<-x7];exact iI _ rfl
 have z2:∀c o,z.h c=some o->(c=s.heap.objs.size+1/\o=oG)\/(c=s.heap.objs.size/\o=oL):=fun c o e=>by
  have G:(if c=s.heap.objs.size+1 then some oG else if c=s.heap.objs.size then some oL else none)=some o:=e
  by_cases H:c=s.heap.objs.size+1
  .rw [aC H]at G;obtain rfl:=aZ G;exact .inl ⟨H,rfl⟩
  .rw [aF H]at G
   by_cases I:c=s.heap.objs.size
   .rw [aC I]at G;obtain rfl:=aZ G;exact .inr ⟨I,rfl⟩
   .rw [aF I]at G;exact aW G
 have z1:∀g y,z.g g=some y->g=s.gens.size/\y=.fresh c0:=fun g y e=>by
  have G:(if g=s.gens.size then some (GenState.fresh c0)else none)=some y:=e
  by_cases H:g=s.gens.size
  .rw [aC H]at G;obtain rfl:=aZ G;exact⟨H,rfl⟩
  .rw [aF H]at G;exact aW G
 have S:∀c o,s.heap.get? c=some o->z.h c=none:=fun c o e=>by
  cases q:z.h c with
  |none=>rfl
  |some n=>
   rcases z2 c n q with⟨rfl,_⟩|⟨rfl,_⟩
   .rw [w7]at e;exact aW e
   .rw [w5]at e;exact aW e
 have V:cj T X R W σ Q:=by
  refine⟨⟨U.r.top,fun a o e=>Y a o (U.r.hF a o e),fun a o e=>Y a o (U.r.hR a o e),fun g y e=>?_,fun i ao e=>let⟨H,o,I,h3⟩:=U.r.trk i ao e;⟨H,o,Y _ _ I,h3⟩,fun i hi=>let⟨H,I,h3,o,h4⟩:=U.r.fre i hi;⟨H,I,h3,o,Y _ _ h4⟩,U.r.inj,fun P hP=>let⟨H,I,ps,h3,h4⟩:=U.r.tabs P hP;⟨H,I,ps,Y _ _ h3,h4⟩,?_,U.r.os,U.r.sysm⟩,U.l.ext Y,U.nx⟩
  .have:=U.r.hG g y e
   have v2:g<s.gens.size:=(Bw.mp this).1;show(s.gens.push _)[g]?=_;rw [Array.getElem?_push,aF (gn v2)];exact this
  .intro y hy
   rcases Array.mem_push.mp hy with hy|rfl
   .exact U.r.bare y hy
   .rfl
 have z5:dp T X R W σ Q z:=by
  refine⟨⟨V.r.more (fun a o e=>?_) (fun g y e=>?_) (fun i hi=>?_) (fun P hP=>?_),⟨V.l.m,V.l.nF,?_,V.l.t,V.l.ρ,V.l.cv⟩,V.nx⟩,fun a o e=>?_,fun a o e=>?_,fun g y e=>?_⟩
  .rcases bw.mp e with e|⟨_,e⟩
   .rcases z2 a o e with⟨rfl,rfl⟩|⟨rfl,rfl⟩
    .exact y4
    .exact y3
   .exact V.r.hR a o e
  .rcases co.mp e with e|⟨_,e⟩
   .obtain⟨rfl,rfl⟩:=z1 g y e
    show(s.gens.push _)[s.gens.size]?=_;rw [Array.getElem?_push_size]
   .exact V.r.hG g y e
  .obtain⟨_,I,_,o,h4⟩:=U.r.fre i hi
   exact aJ.mpr ⟨S _ o h4,I⟩
  .obtain⟨_,I,ps,h3,_⟩:=U.r.tabs P hP
   exact aJ.mpr ⟨S _ _ h3,I⟩
  .obtain⟨m,hm,_⟩:=U.l.m
   obtain⟨o,_,_,ho,_⟩:=hm;exact aJ.mpr ⟨S _ o ho,U.l.nR⟩
  .cases q:W.F a with
   |none=>rfl
   |some n=>have:=S a n (U.r.hF a n q);rw [e]at this;cases this
  .cases q:R.h a with
   |none=>rfl
   |some n=>have:=S a n (U.r.hR a n q);rw [e]at this;cases this
  .cases q:R.g g with
   |none=>rfl
   |some n=>
    have:=U.r.hG g n q;rw [(z1 g y e).1,j]at this;exact aW this
 have w6:W.F s.heap.objs.size=none:=aX U.r.hF (bZ _);have u6:W.F (s.heap.objs.size+1)=none:=aX U.r.hF (jo _);have x6:z.h (s.heap.objs.size+1)=some oG:=aC rfl;have x5:z.h s.heap.objs.size=some oL:=by
  show(if _=_ then _ else if _=_ then _ else _)=_;rw [aF (gn (kB _)),aC rfl]
 have x4:z.g s.gens.size=some (.fresh c0):=aC rfl;have v4:kx T b X A R W s (.its (ff 0 false x.cps.toList)) σ (.ref (s.heap.objs.size+1)) Q:=by
  refine⟨Qx T A (s.heap.objs.size+1),W,z,fun X=>DQ _,?_,z5,?_,cH.keep Y⟩
  .refine⟨_,rfl,s.gens.size,.fresh c0,oG,W.F,x6,⟨rfl,_,_,rfl,rfl⟩,x4,fun g' v6=>?_,U.r.top,fun _ _ e=>e,jF _ _ _,fun Z E N z8 z4=>?_⟩
   .cases q:z.g g' with
    |none=>exact absurd q v6
    |some y=>exact(z1 g' y q).1
   .have C:s.heap.objs.size+1<Z.heap.objs.size:=bL (E _ _ x6)
    have y0:Z.heap.get? s.heap.objs.size=some oL:=E _ _ x5;have v1:Z.heap.get? Z.heap.objs.size=none:=by
     cases q:Z.heap.get? Z.heap.objs.size with
     |none=>rfl
     |some o=>exact absurd (bL q) (eG _)
    have v0:Z.heap.get? (Z.heap.objs.size+1)=none:=by
     cases q:Z.heap.get? (Z.heap.objs.size+1)with
     |none=>rfl
     |some o=>exact absurd (show(Z.heap.objs.size+1:Nat)<Z.heap.objs.size from bL q) (by exact(fun u=>aH 0x840010421 rfl u))
    refine⟨[s.heap.objs.size,Z.heap.objs.size+1,Z.heap.objs.size],ff 0 false x.cps.toList,?_,fun c hc=>?_,by rw [Nat.sub_self];rfl,bZ _,rfl,?_⟩
    .intro hm
     have u7:(s.heap.objs.size+1:Nat)<Z.heap.objs.size:=C;rcases cN.mp hm with q|hm
     .exact absurd (show(s.heap.objs.size+1:Nat)=s.heap.objs.size from q) (by exact(fun u=>aH 0x840010821 rfl u))
     rcases cN.mp hm with q|hm
     .exact absurd (show(s.heap.objs.size+1:Nat)=Z.heap.objs.size+1 from q) (by exact(fun u=>bb 0x210804108002144200840010422 rfl C u))
     .exact absurd (show(s.heap.objs.size+1:Nat)=Z.heap.objs.size from cJ.mp hm) (by exact(fun u=>bb 0x40108002144200840010422 rfl C u))
    .rcases cN.mp hc with rfl|hc
     .exact⟨w6,.inl (by rw [x5];simp)⟩
     rcases cN.mp hc with rfl|hc
     .exact⟨aX N (jo _),.inr v0⟩
     .rw [cJ.mp hc];exact⟨aX N (bZ _),.inr v1⟩
    .have u3:jN T W.F [s.heap.objs.size] (Z.setGen s.gens.size .running):=⟨U.r.top,N,fun a ha=>by rw [cJ.mp ha];exact w6,iD z8 rfl,z4⟩
     exact Iq (X:=⟨pa fd.qualname fd.scope f s.heap.objs.size fd.code [],([("addr":Str),"pos","escape","ch"]:List Str),[]⟩) (s:=Z.setGen s.gens.size .running) (t:=t) (B _) (w3 _) (hX _) rfl rfl w2 (by unfold interactive;have:=(hX 0).kind;simp only [pa]at this ⊢;rw [this];rfl) (z6 _ U.r.top) v3
      ⟨by have:=hA.dep;show A.depth+0+1+0<_;exact ci 0x80008420084021082110000080410800308022 rfl D this,by have:=hA.uni;show A.units+1+0+3+8*0+100<_;exact ci 0x1006420023080210840210842084401908002061008410800308102 rfl D this,hA.hnd⟩
      (fun it k p=>⟨by have:=hA.dep;show A.depth+(1+0)+0+0<_;exact ci 0x80008021084021082110000080410800308022 rfl D this,by have:=hA.uni;show A.units+1+(3+0)+0+8*0+100<_;exact ci 0x100642002008c210840210842084401908002061008410800308102 rfl D this,hA.hnd⟩)
      u3 ⟨oL,es,ep,y0,z3⟩ rfl (fun c hc=>gw (dl.mp w4 c hc)) w1
  .intro c o e
   rcases z2 c o e with⟨rfl,rfl⟩|⟨rfl,rfl⟩
   .exact w7
   .exact w5
 show kx T b X A R W s (.its (ff 0 false x.cps.toList)) σ (.ref O.objs.size) _;rw [x7];exact v4
end
end
section
variable {T:Tp}{X:Cx}{R:Fz}{W:Wd}{σ:AS}{s:Shared}{b:Nat}{A:Around}
theorem cj.drawn(Z:cj T X R W σ s)(d:_):cj T X R W σ {s with drawn:=d}:=Z.ext (fun _ _ e=>e) rfl rfl
noncomputable def Nk:GR
 |[]=>fun σ=>some (.loc σ.nx,{σ with st:=(σ.nx,.set [])::σ.st,nx:=σ.nx+1})
 |_=>fun _=>none
theorem NT:gB T b (.type "set") Nk:=by
 intro X A R W σ s M O N P I Y Q V;unfold Nk at Y
 split at Y
 .cases Y
  subst V;refine call_set_0 fun Z=>?_
  obtain⟨g,U⟩:=Q.newId (o:={cls:=.type "set",dict:=none,data:=.set #[] 0 (.fresh 0 0 Z)}) rfl (ao:=.set []) ⟨[],rfl,fun S=>Ja Z⟩ s.toks;exact⟨_,g,oa Q rfl,U⟩
 .exact aW Y
noncomputable def HL:Option AO->Option (List PV)
 |some (.set Z)=>some Z
 |_=>none
theorem rP{o:Option AO}{Z:List PV}(h:HL o=some Z):o=some (.set Z):=by
 cases o with
 |none=>exact aW h
 |some Y=>cases Y with
  |set l=>obtain rfl:=(aZ h).symm;rfl
  |_=>exact aW h
noncomputable def Hm(p q:PV):ER:=oq (fun a=>ES (fun i σ=>(HL (σ.st.lookup i)).bind fun Y=>(iZ Y).bind fun Z=>if Z.length<4096 then some (.bool (decide (a∈Z)),σ)else none) q) p
theorem ml:∀(Z:List Int),iZ (Z.map .int)=some Z
 |[]=>rfl
 |n::Z=>by simp [EY,Ed,ml Z]
theorem ME:bH T b (compareOp .In) Hm:=by
 intro X A R W σ s p q u v I U E Z Y P Q;refine eV Z P fun a t Z=>pP Z Q fun i Z F=>dh Z fun H e Z=>dh Z fun G V Z=>gU Z fun M Z=>bx Z ?_
 obtain⟨_,o,N,S,rfl,O⟩:=Y.r.trk i _ (rP e);rw [ml]at V;cases V
 refine wpAny_inSet_of (knd:=PySem.intKind T.prog T.w) (k:=a) (Ap a t) rfl ((O T.prog).setOf N M) ?_
 exact aL.same Y rfl
theorem yK{Y:Type}{Z:Array Y}(h:Z.size=1):(SetTable.eraseAt Z 0).size=0:=by
 unfold SetTable.eraseAt;simp [h]
theorem yD{Y:Type}{Z:Array Y}{p:Nat}{x:Y}(h:p<=Z.size):(SetTable.insertAt Z p x).size=Z.size+1:=by
 unfold SetTable.insertAt;simp;exact bB (gP 0x42300840084001080118020100420840000822 rfl (fM (dY h)) (aA (dY h))) (gP 0x80108002104230080118020100428840000a22 rfl (fM (dY h)) (aA (dY h)))
theorem kZ(V:Array Nat)(j:Nat):∀Z lo Y,lo<=Y->SetTable.below.go V j Z lo Y<=Y
 |0,lo,Y,h=>h
 |Z+1,lo,Y,h=>by
  unfold SetTable.below.go
  split
  .dsimp only
   split
   .exact kZ V j Z _ _ (by omega)
   .exact bJ (kZ V j Z _ _ (by omega)) (by omega)
  .exact h
theorem KB(Z:Array Nat)(j:Nat):SetTable.below Z j<=Z.size:=kZ Z j _ _ _ (jy _)
theorem yh{t:SetTable}(h:t.fits 1=true):(t.popped 0).fits 0=true:=by
 unfold SetTable.fits SetTable.fill at h
 rw [cR,iS,gJ]at h
 obtain⟨Z,Y⟩:=h;unfold SetTable.popped SetTable.drop;rw [FC (by exact(aH 0x210842000a21 rfl Z))];unfold SetTable.fits SetTable.fill;simp only [cR,iS,gJ];rw [yK Z,yD (KB _ _)];exact⟨bB (uZ 0x2008020 rfl) (uZ 0x2008020 rfl),ci 0x10021080400880110020000400842000a22 rfl Z Y⟩
theorem wd{t:SetTable}(h:t.fits 1=true):t.popPlace=some 0:=by
 unfold SetTable.fits at h
 rw [cR,iS]at h
 unfold SetTable.popPlace;have:t.place.isEmpty=false:=by
  rw [<-Bool.not_eq_true,Array.isEmpty_iff_size_eq_zero];exact fun Z=>aH 0x80020842000a22 rfl h.1 Z
 rw [this,aF kD];dsimp only;rw [h.1]
 split
 .congr 1;omega
 .rfl
theorem Be{a:Addr}{o:Obj}{N:Nat}{t:SetTable}{V:Int}{x:Value}{Q:Option Value->Shared->Prop}{E:Value->Shared->Prop}{Y:Program}{w:World}
  (P:s.heap.get? a=some o) (O:o.data=.set #[(V,x)] N t) (U:t.fits 1=true)
  (h:∀d,Q (some x) {s with heap:=s.heap.update a (Obj.putSet #[] (t.popped 0)),drawn:=d}):wpAny (model Y w) A (setPop a) Q E s:=by
 unfold setPop;refine aR (wpAny_setState_of P O U ?_);dsimp only;rw [wd U];dsimp only;have Z:∀d,wpAny (model Y w) A (do
   let some (_,x):=(#[(V,x)]:Array (Int×Value))[0]?|unsupported "internal:set.pop"
   storeSet a (SetTable.eraseAt #[(V,x)] 0) (t.popped 0)
   return some x) Q E {s with drawn:=d}:=fun d=>by
  have M:SetTable.eraseAt #[(V,x)] 0=#[]:=by unfold SetTable.eraseAt;rfl
  show wpAny _ _ (storeSet a (SetTable.eraseAt #[(V,x)] 0) (t.popped 0) >>= fun _=>pure (some x)) _ _ _;rw [M];refine aR (wpAny_storeSet_of (s:={s with drawn:=d}) P O ?_ (jy _));exact bo (h d)
 unfold setsByText;refine aR (aR (Kc (bo ?_)))
 split
 .exact aR (oz (src:=Source.order) fun d=>Z d)
 .refine aR (kT (a:=()) ?_ (Z s.drawn))
  obtain⟨_,_,_,_,S,_,_⟩:=t;cases S<;>rfl
theorem Mb(z:cj T X R W σ s){i:Nat}{a:Int}{o:Obj}(e:σ.st.lookup i=some (.set [.int a]))(I:s.heap.get? (W.ρ i)=some o)(B:∀Z,o.SetObjOf (PySem.intKind Z T.w) (fun k=>decide (k∈[a])) [a].length):
  wpAny (model T.prog T.w) A (call (.builtin "set.pop") [.ref (W.ρ i)]) (aL T X R W s (.int a) {σ with st:=av σ.st i (.set [])}) bf s:=by
 obtain⟨hex,H,j,t,E,u,S,v,P⟩:=B T.prog;have U:H.size=1:=v;obtain⟨⟨m,x⟩,rfl⟩:∃y,H=#[y]:=by
  refine⟨H[0],?_⟩;apply Array.ext
  .simpa using U
  .intro i q l
   have:i=0:=by exact bB (bb 0x2100020004010842000822 rfl U q) (aH 0x8020 rfl)
   subst this;rfl
 have C:∃t,x=.int a t:=by
  have:=(S a).mp (by simp);obtain⟨y,D,G⟩:=this;rw [cJ.mp D]at G
  have Q:Value.isInt a x=true:=G;cases x<;>simp [Value.isInt]at Q
  rw [Q];exact⟨_,rfl⟩
 obtain⟨p,rfl⟩:=C;refine Ar JZ ⟨_,I,hex.1⟩ F.entry_set_pop ?_ (F.args_set_pop_1 _)
 unfold Builtin.«set.pop» Builtin.Frozenset.noArgs;simp only [List.isEmpty_nil,bind_assoc];unfold Builtin.Frozenset.addrOf;refine aR (bo ?_);refine aR (Be I E P fun d=>?_);dsimp only;have Y:=fun Z=>SetOf_store (knd:=PySem.intKind Z T.w) I hex E (es':=#[]) (t':=t.popped 0) (S':=fun k=>decide (k∈([]:List Int))) (fun e r=>by simp at r) (fun k=>by simp) (by show 0<4096;exact uZ 0x4000a008420 rfl) (yh P)
 have N:=z.drawn d;obtain⟨g,M⟩:=N.updId e (Aa s.heap (W.ρ i) (Obj.putSet #[] (t.popped 0))) (Y T.prog).1 (ao:=.set []) ⟨[],rfl,fun Z=>by
  obtain⟨n,V,O⟩:=((Y Z).2).objOf;rw [(Y Z).1]at V;obtain rfl:=aZ V;exact O⟩ s.toks
 exact bo ⟨_,rfl,W,g,eh _ _,M⟩
noncomputable def Oz:List PV->Option Int
 |[p]=>(match p with
  |.int a=>some a
  |_=>none)
 |_=>none
theorem BJ{Z:List PV}{a:Int}(h:Oz Z=some a):Z=[.int a]:=by
 cases Z with
 |nil=>exact aW h
 |cons p Z=>cases Z with
  |cons _ _=>exact aW h
  |nil=>cases p with
   |int b=>obtain rfl:=(aZ h).symm;rfl
   |_=>exact aW h
noncomputable def Cl:GR:=g1 (ES fun i σ=>(HL (σ.st.lookup i)).bind fun Z=>(Oz Z).bind fun a=>some (.int a,{σ with st:=av σ.st i (.set [])}))
theorem HU:gB T b (.builtin "set.pop") Cl:=by
 intro X A R W σ s O G F P D Z Q U;refine Fw Z U fun q u Z N=>pP Z N fun i Z E=>dh Z fun O e Z=>dh Z fun a H Z=>bx Z ?_
 cases BJ H;have e:=rP e;obtain⟨_,o,I,S,Y,M⟩:=Q.r.trk i _ e;have V:S=[a]:=by
  cases S with
  |nil=>exact KC Y
  |cons x l=>cases l with
   |cons _ _=>cases Y
   |nil=>cases Y;rfl
 subst V;exact Mb Q e I M
noncomputable def UM(f:ER):ER:=fun σ=>match f {σ with st:=(σ.nx,.set [])::σ.st,nx:=σ.nx+1}with
 |some (.int a,Z)=>(match Z.st.lookup σ.nx with
  |some (.set [])=>some (.loc σ.nx,{Z with st:=av Z.st σ.nx (.set [.int a])})
  |_=>none)
 |_=>none
theorem GA{f:ER}{r:PV×AS}(h:UM f σ=some r):∃a Z,f {σ with st:=(σ.nx,.set [])::σ.st,nx:=σ.nx+1}=some (.int a,Z)/\Z.st.lookup σ.nx=some (.set [])/\r=(.loc σ.nx,{Z with st:=av Z.st σ.nx (.set [.int a])}):=by
 unfold UM at h
 cases e:f {σ with st:=(σ.nx,.set [])::σ.st,nx:=σ.nx+1}with
 |none=>rw [e]at h;exact aW h
 |some y=>
  obtain⟨p,Z⟩:=y;rw [e]at h
  cases p with
  |int a=>
   have h:(match Z.st.lookup σ.nx with|some (.set [])=>some (PV.loc σ.nx,{Z with st:=av Z.st σ.nx (.set [.int a])})|_=>none)=some r:=h;cases Y:Z.st.lookup σ.nx with
   |none=>rw [Y]at h;exact aW h
   |some U=>cases U with
    |set V=>cases V with
     |nil=>rw [Y]at h;exact⟨a,Z,rfl,Y,(aZ h).symm⟩
     |cons _ _=>rw [Y]at h;exact aW h
    |_=>rw [Y]at h;exact aW h
  |_=>exact aW h
set_option tactic.hygienic true in
theorem aN.sg{e:Expr}{k:Nat}{M:Pos}{f:ER}(h:aN T b X e f)(D:kdsCode T.K X.env.code=true)
  (F:(displayRoad k [e]==.constants)=false:=by rfl) (U:(displayRoad k [e]==.unsure)=false:=by rfl) (hp:kdsPlain e=true:=by rfl):aN T b X (.Set [e] k M) (UM f):=by
 refine⟨?_⟩;intro A R W σ s pv g hA hf u;obtain⟨a,Z,i,O,P⟩:=GA hf;obtain⟨rfl,rfl⟩:pv=.loc σ.nx/\g={Z with st:=av Z.st σ.nx (.set [.int a])}:=⟨bv Prod.fst P,bv Prod.snd P⟩;rw (occs:=.all) [arm_eval_Set];refine aR (iM ?_);refine aR (kds_main (K:=T.K) (fun a o q=>u.r.hF a o (u.r.top.kin a o q)) D fun b'=>?_);rw (occs:=.all) [kds_star [e] (by simp [hp]),oB];refine kds_core (ts:=(evalEach [e] X.env).map fun t=>do let v <-t;standAt M;pure v) F ?_ ?_ ?_ fun C=>?_
 .refine List.findIdx?_eq_none_iff.mpr fun x hx=>?_
  obtain⟨t,_,rfl⟩:=iq.mp hx;rfl
 .rw (occs:=.all) [cW,kds_len];exact fJ rfl
 .rw (occs:=.all) [oB];rfl
 .rw (occs:=.all) [U]
  obtain⟨j,G⟩:=u.newId (o:={cls:=.type "set",dict:=Option.none,data:=.set #[] 0 (.fresh 0 0 C)}) rfl (ao:=.set []) ⟨[],rfl,fun S=>Ja C⟩ s.toks;refine kds_all M [e] _ _ ?_
  refine bG (h.1 A R _ _ _ _ _ hA i G) (fun v Y E=>?_) ar;obtain⟨N,Q,⟨t,rfl⟩,V⟩:=E;obtain⟨c,o,ho,ns,d,hs⟩:=V.r.trk σ.nx _ O;have m:ns=[]:=Am.mp d.symm;subst m;have I:N.ρ σ.nx=s.heap.objs.size:=by
   have h1:=Q.ρ σ.nx (by rw (occs:=.all) [u.nx];show W.n<W.n+1;exact aH 0x210004000420 rfl);rw (occs:=.all) [h1];show(if σ.nx=W.n then _ else _)=_;rw (occs:=.all) [aC u.nx]
  show wpAny _ _ (setAdd s.heap.objs.size (.int a t)) _ _ _;unfold setAdd;refine gI (aR ((PySem.intKind T.prog T.w).pyHash (Ap a t) ?_));rw [I]at ho
  refine wpAny_setAddHashed_of (knd:=PySem.intKind T.prog T.w) (s:={Y with toks:=Y.toks+1}) (Ap a t) rfl ((hs T.prog).setOf ho (by show 0<4096;exact uZ 0x4000a008420 rfl)) (by show 0+1<4096;exact uZ 0x4000a108420 rfl) fun h' z z1=>?_
  obtain⟨o',p,y⟩:=z1.objOf;have z0:(fun B=>decide (B∈([]:List Int))||decide (B=a))=fun B=>decide (B∈[a]):=funext fun B=>by simp
  rw [z0]at y
  rw [<-I]at z p
  obtain⟨l,H⟩:=V.updId O z p (ao:=.set [.int a]) ⟨[a],rfl,fun S=>y.intSetOf S T.w⟩ (Y.toks+1);refine kds_fill_nil rfl ?_
  refine⟨N,j.trans (Q.trans l),⟨c,by rw (occs:=.all) [I]⟩,H⟩
end
section
variable {T:Tp}{X:Cx}{R:Fz}{W:Wd}{σ:AS}{s:Shared}{b:Nat}{A:Around}
structure GG(K:Frag)(C:Addr):Prop where
 hga:findIn K (.ref C) "__getattribute__"=some (some (.builtin "object.__getattribute__"))
 hk:findIn K (.ref C) "__getattr__"=some none
 cd:(clsIn K C).any (fun cd=>cd.hasDict)=true
 h0:findIn K (.ref C) "_headers"=some none
theorem ph{V:Obj}{x:Addr}(h:nk V x)(Z:Str):lookIn Z V=some (if Z=("_headers":Str)then some (.ref x)else none):=by
 obtain⟨U,M,O,S,Q⟩:=h;have:=Q Z;unfold nsFind findBy at this
 unfold lookIn;rw [O];dsimp only;rw [By];cases q:U.find? fun e=>e.key.isStr Z with
 |some e=>
  rw [q]at this
  rw [<-this];rfl
 |none=>
  rw [q]at this
  rw [<-this];have Y:U.toList.any (·.refKey)=false:=by
   rw [List.any_eq_false];intro e P;obtain⟨n,t,N⟩:=S e (Array.mem_toList_iff.mp P);unfold DictEntry.refKey;rw [N];exact(fun h=>mU h)
  dsimp only;rw [aF (by rw [Y];exact kD)];rfl
theorem xF(Y:cj T X R W σ s){C:Addr}{l:Nat}{u:Value}(U:bk W (.hdr C l) u):∃a V Z,u=.ref a/\l<W.n/\InstAt s.heap a V C (some Z)/\nk Z (W.ρ l):=by
 obtain⟨S,a,D,Z,rfl,O,P,Q⟩:=U;exact⟨a,_,Z,rfl,S,⟨Y.r.hF _ _ O,rfl,rfl,Y.r.hF _ _ P⟩,Q⟩
noncomputable def uI(C:Addr):PV->ER
 |.hdr Z l=>fun σ=>if Z=C then some (.loc l,σ)else none
 |_=>fun _=>none
theorem Ff{C:Addr}{p:PV}{r:PV×AS}(h:uI C p σ=some r):∃l,p=.hdr C l/\r=(.loc l,σ):=by
 cases p with
 |hdr Y l=>exact gU (show(if Y=C then some (PV.loc l,σ)else none)=some r from h) fun Z h=>⟨l,by rw [Z],(aZ h).symm⟩
 |_=>exact aW h
set_option tactic.hygienic true in
theorem aN.headers{C:Addr}(G:GG T.K C){e:Expr}{S:Pos}{f:ER}(h:aN T b X e f)
  (w:∀N,eval (.Attribute e "_headers" S) N=(do
   let o <-eval e N
   standAt S.atName
   let r <-holding [o] (getAttr o "_headers" true)
   letTemporaryGo e o r
   pure r):=by intro _;rfl) (B:∀o r,letTemporaryGo e o r=pure ():=by intro _ _;rfl):aN T b X (.Attribute e "_headers" S) (cY f (uI C)):=by
 refine⟨?_⟩;intro A R W σ s E M m x z;obtain⟨p,Y,O,P⟩:=lx x;rw [w];refine aR (aI (h.1 A R W σ s p Y m O z) fun U u F Q D Z=>?_);obtain⟨l,rfl,V⟩:=Ff P;obtain⟨rfl,rfl⟩:E=.loc l/\M=Y:=⟨bv Prod.fst V,bv Prod.snd V⟩;obtain⟨a,k,j,rfl,y,t,n⟩:=xF Z D;obtain⟨i,H,I⟩:=any_some G.cd;refine aR (iM (aR (gI (get_value (K:=T.K) (v:=.ref (U.ρ l)) (fun a o q=>Z.r.hF a o (Z.r.top.kin a o q)) t G.hga ?_ rfl ?_))))
 .unfold findObj
  rw [H,iO,G.h0,iO];dsimp only;rw [iO];unfold PySem.W.ownOf;rw [I,aC rfl];dsimp only;rw [ph n,aC rfl];rfl
 .rw [B]
  exact aR (bo (bo ⟨U,Q,⟨y,rfl⟩,Z.tok _⟩))
theorem rh(Y:cj T X R W σ s){C:Addr}(V:GG T.K C){l:Nat}{u:Value}(S:bk W (.hdr C l) u){Z:Str}{f:Addr}(N:findIn T.K (.ref C) Z=some (some (.ref f)))(P:typeIn T.K (.ref f)=some (.type "function"))
  (O:(Z==("_headers":Str))=false) {U:Sem Bool} {Q:Value×List Value->Shared->Prop} {E:Value->Shared->Prop} (h:Q (.ref f,[u]) s):wpAny (model T.prog T.w) A (getMethod u Z U) Q E s:=by
 obtain⟨a,H,G,rfl,F,M,I⟩:=xF Y S;refine method_fn (K:=T.K) (fun a o q=>Y.r.hF a o (Y.r.top.kin a o q)) M V.hga V.hk N P ?_ h
 unfold shadowIn;dsimp only;rw [ph I,aF (by simpa using O)];rfl
noncomputable def tN(C:Addr):PV->Bool
 |.hdr Z _=>decide (Z=C)
 |_=>false
set_option tactic.hygienic true in
theorem tY{C:Addr}{p:PV}(h:tN C p=true):∃l,p=.hdr C l:=by
 unfold tN at h
 split at h
 .rename_i Z l;cases gw h;exact⟨l,rfl⟩
 .exact mU h
noncomputable def dI(C:Addr)(S:bO)(f:ER)(U:LR):ER:=fun σ=>match f σ with
 |some (p,Y)=>if tN C p=true then(match U Y with
  |some (V,Z)=>dQ S (fZ Z.st 2 (bY (p::V))) (p::V) Z
  |none=>none)else none
 |none=>none
set_option tactic.hygienic true in
theorem aN.hcall{C:Addr}(hC:GG T.K C){o:Expr}{U:Str}{P Y:Pos}{x:List Expr}{f:ER}{e:LR}{v:Addr}{fo:Obj}{fd:FuncData}{c:bO}
  (hm:findIn T.K (.ref C) U=some (some (.ref v))) (m:typeIn T.K (.ref v)=some (.type "function")) (hn:(U==("_headers":Str))=false)
  (hf:aN T b X o f) (k:gD T b X x e) (j:aU T b (.ref v) (fun F=>⟨F,[]⟩) c) (hK:T.K.lookup v=some fo) (hd:fo.data=.func fd)
  (G:∀Z,attributeBase o U Z (eval o Z)=eval o Z:=by intro _;rfl)
  (H:∀Z,methodCallForm (x.length+([]:List Keyword).length) (backTo Y (starEach x Z)) (backToKw Y (keywordEach [] Z))=true:=by intro _;rfl)
  (n:∀Z,(starEach x Z).any (·.1)=false:=by intro _;rfl)
  (D:(P.endLine==Y.line)=true:=by rfl):aN T b X (.Call (.Attribute o U P) x [] Y) (dI C c f e):=by
 refine⟨?_⟩;intro A R W σ s pv a i O hr;unfold dI at O
 split at O
 .rename_i p S y
  split at O
  .rename_i q
   split at O
   .rename_i ps M z
    obtain⟨l,rfl⟩:=tY q;rw [arm_eval_Call,G];refine aR (aI (hf.1 A R W σ s _ S i y hr) fun w u E B g Q=>?_);refine aR (iM ?_);unfold methodCall;rw [H];refine aR (gI (rh Q hC g hm m hn ?_));have I:methodCallPos true o X.env P Y=pure Y:=by unfold methodCallPos;simp [D]
    refine aR (kT I ?_);refine vr (o:=fo) (fd:=fd) (cV (cD (n _)) (bG (k.1 A R w S E ps M Y i z Q) (fun F h q=>?_) ar));obtain⟨d,N,t,V⟩:=q;refine⟨⟨V.r.hF _ _ (V.r.top.kin _ _ hK),hd⟩,?_⟩;exact dB (B.trans N) (oM (mk:=fun F=>⟨F,[]⟩) j i O V ⟨u,F,rfl,g.mono N.ext,t⟩)
   .exact aW O
  .exact aW O
 .exact aW O
end
section
variable {T:Tp}{X:Cx}{R:Fz}{W:Wd}{σ:AS}{s:Shared}{b:Nat}{A:Around}
theorem aP.snoc{W:Wd}{Y:List PV}{q:PV}{Z:List Value}{v:Value}(h:aP W Y Z)(V:bk W q v):aP W (Y++[q]) (Z++[v]):=h.append ⟨v,[],rfl,V,rfl⟩
noncomputable def sP(k:Str):List Value->Args:=fun Z=>⟨Z.dropLast,[(k,Z.getLast?.getD .none)]⟩
noncomputable def eJ(C:Addr)(P:bO)(f:ER)(S:LR)(Q:ER):ER:=fun σ=>match f σ with
 |some (p,V)=>if tN C p=true then(match S V with
  |some (U,Y)=>(match Q Y with
   |some (q,Z)=>dQ P (fZ Z.st 2 (bY (p::(U++[q])))) (p::(U++[q])) Z
   |none=>none)
  |none=>none)else none
 |none=>none
set_option tactic.hygienic true in
theorem aN.hcallK{C:Addr}(hC:GG T.K C){o:Expr}{P:Str}{F Z Y:Pos}{d:List Expr}{e:Expr}{k:Str}{f:ER}{fs:LR}{fk:ER}{c:Addr}{fo:Obj}{fd:FuncData}{Ct:bO}
  (hm:findIn T.K (.ref C) P=some (some (.ref c))) (y1:typeIn T.K (.ref c)=some (.type "function")) (hn:(P==("_headers":Str))=false)
  (hf:aN T b X o f) (y2:gD T b X d fs) (hk:aN T b X e fk) (y3:aU T b (.ref c) (sP k) Ct) (hK:T.K.lookup c=some fo) (hd:fo.data=.func fd)
  (g:∀V,attributeBase o P V (eval o V)=eval o V:=by intro _;rfl)
  (h:∀V,methodCallForm (d.length+[(⟨some k,e,Y⟩:Keyword)].length) (backTo Z (starEach d V)) (backToKw Z (keywordEach [⟨some k,e,Y⟩] V))=true:=by intro _;rfl)
  (y0:∀V,(starEach d V).any (·.1)=false:=by intro _;rfl)
  (z1:(F.endLine==Z.line)=true:=by rfl):aN T b X (.Call (.Attribute o P F) d [⟨some k,e,Y⟩] Z) (eJ C Ct f fs fk):=by
 refine⟨?_⟩;intro A R W σ s pv z8 hA E hr;unfold eJ at E
 split at E
 .rename_i p M z5
  split at E
  .rename_i hp
   split at E
   .rename_i ps N z4
    split at E
    .rename_i q y z3
     obtain⟨l,rfl⟩:=tY hp;rw [arm_eval_Call,g];refine aR (aI (hf.1 A R W σ s _ M hA z5 hr) fun z7 u D z2 hu H=>?_);refine aR (iM ?_);unfold methodCall;rw [h];refine aR (gI (rh H hC hu hm y1 hn ?_));have i:methodCallPos true o X.env F Z=pure Z:=by unfold methodCallPos;simp [z1]
     refine aR (kT i ?_);refine callWith_function_kw (o:=fo) (fd:=fd) ?_
     have I:wpAny (model T.prog T.w) A (spliced (backTo Z (starEach d X.env))) (fun O Q=>wpAny (model T.prog T.w) A (evalAll ((backToKw Z (keywordEach [⟨some k,e,Y⟩] X.env)).map (·.2))) (fun ks S=>
       (S.heap.get? c=some fo/\fo.data=.func fd)/\wpAny (model T.prog T.w) A (PySem.call (.ref c) ([u]++O) (([some k].filterMap id).zip ks)) (aL T X R W s pv z8) bf S) bf Q) bf D:=by
      refine bG (y2.1 A R z7 M D ps N Z hA z4 H) (fun O Q hp=>?_) ar;obtain⟨z6,z,z9,j⟩:=hp;refine wpAny_evalAll_cons (aR (aI (hk.1 A R z6 N Q q y hA z3 j) fun y4 v S G hv U=>aR (iM (bo (wpAny_evalAll_nil ?_)))));refine⟨⟨U.r.hF _ _ (U.r.top.kin _ _ hK),hd⟩,?_⟩;have hcall:=oM (mk:=sP k) (X:=X) (vs:=u::(O++[v])) y3 hA E U ⟨u,O++[v],rfl,hu.mono (z.trans G).ext,(z9.mono G.ext).snoc hv⟩;have he:sP k (u::(O++[v]))=⟨[u]++O,([some k].filterMap id).zip [v]⟩:=by
       unfold sP
       congr 1
       .rw [show u::(O++[v])=(u::O)++[v]from rfl,List.dropLast_concat];rfl
       .rw [show u::(O++[v])=(u::O)++[v]from rfl,List.getLast?_concat];rfl
      rw [he]at hcall
      exact dB ((z2.trans z).trans G) hcall
     have B:(backToKw Z (keywordEach [⟨some k,e,Y⟩] X.env)).all (·.1.isSome)=true:=rfl;have hb:=cD (pos:=Z) (y0 X.env);generalize backTo Z (starEach d X.env)=n at I hb
     cases n with
     |nil=>
      unfold evalArgs;dsimp only;refine aR (m:=spliced []) (bG I (fun O Q z0=>aR (bo ?_)) ar);dsimp only;refine gI ?_
      rw [B,aC rfl];exact aR (bG z0 (fun ks S a=>aR (bo (bo a))) ar)
     |cons t ts=>
      obtain⟨f1,x⟩:=t;cases f1 with
      |false=>exact evalArgs_kw B I
      |true=>trivial
    .exact aW E
   .exact aW E
  .exact aW E
 .exact aW E
end
structure nZ(code:Array Nat):Prop where
 h0:Sre.ops[code.getD 0 0]?=some .INFO
 h2:code.getD 2 0=4
 hs:∀c seen,32<=c->c<127->∃seen',Sre.inSet code c code.size 5 true seen=.ok (false,seen')
theorem lN{m:Sre.M}(W:nZ m.code)(X:∀s,s<m.lim->32<=m.text.getD s 0/\m.text.getD s 0<127):∀Y s seen,∃Z,m.admitted Y s seen=.ok (none,Z)
 |0,s,seen=>⟨seen,rfl⟩
 |Y+1,s,seen=>by
  unfold Sre.M.admitted
  split
  .exact⟨seen,rfl⟩
  .rename_i h
   obtain⟨U,V⟩:=X s (by exact(bb 0x4010840000c21 rfl h));obtain⟨Z,e⟩:=W.hs _ seen U V;rw [e];exact lN W X Y (s+1) Z
structure MJ(m:Sre.M):Prop where
 answer:m.answer=some false
 frames:m.frames=[]
 outcome:m.outcome=none
theorem ug{m:Sre.M}(Y:nZ m.code)(X:∀s,s<m.lim->32<=m.text.getD s 0/\m.text.getD s 0<127)(U:m.frames=[])(W:m.outcome=none)(s:Nat)(first:Bool):MJ (m.attemptFrom s first):=by
 unfold Sre.M.attemptFrom;have V:m.hasFirstSet=true:=by
  unfold Sre.M.hasFirstSet;rw [Y.h0,Y.h2];rfl
 rw [V];obtain⟨Z,e⟩:=lN Y X (m.lim+1-s) s m.seen;rw [e];exact⟨rfl,U,W⟩
theorem xq{code Z:Array Nat}{g:Nat}(X:nZ code)(Y:∀s,s<Z.size->32<=Z.getD s 0/\Z.getD s 0<127):MJ (Sre.forSearch code Z g 0 Z.size false):=by
 unfold Sre.forSearch;dsimp only
 split
 .exact⟨rfl,rfl,rfl⟩
 .exact ug X Y rfl rfl _ _
theorem IF{m:Sre.M}(h:MJ m):∃Z,m.runFor 4=Z/\Z.outcome=some .failed:=by
 refine⟨_,rfl,?_⟩;have Y:m.step={m with outcome:=some .failed}:=by
  unfold Sre.M.step;rw [h.outcome,h.answer,h.frames];rfl
 unfold Sre.M.runFor;rw [h.outcome,Y];rfl
theorem SO:nZ #[14,10,4,1,1,22,0,31,16,127,0,13,7,22,0,31,16,127,0,1] where
 h0:=rfl
 h2:=rfl
 hs:=fun c seen Y h2=>by
  have W:(decide (0<=c)&&decide (c<=31))=false:=by simp;exact aH 0xf84210002020021 rfl Y
  have X:(c==127)=false:=by simp;exact fun Z=>aH 0xfe4000511fc8000422 rfl h2 Z
  refine⟨((seen.add 22).add 16).add 0,?_⟩;show(if(decide (0<=c)&&decide (c<=31))=true then _ else(if(c==127)=true then _ else _))=_;rw [W,X];rfl
theorem Tf:nZ #[14,14,4,1,1,9,4294966783,0,0,2147483648,0,0,0,0,0,13,11,9,4294966783,0,0,2147483648,0,0,0,0,0,1] where
 h0:=rfl
 h2:=rfl
 hs:=fun c seen Z h2=>by
  have Y:(decide (c<256)&&((#[14,14,4,1,1,9,4294966783,0,0,2147483648,0,0,0,0,0,13,11,9,4294966783,0,0,2147483648,0,0,0,0,0,1]:Array Nat).getD (5+(1+c/32)) 0).testBit (c%32))=false:=by
   have:∀c:Fin 127,32<=c.val->((#[14,14,4,1,1,9,4294966783,0,0,2147483648,0,0,0,0,0,13,11,9,4294966783,0,0,2147483648,0,0,0,0,0,1]:Array Nat).getD (5+(1+c.val/32)) 0).testBit (c.val%32)=false:=by decide
   rw [this ⟨c,h2⟩ Z,Bool.and_false]
  refine⟨(seen.add 9).add 0,?_⟩;show(if(decide (c<256)&&((#[14,14,4,1,1,9,4294966783,0,0,2147483648,0,0,0,0,0,13,11,9,4294966783,0,0,2147483648,0,0,0,0,0,1]:Array Nat).getD (5+(1+c/32)) 0).testBit (c%32))=true then _ else _)=_;rw [Y];rfl
section
variable {prog:Program}{w:World}{A:Around}{E:Value->Shared->Prop}{s:Shared}
theorem kM{M:Model}(p:Nat->Bool)(t:Nat->String){Q:Unit->Shared->Prop}(h:Q () s):∀l:List Nat,wpAny M A (forIn l PUnit.unit fun i _=>if p i=true then do rule (t i);pure (ForInStep.yield PUnit.unit)else pure (ForInStep.yield PUnit.unit)) (fun _=>Q ()) E s
 |[]=>by rw [HD];exact bo h
 |i::l=>by
  rw [qE]
  split
  .exact aR (aR (wpAny_rule (bo (kM p t h l))))
  .exact aR (bo (kM p t h l))
theorem sJ{m:Sre.M}(h:MJ m){Q:Option Sre.M->Shared->Prop}(W:Q none s):wpAny (model prog w) A (Builtin.Re.reRunToEnd m) Q E s:=by
 unfold Builtin.Re.reRunToEnd;obtain⟨Z,U,X⟩:=IF h;have V:Builtin.Re.reDrive (2^64) m=pure Z:=by
  show Builtin.Re.reDrive ((2^64-1)+1) m=pure Z;unfold Builtin.Re.reDrive;show(if(m.runFor 4).outcome.isSome=true then pure (m.runFor 4)else _)=_;rw [U,X];rfl
 refine aR (kT V ?_);refine aR (bG (kM (Q:=fun _=>Q none) (fun i=>Z.seen.has i) (fun i=>Sre.names.getD i "") W _) (fun _ T Y=>?_) fun _ _ e=>e);rw [X];exact bo Y
noncomputable def Si(o:Obj)(c:Addr):Prop:=o.cls=.type "re.Pattern"/\o.dict=none/\∃(p:Str) (t:Tok) (f:Int×Tok),o.data=.fields #[.str p t,.int f.1 f.2,.int 0 0,.none,.none,.ref c,.int 0 0]
structure Kq(K:Frag)(a:Addr):Prop where
 pat:∃o c oc n vs code,K.lookup a=some o/\Si o c/\K.lookup c=some oc/\oc.data=.seq vs n/\(vs.map Builtin.Re.reRawOf).map (·.toNat)=code/\nZ code
noncomputable def io(x:Str):Bool:=x.cps.toList.all (fun c=>decide (32<=c)&&decide (c<127))&&decide (x.cps.size<=2^20)
theorem uC(v:Value):Builtin.Re.reNamed "re.Pattern.search" "search" ["string","pos","endpos"] 1 [v] []=pure [some v,none,none]:=by left
theorem EK(x:Str)(t:Tok):asStr? (.str x t)=pure (some x):=rfl
theorem Ks{x:Str}(h:io x=true):(∀s,s<x.cps.size->32<=x.cps.getD s 0/\x.cps.getD s 0<127)/\x.cps.size<=2^20:=by
 unfold io at h
 rw [cR,dl]at h
 refine⟨fun s Z=>?_,gw h.2⟩;have:=h.1 (x.cps[s]) (by simp);rw [cR]at this
 rw [Array.getD_eq_getD_getElem?,FC Z];exact⟨gw this.1,gw this.2⟩
theorem wT{K:Frag}{a:Addr}(W:K.In s.heap)(T:Kq K a){x:Str}{t:Tok}(V:io x=true){Q:Fin->Shared->Prop}(U:Q (.done (.ret .none)) s):
  wpAny (model prog w) A (Builtin.«re.Pattern.search» ⟨[.ref a,.str x t],[]⟩) Q E s:=by
 obtain⟨o,c,v,n,y,code,H,⟨P,S,p,X,f,R⟩,I,M,N,O⟩:=T;obtain⟨g1,g2⟩:=Ks V;unfold Builtin.«re.Pattern.search» Builtin.Re.reTarget;dsimp only;refine aR ?_
 refine aR (kT (uC _) ?_);dsimp only;refine aR (bo (aR (bo ?_)));refine aR (wpAny_fieldsOf (W _ _ H) R ?_);unfold Builtin.Re.reTextOf;refine aR (aR (kT (EK _ _) (bo ?_)));generalize Y:min (2^63-1:Int).toNat x.cps.size=lim;generalize Z:min (Int.toNat 0) x.cps.size=ps;have z:(Builtin.Re.reRawNat ((#[Value.str p X,.int f.1 f.2,.int 0 0,.none,.none,.ref c,.int 0 0]:Array Value).getD 6 .none)==0&&(0:Nat)==1)=false:=rfl;have B:(Builtin.Re.reRawNat ((#[Value.str p X,.int f.1 f.2,.int 0 0,.none,.none,.ref c,.int 0 0]:Array Value).getD 6 .none)==1&&(0:Nat)==0)=false:=rfl;rw [z,B];simp only [vv,ma];refine aR (m:=Builtin.Re.reNoCollectionInside (.str x t) 0) (kT (a:=()) rfl ?_);have C:(#[Value.str p X,.int f.1 f.2,.int 0 0,.none,.none,.ref c,.int 0 0]:Array Value).getD 5 .none=.ref c:=rfl;have D:Builtin.Re.reRawNat ((#[Value.str p X,.int f.1 f.2,.int 0 0,.none,.none,.ref c,.int 0 0]:Array Value).getD 2 .none)=0:=rfl;rw [C,D];unfold Builtin.Re.reRawItems;refine aR (aR (wpAny_seqItems (W _ _ I) M (bo (bo ?_))));have F:ps=0:=by rw [<-Z];exact Nat.zero_min _
 have G:lim=x.cps.size:=by rw [<-Y];exact mL (bJ g2 (by decide +kernel))
 rw [F,G];dsimp only [Option.getD_some];rw [N];unfold Builtin.Re.reAnswer;refine aR (sJ (xq O g1) ?_);exact bo U
end
theorem sH:PlainAttrs "re.Pattern":=
 ⟨⟨"object.__getattribute__",by rw [Ak,zC];left,by decide +kernel⟩,by rw [Ak,zC];left⟩
theorem pK:Slot "re.Pattern" "search" "re.Pattern.search":=
 .of (owner:="re.Pattern") (n:="search") (by rw [Ak,zC];left) (by decide +kernel) (by decide +kernel) (by decide +kernel)
  (by first|exact .inl (by decide +kernel)|exact .inr (by decide +kernel)) (by rw [isSubtype_type];left)
theorem yi:typeOf (.builtin "re.Pattern.search")=pure (.type "method_descriptor"):=by show builtinType _=_;rw [builtinType_eq_fast];left
theorem ux:entryFor table "re.Pattern.search"=some Builtin.«re.Pattern.search»:=entryFor_of_tree (by left)
theorem wt(a b:Value):argsOk "re.Pattern.search" ⟨[a,b],[]⟩:=by
 unfold argsOk;left
section
variable {T:Tp}{X:Cx}{R:Fz}{W:Wd}{σ:AS}{s:Shared}{b:Nat}{A:Around}
noncomputable def RL(U:List Addr)(f:ER)(V:LR):ER:=fun σ=>match f σ with
 |some (.val (.ref a),Y)=>if U.contains a then(match V Y with
  |some ([.str x],Z)=>if io x=true then some (.none,Z)else none
  |_=>none)else none
 |_=>none
theorem Jt{Q:List Addr}{f:ER}{S:LR}{r:PV×AS}(h:RL Q f S σ=some r):∃a Z x Y,f σ=some (.val (.ref a),Z)/\Q.contains a=true/\S Z=some ([.str x],Y)/\io x=true/\r=(.none,Y):=by
 unfold RL at h
 cases e:f σ with
 |none=>rw [e]at h;exact aW h
 |some y=>
  obtain⟨p,Z⟩:=y;rw [e]at h
  cases p with
  |val v=>cases v with
   |ref a=>
    refine gU h fun O h=>?_
    cases V:S Z with
    |none=>rw [V]at h;exact aW h
    |some y=>
     obtain⟨U,Y⟩:=y;rw [V]at h
     cases U with
     |nil=>exact aW h
     |cons p U=>cases U with
      |cons _ _=>cases p<;>exact aW h
      |nil=>cases p with
       |str x=>exact gU h fun P h=>⟨a,Z,x,Y,rfl,O,V,P,(aZ h).symm⟩
       |_=>exact aW h
   |_=>exact aW h
  |_=>exact aW h
set_option tactic.hygienic true in
theorem aN.reSearch{as:List Addr}(hP:∀a∈as,Kq T.K a){o:Expr}{P S:Pos}{z:List Expr}{f:ER}{fs:LR}
  (hf:aN T b X o f) (l:gD T b X z fs) (I:∀Y,attributeBase o "search" Y (eval o Y)=eval o Y:=by intro _;rfl)
  (M:∀Y,(((backTo S (starEach z Y)).all fun x=>!x.1)&&((backToKw S (keywordEach [] Y)).all fun x=>x.1.isSome)&&decide ((z.length+([]:List Keyword).length+if([]:List Keyword).isEmpty=true then 0 else 1)<30))=true:=by intro _;rfl)
  (F:∀Y,(starEach z Y).any (·.1)=false:=by intro _;rfl)
  (G:(P.endLine==S.line)=true:=by rfl):aN T b X (.Call (.Attribute o "search" P) z [] S) (RL as f fs):=by
 refine⟨?_⟩;intro A R W σ s pv p g hc hr;obtain⟨a,U,x,O,e,ha,B,hg,Q⟩:=Jt hc;obtain⟨rfl,rfl⟩:pv=.none/\p=O:=⟨bv Prod.fst Q,bv Prod.snd Q⟩;refine sq (I _) (M _) G rfl (aI (hf.1 A R W σ s _ U g e hr) fun w u H C hu V=>?_);rw [show u=.ref a from hu];have i:=hP a (rg.mp ha);obtain⟨o,c,oc,n,vs,code,d,⟨E,k,z0⟩,h2⟩:=id i;have h:=V.r.hF _ _ (V.r.top.kin _ _ d);refine⟨"re.Pattern","re.Pattern.search",sH,pK,yi,⟨o,h,E⟩,fun a' e'=>?_,?_⟩
 .cases e';exact⟨o,h,k⟩
 .refine oK (cD (F _)) (cV (cD (F _)) (bG (l.1 A R w U H _ _ S g B V) (fun vs j hq=>?_) ar))
  obtain⟨y,D,m,Z⟩:=hq;obtain⟨v,rfl,t,rfl⟩:=UX m;have N:=Z.r.hF _ _ (Z.r.top.kin _ _ d);refine Ar pK ⟨o,N,E⟩ ux ?_ (wt _ _)
  exact wT (K:=T.K) (fun a o q=>Z.r.hF a o (Z.r.top.kin a o q)) i hg ⟨_,rfl,y,C.trans D,rfl,Z⟩
end
section
open Builtin Builtin.ObjectAttr
section
variable {prog:Program}{w:World}{A:Around}{E:Value->Shared->Prop}{s:Shared}{K:Frag}{C x D l:Addr}
structure Af(K:Frag)(C:Addr):Prop where
 hp:plainOver K C=true
 ht:takerIn K C "_headers"=some none
 hh:(clsIn K C).any (·.hasDict)=true
 hs:findIn K (.ref C) "__setattr__"=some (some (.builtin "object.__setattr__"))
theorem sK(T:Af K C)(X:K.In s.heap)(O:s.heap.get? x=some (instObj C D))(U:s.heap.get? D=some emptyDict){Q:Unit->Shared->Prop}
  (M:∀P V k,Heap.SameBut D s.heap P->P.get? D=some V->nk V l->Q () {s with heap:=P,toks:=k}):
  wpAny (model prog w) A (setAttr (.ref x) "_headers" (.ref l)) Q E s:=by
 have I:InstAt s.heap x (instObj C D) C (some emptyDict):=⟨O,rfl,rfl,U⟩;refine set_plain (C:=C) (od:=some emptyDict) X I T.hs ?_
 refine osa_open (od:=some emptyDict) (s:={s with toks:=s.toks+1}) X I T.hp T.ht fun b=>?_
 obtain⟨G,H,R⟩:=any_some T.hh;refine aR (bo (aR (aR (HA O (aR ((looks_clsIn X H).at ?_))))));rw [R];refine bo (a:=some D) (aR (bo (aR ?_)));unfold nsSet;refine aR (aR (Kc (bo (aR (wpAny_mkText (aR (HA U ?_)))))));show wpAny _ _ (if aRefKeyMayBeTheName (Str.ofString "_headers") #[]=true then _ else _) _ _ _;rw [show aRefKeyMayBeTheName (Str.ofString "_headers") #[]=false from rfl,aF kD];generalize (if(Str.ofString "_headers").cps.isEmpty=true then(0:Int)else _)=hv;have Y:Obj.putName (Str.ofString "_headers") hv (.str "_headers" (s.toks+1)) (.ref l) emptyDict={cls:=.type "dict",data:=.dict #[⟨hv,.str "_headers" (s.toks+1),.ref l⟩] 1}:=by rfl
 have W:=Heap.get?_update_self (Obj.putName (Str.ofString "_headers") hv (.str "_headers" (s.toks+1)) (.ref l)) U (by rw [Y];rfl)
 rw [Y]at W
 refine wpAny_updatePart U ?_
 refine aR (wpAny_lookBehind W (pastItsLine_dict (by exact mK _)) ?_);refine bo (M _ _ _ (Aa _ _ _) W ⟨_,_,rfl,fun e N=>?_,fun Z=>?_⟩)
 .simp at N;subst N;exact⟨_,_,rfl⟩
 .unfold nsFind findBy
  rw [<-By];show Option.map _ (List.find? _ [_])=_;unfold List.find?;show Option.map _ (match(Value.isStr (.str "_headers" (s.toks+1)) Z)with|true=>_|false=>_)=_
  by_cases S:Z=Str.ofString "_headers"
  .subst S;rfl
  .have:Value.isStr (.str "_headers" (s.toks+1)) Z=false:=by
    simp only [Value.isStr,gp,ne_eq];exact fun e=>S e.symm
   rw [aF S,this];rfl
end
end
section
variable {T:Tp}{X:Cx}{R:Fz}{W:Wd}{σ:AS}{s s':Shared}{b:Nat}{A:Around}
theorem dp.of{z:Fz}(Z:cj T X R W σ s)(Y:∀c o,z.h c=some o->s.heap.get? c=some o/\W.F c=none/\R.h c=none/\c∉T.tabs/\c≠X.env.locals/\∀i,i<W.n->W.ρ i≠c)(S:∀g,z.g g=none):dp T X R W σ s z:=by
 have V:∀c,(∀o,z.h c=some o->False)->z.h c=none:=fun c h=>by
  cases q:z.h c with
  |none=>rfl
  |some o=>exact(h o q).elim
 refine⟨⟨Z.r.more (fun a o e=>?_) (fun g x e=>?_) (fun i U=>?_) (fun P Q=>?_),⟨Z.l.m,Z.l.nF,?_,Z.l.t,Z.l.ρ,Z.l.cv⟩,Z.nx⟩,fun c o e=>(Y c o e).2.1,fun c o e=>(Y c o e).2.2.1,fun g x e=>by rw [S]at e;exact aW e⟩
 .rcases bw.mp e with e|⟨_,e⟩
  .exact(Y a o e).1
  .exact Z.r.hR a o e
 .rcases co.mp e with e|⟨_,e⟩
  .rw [S]at e;exact aW e
  .exact Z.r.hG g x e
 .exact aJ.mpr ⟨V _ fun o e=>(Y _ o e).2.2.2.2.2 i U rfl,(Z.r.fre i U).2.1⟩
 .exact aJ.mpr ⟨V _ fun o e=>(Y _ o e).2.2.2.1 Q,(Z.r.tabs P Q).2.1⟩
 .exact aJ.mpr ⟨V _ fun o e=>(Y _ o e).2.2.2.2.1 rfl,Z.l.nR⟩
noncomputable def QR:Fz:=⟨fun _=>none,fun _=>none⟩
theorem cj.addF(Y:cj T X R W σ s){c:Addr}{o:Obj}(V:s.heap.get? c=some o)(U:W.F c=none)(Z:∀i,i<W.n->W.ρ i≠c)(Q:X.env.locals≠c)(S:c∉T.tabs):cj T X R (W.fz c o) σ s:=by
 have h:=dp.of (z:=QR) Y (fun c o e=>by exact aW e) fun _=>rfl
 exact(h.addF V U Z Q S rfl).out
noncomputable def Qk(D x:Addr)(Y Z:Obj):Fz:=⟨fun a=>if a=D then some Y else if a=x then some Z else none,fun _=>none⟩
theorem HZ{D x:Addr}{V Y:Obj}{a:Addr}{o:Obj}(h:(Qk D x V Y).h a=some o):(a=D/\o=V)\/(a=x/\o=Y):=by
 have Z:(if a=D then some V else if a=x then some Y else none)=some o:=h
 by_cases S:a=D
 .rw [aC S]at Z;obtain rfl:=aZ Z;exact .inl ⟨S,rfl⟩
 .rw [aF S]at Z
  by_cases U:a=x
  .rw [aC U]at Z;obtain rfl:=aZ Z;exact .inr ⟨U,rfl⟩
  .rw [aF U]at Z;exact aW Z
structure VL(T:Tp)(X:Cx)(R:Fz)(W:Wd)(c:Addr):Prop where
 F:W.F c=none
 R:R.h c=none
 L:X.env.locals≠c
 t:c∉T.tabs
 ρ:∀i,i<W.n->W.ρ i≠c
theorem cj.outs(Z:cj T X R W σ s){c:Addr}(e:s.heap.get? c=none):VL T X R W c:=by
 have no {o:Obj} (h:s.heap.get? c=some o):False:=aW (e.symm.trans h);refine⟨?_,?_,fun q=>?_,fun U=>?_,fun i V q=>?_⟩
 .cases q:W.F c with
  |none=>rfl
  |some o=>exact(no (Z.r.hF c o q)).elim
 .cases q:R.h c with
  |none=>rfl
  |some o=>exact(no (Z.r.hR c o q)).elim
 .obtain⟨m,⟨o,_,_,Y,_⟩,_⟩:=Z.l.m
  exact no (q▸Y)
 .obtain⟨_,_,P,Q,_⟩:=Z.r.tabs _ U
  exact no Q
 .obtain⟨_,_,_,o,S⟩:=Z.r.fre i V
  exact no (q▸S)
theorem dp.outs{z:Fz}(Z:dp T X R W σ s z){c:Addr}{o:Obj}(e:z.h c=some o):VL T X R W c:=by
 have no (h:(R.un z).h c=none):False:=aW ((aJ.mp h).1.symm.trans e);exact⟨Z.nF c o e,Z.nR c o e,fun q=>no (q▸Z.rel.l.nR),fun V=>no (Z.rel.r.tabs c V).2.1,fun i Y q=>no (q▸(Z.rel.r.fre i Y).2.1)⟩
theorem Cn(h:Heap){a:Addr}(Z:h.objs.size<=a):h.get? a=none:=by
 cases q:h.get? a with
 |none=>rfl
 |some o=>exact absurd (bL q) (kz.mpr Z)
section
variable {D x:Addr}{oD ox:Obj}
theorem Tc:(Qk D x oD ox).h D=some oD:=aC rfl
theorem Sb(Z:x≠D):(Qk D x oD ox).h x=some ox:=(aF Z).trans (aC rfl)
inductive Lu(W:Wd)(D x:Addr)(oD ox:Obj)(W':Wd):Prop
 |mk(E:GK W W')(hD:W'.F D=some oD)(hx:W'.F x=some ox)(hc:∀a o,W'.F a=some o->a=x\/a=D\/W.F a=some o)
theorem Rs(Z:x≠D)(S:W.F D=none)(U:W.F x=none):Lu W D x oD ox ((W.fz D oD).fz x ox):=by
 have V:=Wd.fz_ext W (o:=oD) S;have Y:=Wd.fz_ext (W.fz D oD) (a:=x) (o:=ox) ((aF Z).trans U);refine⟨⟨fun a o e=>Y.F a o (V.F a o e),bJ V.n Y.n,fun i Q=>rfl⟩,(aF Z.symm).trans (aC rfl),aC rfl,fun a o e=>?_⟩;exact LE (show(if a=x then some ox else if a=D then some oD else W.F a)=some o from e) (fun h _=>.inl h) fun _ e=>LE e (fun h _=>.inr (.inl h)) fun _ e=>.inr (.inr e)
theorem Lu.gro{Y O:Wd}{Z h P:Heap}(g:cH Y Z W h)(p:Lu W D x oD ox O)(H:O.n=W.n)(G:Z.get? D=none)(M:Z.get? x=none)(Q:P.get? D=some oD)(I:∀c,c≠D->P.get? c=h.get? c):cH Y Z O P:=by
 obtain⟨E,d,e,S⟩:=p;refine⟨fun a o q=>E.F a o (g.F a o q),fun a o q=>?_,H▸g.n,fun i N=>(E.ρ i (fj N g.n)).trans (g.ρ i N),fun c o q=>?_⟩
 .rcases S a o q with rfl|rfl|q
  .exact .inr M
  .exact .inr G
  .exact g.fr a o q
 .obtain⟨V,U⟩:=g.th c o q
  by_cases S:c=D
  .rw [S];exact⟨_,Q⟩
  .exact⟨V,(I c S).trans U⟩
end
noncomputable def qV(T:Tp)(b:Nat)(C:Addr):Prop:=
 ∀X A R W σ s,jb b A->cj T X R W σ s->wpAny (model T.prog T.w) A (PySem.call (.ref C) []) (aL T X R W s (.hdr C σ.nx) {σ with st:=(σ.nx,.list [])::σ.st,nx:=σ.nx+1}) bf s
noncomputable def CY(C:Addr):ER:=fun σ=>some (.hdr C σ.nx,{σ with st:=(σ.nx,.list [])::σ.st,nx:=σ.nx+1})
theorem aN.newHdr{C:Addr}(D:qV T b C)(G:keepIn T.K (.ref C)=true){P:Expr}{Y:Pos}(F:aN T b X P (ab (.val (.ref C))))
  (O:∀V,eval (.Call P [] [] Y) V=(do callWith Y (<-eval P V) [] (backTo Y (starEach [] V)) []):=by intro _;rfl):aN T b X (.Call P [] [] Y) (CY C):=by
 refine⟨?_⟩;intro A R W σ s B M N E H;cases E;rw [O];refine aR (aI (F.1 A R W σ s _ σ N rfl H) fun Q u U S I Z=>?_);rw [show u=.ref C from I];refine callWith_K0 (K:=T.K) (fun a o q=>Z.r.hF a o (Z.r.top.kin a o q)) G ?_
 exact dB S (D X A R Q σ U N Z)
theorem qV.of{C fI:Addr}{fo:Obj}{fd:FuncData}{s1 s2 s4:Stmt}{p1 p2 p3 p4:Pos}{f1 f2 f4:SR}
  (hC:Af T.K C) (hm:makesIn T.K C=true) (hi:findIn T.K (.ref C) "__init__"=some (some (.ref fI))) (u6:typeIn T.K (.ref fI)=some (.type "function"))
  (hK:T.K.lookup fI=some fo) (hd:fo.data=.func fd) (u7:fd.scope.isCoroutine=false) (v0:fd.scope.isGenerator=false)
  (hb:fd.body=.stmts [s1,s2,.Assign [.Attribute (.Name "self" p1) "_headers" p2] (.Name "headers" p3) p4,s4])
  (u5:fd.globals=mainGlobals) (t1:fd.builtins=builtinsNs) (u8:fd.closure=[])
  (u9:∀h:Heap,Frag.In T.K h->h.CodeRec fd.code fd.qualname)
  (x5:∀v:Value,∀s:Shared,Frag.In T.K s.heap->BindsTo s fd ⟨[v],[]⟩ ([("self",v),("headers",Value.none)]:List (Str×Value)))
  (x4:∀x∈fd.scope.names,x.2≠.cell)
  (hX:∀L,bA ⟨pa fd.qualname fd.scope fI L fd.code [],([("self":Str),"headers","k","v"]:List Str),[]⟩)
  (u1:∀t2,swapsWith (.Name "headers" p3) (some (.Attribute (.Name "self" p1) "_headers" p2)) p4.line t2=pure false)
  (D:∀L,dc T b ⟨pa fd.qualname fd.scope fI L fd.code [],([("self":Str),"headers","k","v"]:List Str),[]⟩ s1 f1)
  (E:∀L,dc T b ⟨pa fd.qualname fd.scope fI L fd.code [],([("self":Str),"headers","k","v"]:List Str),[]⟩ s2 f2)
  (h4:∀L,bu T b ⟨pa fd.qualname fd.scope fI L fd.code [],([("self":Str),"headers","k","v"]:List Str),[]⟩ [s4] f4)
  (e1:∀p st P,f1 ⟨[some p,some .none,none,none],st,P⟩=some (.next,⟨[some p,cL P,none,none],(P,.list [])::st,P+1⟩))
  (e2:∀p st P,f2 ⟨[some p,cL P,none,none],(P,.list [])::st,P+1⟩=some (.next,⟨[some p,cL P,none,none],(P,.list [])::st,P+1⟩))
  (e4:∀p st P,f4 ⟨[some p,cL P,none,none],(P,.list [])::st,P+1⟩=some (.next,⟨[some p,cL P,none,none],(P,.list [])::st,P+1⟩)):qV T (b+2) C:=by
 intro X A R W σ s hA hr;have N:∀{s':Shared},FH W.F s'.heap->Frag.In T.K s'.heap:=fun h a o e=>h a o (hr.r.top.kin a o e)
 obtain⟨Y,gg,dd,tt,oo⟩:=s;refine wpAny_call (make_core (makes_of (N hr.r.hF) hm) (looks_findIn (N hr.r.hF) hi) (fun w3=>bind_fn (N hr.r.hF) w3 u6) (.inl rfl) ?_)
 let oX:=instObj C Y.objs.size
 let G:=(Y.push emptyDict).push oX
 let s:Shared:=⟨Y,gg,dd,tt,oo⟩
 let Z:Shared:=⟨G,gg,dd,tt,oo⟩
 have Q:∀c o,Y.get? c=some o->G.get? c=some o:=fun c o e=>dU _ (dU _ e)
 have x9:G.get? Y.objs.size=some emptyDict:=dU _ (iI _ rfl)
 have y7:G.get? (Y.objs.size+1)=some oX:=by
  have:=iI (Y.push emptyDict) (o:=oX) rfl
  rwa [vc]at this
 have U:cj T X R W σ Z:=hr.ext (s':=Z) Q rfl rfl;have v3:jb (b+1) (A.under (.builtin "type.__call__" ⟨[.ref C],[]⟩)):=⟨by have:=hA.dep;show A.depth+1+(b+1)<_;exact ci 0x10021080410800210422008210080010421 rfl this,by have:=hA.uni;show A.units+1+8*(b+1)+100<_;exact ci 0x10064204210090308400108410880321041080481800210421 rfl this,hA.hnd⟩;refine zV (by have:=v3.dep;exact ci 0x80000422004210080010421 rfl this) (U.r.hF _ _ (U.r.top.kin _ _ hK)) hd u7 v0 hb (u9 _ (N U.r.hF)) ?_
 refine bG (x5 (.ref (Y.objs.size+1)) Z (N U.r.hF) _ _ bf (fun b s'=>b=([("self",Value.ref (Y.objs.size+1)),("headers",Value.none)]:List (Str×Value))/\Z=s') ⟨rfl,rfl⟩) (fun t3 t5 t0=>?_) ar;obtain⟨rfl,rfl⟩:=t0;have hv:=(hX 0).vars;refine vi x4 (fun x hx=>by
  cases hx with
  |head=>exact hv "self" (by exact oI)
  |tail _ h=>cases h with
   |head=>exact hv "headers" (by exact .tail _ (.head _))
   |tail _ h=>cases h) (fun y u3 n=>?_) (hX 0).kind
 have v1:newEnv fd.scope Z.heap.objs.size fd.globals fd.closure (fd.qualname++".<locals>.") (some fI) fd.code none fd.builtins=pa fd.qualname fd.scope fI Z.heap.objs.size fd.code []:=by
  rw [u5,t1,u8];rfl
 obtain⟨oL,u2,x1,V⟩:=pE (X':=⟨pa fd.qualname fd.scope fI Z.heap.objs.size fd.code [],([("self":Str),"headers","k","v"]:List Str),[]⟩) (loc':=[some (.val (.ref (Y.objs.size+1))),some .none,none,none]) U u3 n (Z.toks+([("self",Value.ref (Y.objs.size+1)),("headers",Value.none)]:List (Str×Value)).length) rfl (fun i x p D E=>by
   match i,D,E with
   |0,D,E=>cases D;cases E;exact⟨_,rfl,rfl⟩
   |1,D,E=>cases D;cases E;exact⟨_,rfl,rfl⟩
   |2,D,E=>exact aW E
   |3,D,E=>exact aW E
   |i+4,D,E=>exact aW E) (fun j x i h=>by trivial)
 have x7:FH W.F y:=fun c o e=>V c o (U.r.hF c o e)
 refine⟨hr.r.top.nolim _ x7,?_⟩;rw [v1]
 let z:=Qk Y.objs.size (Y.objs.size+1) emptyDict oX
 have w9:=Cn Y (bZ _);have w8:=Cn Y (jo _);have z4:Z.heap.objs.size=Y.objs.size+2:=by show G.objs.size=_;rw [vc,vc]
 have hz:∀c o,z.h c=some o->(c=Y.objs.size\/c=Y.objs.size+1)/\y.get? c=some o/\Y.get? c=none:=fun c o e=>by
  rcases HZ e with⟨rfl,rfl⟩|⟨rfl,rfl⟩
  .exact⟨.inl rfl,V _ _ x9,w9⟩
  .exact⟨.inr rfl,V _ _ y7,w8⟩
 have z2:=dp.of (z:=z) x1 (fun c o e=>by
  obtain⟨e1,e2,e3⟩:=hz c o e;have O:=hr.outs e3;refine⟨e2,O.F,aJ.mpr ⟨dE.mpr fun q=>O.L q.symm,O.R⟩,O.t,fun q=>?_,O.ρ⟩;have q:c=Z.heap.objs.size:=q;rw [z4]at q
  exact absurd (show c<Y.objs.size+2 from e1.elim (fun h=>h▸uV (kB _)) (fun h=>h▸kB _)) (q▸eG _)) (fun _=>rfl)
 refine AX ?_
 have M:jb b ((A.under (.builtin "type.__call__" ⟨[.ref C],[]⟩)).deeper (pa fd.qualname fd.scope fI Z.heap.objs.size fd.code [])):=v3.deeper _;refine wf (er ((D Z.heap.objs.size).1 _ _ W _ _ .next _ M (e1 _ σ.st σ.nx) z2.rel) fun v6 fl t4 y1 x3 z0=>?_);rw [show fl=.next from x3];refine wf (er ((E Z.heap.objs.size).1 _ _ v6 _ _ .next _ M (e2 _ σ.st σ.nx) z0) fun v5 fl w2 y0 x3 x0=>?_);rw [show fl=.next from x3];have z1:=(z2.go y1 z0).go y0 x0;have v2:=hX Z.heap.objs.size;refine wf (plainObj_wpAny_Assign_Attribute ?_ (u1 _));refine aI ((aN.loc (T:=T) (b:=b) v2 1 (pos:=p3) rfl).1 _ _ v5 _ w2 (.loc σ.nx) _ M rfl z1.rel) fun v4 u w1 z9 hu f=>?_
 refine aI ((aN.loc (T:=T) (b:=b) v2 0 (pos:=p1) rfl).1 _ _ v4 _ w1 (.val (.ref (Y.objs.size+1))) _ M rfl f) fun H u' z7 z3 u0 I=>?_
 have S:=(z1.go z9 f).go z3 I;rw [show u'=.ref (Y.objs.size+1)from u0];obtain⟨u4,v9⟩:=hu.mono z3.ext;rw [v9];have z5:Y.objs.size+1≠Y.objs.size:=sh (kB _);have y5:z.h Y.objs.size=some emptyDict:=Tc;have w4:z.h (Y.objs.size+1)=some oX:=Sb z5;have x8:=S.rel.r.hR _ _ (bw.mpr (.inl y5));have w:=S.rel.r.hR _ _ (bw.mpr (.inl w4));refine sK hC (fun a o e=>I.r.hF a o (I.r.top.kin a o e)) w x8 fun h' B k n w5 hI=>?_
 have y8:=S.turn (s':={z7 with heap:=h',toks:=k}) (fun c o e1 e2=>(n.2 c (fun q=>by rw [q,y5]at e1;exact absurd e1 (by decide))).trans e2) (fun g x _ e=>e) S.rel.r.bare rfl;have y6:h'.get? (Y.objs.size+1)=some oX:=(n.2 _ z5).trans w;have O1:=S.outs y5;have O2:=S.outs w4;have x6:=(y8.addF (c:=Y.objs.size) (o:=B) w5 O1.F O1.ρ O1.L O1.t).addF (c:=Y.objs.size+1) (o:=oX) y6 ((aF z5).trans O2.F) O2.ρ O2.L O2.t;refine bG ((h4 Z.heap.objs.size).1 _ _ _ _ _ .next _ M (e4 _ σ.st σ.nx) x6) (fun fl w0 x2=>?_) ar;obtain⟨y2,z8,z6,y9⟩:=x2;rw [show fl=.next from z6];refine⟨rfl,?_⟩;have v8:cH W Y H z7.heap:=(((((cH.keep (W:=W) (h:=Y) (h':=y) fun c o e=>V c o (Q c o e)).trans y1).trans y0).trans z9).trans z3);have y3:Lu H Y.objs.size (Y.objs.size+1) B oX ((H.fz Y.objs.size B).fz (Y.objs.size+1) oX):=Rs z5 O1.F O2.F;have y4:cH W Y y2 w0.heap:=(y3.gro v8 rfl w9 w8 w5 n.2).trans z8;obtain⟨_,d,e,_⟩:=y3;have v7:bk ((H.fz Y.objs.size B).fz (Y.objs.size+1) oX) (.hdr C σ.nx) (.ref (Y.objs.size+1)):=⟨u4,Y.objs.size+1,Y.objs.size,B,rfl,e,d,hI⟩;have w6:Y.get? X.env.locals=some oL:=by
  obtain⟨m,hm,_⟩:=hr.l.m;obtain⟨o',_,_,w7,_⟩:=hm;have D:=Q _ _ w7;rw [show G.get? X.env.locals=some oL from u2]at D
  cases D;exact w7
 exact⟨y2,y4,v7.mono z8.ext,pr y9 hr w6 y4⟩
end
section
variable {T:Tp}{X:Cx}{R:Fz}{W:Wd}{σ:AS}{s s':Shared}{b:Nat}{A:Around}
noncomputable def lz(f:ER):SR:=fun σ=>match f σ with
 |some (.loc i,Z)=>(match Z.st.lookup i with|some (.dict [])=>some (.next,Z)|_=>none)
 |_=>none
theorem vU{f:ER}{r:AF×AS}(h:lz f σ=some r):∃i Z,f σ=some (.loc i,Z)/\Z.st.lookup i=some (.dict [])/\r=(.next,Z):=by
 unfold lz at h
 cases e:f σ with
 |none=>rw [e]at h;exact aW h
 |some y=>
  obtain⟨p,Z⟩:=y;rw [e]at h
  cases p with
  |loc i=>
   have h:(match Z.st.lookup i with|some (.dict [])=>some (AF.next,Z)|_=>none)=some r:=h;cases Y:Z.st.lookup i with
   |none=>rw [Y]at h;exact aW h
   |some U=>cases U with
    |dict V=>cases V with
     |nil=>rw [Y]at h;exact⟨i,Z,rfl,Y,(aZ h).symm⟩
     |cons _ _=>rw [Y]at h;exact aW h
    |_=>rw [Y]at h;exact aW h
  |_=>exact aW h
set_option tactic.hygienic true in
theorem dc.forItems0{o:Expr}{U:Expr}{N:List Stmt}{G H z5:Pos}{f:ER}(h:aN T b X o f)
  (p:∀n,attributeBase o "items" n (eval o n)=eval o n:=by intro _;rfl) (l:(G.endLine==H.line)=true:=by rfl)
  (hs:∀x,foldedSetIterable (.Call (.Attribute o "items" G) [] [] H) X.env x=pure x:=by intro _;rfl):
  dc T b X (.For U (.Call (.Attribute o "items" G) [] [] H) N [] z5) (lz f):=by
 refine⟨?_⟩;intro A R W σ s a O hA hf hr;obtain⟨i,B,e,z3,C⟩:=vU hf;obtain⟨rfl,rfl⟩:a=.next/\O=B:=⟨bv Prod.fst C,bv Prod.snd C⟩;refine wpAny_For (sq (trees:=[]) (p _) rfl l rfl (aI (h.1 A R W σ s _ O hA e hr) fun Z u Y z2 hu P=>?_)) hs;obtain⟨hi,rfl⟩:=hu;obtain⟨_,ob,ho,kv,h1,h2,h3⟩:=P.r.trk i _ z3;have y0:kv=[]:=Am.mp h2;subst y0;have hd:Y.heap.DictOf (PySem.strKind T.prog T.w) (Z.ρ i) []:=og.mpr ⟨ob,ho,h1 _⟩;have z6:(Z.ρ i==sysModules)=false:=by rw [gp];exact P.r.sysm i hi
 refine⟨"dict","dict.items",Bx,Gk,F.type_dict_items,hd.typeIs,hd.mapOf.noDict,?_⟩;refine oK rfl (cV rfl (Calls.spliced_nil ?_));refine call_meetsIn Gk hd.typeIs F.entry_dict_items (F.args_dict_items_1 _) (meets_dict_items (PySem.strKind T.prog T.w) (Z.ρ i) z6) ⟨⟨_,hd⟩,?_⟩;obtain⟨ep,j⟩:=KdkAt.of (h1 T.prog);have v:(Y.heap.push {cls:=.type "dict_items",data:=.fields #[.ref (Z.ρ i)]}).get? (Z.ρ i)=some ob:=dU _ ho
 refine wpAny_pyIter_items (d:=Z.ρ i) ⟨_,iI _ rfl,rfl,rfl⟩ (j.dictAt v) ?_
 let V:Shared:={Y with heap:=(Y.heap.push {cls:=.type "dict_items",data:=.fields #[.ref (Z.ρ i)]}).push {cls:=.type "dict_itemiterator",data:=.fields #[.none,.bool false,.ref (Z.ρ i),.int 0 0,.int ([]:List (Str×Value)).length 0,.int ep 0,.none,.none]}}
 have S:∀c o,Y.heap.get? c=some o->V.heap.get? c=some o:=fun c o e=>dU _ (dU _ e)
 have z7:cj T X R Z O V:=P.ext S rfl rfl;show codeAny _ _ (.forLoop U (.ref (Y.heap.push {cls:=.type "dict_items",data:=.fields #[.ref (Z.ρ i)]}).objs.size) N [] X.env) _ V;generalize g:(Y.heap.push {cls:=.type "dict_items",data:=.fields #[.ref (Z.ρ i)]}).objs.size=it;have hI:IsItemIter V.heap it (Z.ρ i) 0 ([]:List (Str×Value)).length ep .none .none:=by rw [<-g];exact iI _ rfl
 have k:Y.heap.get? it=none:=by
  cases q:Y.heap.get? it with
  |none=>rfl
  |some o=>
   have:=bL q;rw [<-g,vc]at this
   exact absurd (show(Y.heap.objs.size+1:Nat)<Y.heap.objs.size from this) (by exact(fun u0=>aH 0x840010421 rfl u0))
 have hu:A.under (.forLoop U (.ref it) N [] X.env)=A:=vV rfl;refine wb ?_
 rw [hu];show wpAny (model T.prog T.w) A ((forTurn U (.ref it) N [] X.env).onRaise (fun x=>do noteFrame x X.env;theTreesLotGoes x)) _ _ V;refine uJ (bG (Q:=fun fin s'=>match fin with
  |.done D=>gF T X R W s .next O D s'
  |.again c'=>c'.quiet=true/\codeAny (model T.prog T.w) A c' (fun r s'=>∃D,r=.ok D/\gF T X R W s .next O D s') s') (E:=bf) ?_ (fun fin s' M=>?_) ar)
 .unfold forTurn
  refine aR (iM ?_);refine aR (uz (bG (wpAny_pyNext_items_end (knd:=PySem.strKind T.prog T.w) (kvs:=[]) (Q:=fun x s'=>x=none/\∃M,Heap.ExtBut it V.heap M/\s'={V with heap:=M}) hA.hnd hI (j.dictAt (S _ _ ho)) rfl fun M m=>⟨rfl,M,m,rfl⟩) (fun x y2 m=>?_) ar));obtain⟨rfl,M,m,rfl⟩:=m;have z9:∀c o,Y.heap.get? c=some o->c≠it:=fun c o e q=>by rw [q,k]at e;exact aW e
  have I:∀c o,Y.heap.get? c=some o->M.get? c=some o:=fun c o e=>m c o (z9 c o e) (S c o e)
  have y:cj T X R Z O {V with heap:=M}:=P.ext I rfl rfl;have z0:cH W s.heap Z M:=z2.trans (cH.keep I);refine bo ⟨rfl,codeAny_block (bG ((bu.nil (T:=T) (b:=b) (X:=X)).1 A R Z O _ .next O hA rfl y) (fun D y1 ⟨z4,z1,t,z⟩=>⟨D,rfl,z4,z0.trans z1,t,z⟩) ar)⟩
 .cases fin with
  |done D=>obtain⟨W',g',t,z8⟩:=M;exact⟨W',g',t,z8⟩
  |again c'=>exact⟨M.1,mt M.2 fun r s' ⟨D,e,hp⟩=>by subst e;exact hp⟩
end
section
variable {T:Tp}{X:Cx}{R:Fz}{W:Wd}{σ:AS}{s s':Shared}{b:Nat}{A:Around}
theorem gQ.lk{st Z:List (Nat×AO)}(h:gQ T R W st s)(e:∀i Y,Z.lookup i=some Y->st.lookup i=some Y):gQ T R W Z s:=
 ⟨h.top,h.hF,h.hR,h.hG,fun i Y q=>h.trk i Y (e i Y q),h.fre,h.inj,h.tabs,h.bare,h.os,h.sysm⟩
theorem gQ.newId{st:List (Nat×AO)}(Z:gQ T R W st s){o:Obj}(v:o.isFreed=false){ao:AO}(t:nM T.w (W.add s.heap.objs.size) ao o)(k:Nat):
  cH W s.heap (W.add s.heap.objs.size) (s.heap.push o)/\gQ T R (W.add s.heap.objs.size) ((W.n,ao)::st) {s with heap:=s.heap.push o,toks:=k}:=by
 have S:=Wd.add_ext W s.heap.objs.size;have Y:(W.add s.heap.objs.size).ρ W.n=s.heap.objs.size:=by show(if W.n=W.n then _ else _)=_;rw [aC rfl]
 have V:∀i,i<(W.add s.heap.objs.size).n->i≠W.n->i<W.n:=fun i Q I=>by
  have:i<W.n+1:=Q;exact(eF I).elim (fun D=>EW D) (fun D=>(bb 0x20084210804000422 rfl this D:False).elim)
 refine⟨⟨S.F,fun a o e=>.inl e,S.n,S.ρ,fun _ o e=>⟨o,dU _ e⟩⟩,?_⟩
 .refine⟨Z.top,fun a U e=>dU _ (Z.hF a U e),fun a U e=>dU _ (Z.hR a U e),Z.hG,fun i z e=>?_,fun i Q=>?_,fun i j Q x e=>?_,fun P B=>?_,Z.bare,Z.os,fun i Q=>?_⟩
  .rw [cU]at e
   cases C:i==W.n with
   |true=>
    rw [C]at e;obtain rfl:=aZ e
    have Q:i=W.n:=oA C;subst Q;exact⟨kB _,o,by rw [Y];exact iI _ v,t⟩
   |false=>
    rw [C]at e
    obtain⟨M,U,E,G⟩:=Z.trk i z e;exact⟨uV M,U,by rw [S.ρ i M];exact dU _ E,G.mono S⟩
  .by_cases I:i=W.n
   .subst I
    rw [Y];refine⟨aX Z.hF (bZ _),aX Z.hR (bZ _),fun B=>?_,o,iI _ v⟩;obtain⟨_,_,y,G,_⟩:=Z.tabs _ B;exact absurd (bL G) (eG _)
   .have h:=V i Q I
    rw [S.ρ i h];obtain⟨M,E,G,U,H⟩:=Z.fre i h;exact⟨M,E,G,U,dU _ H⟩
  .by_cases N:i=W.n<;>by_cases O:j=W.n
   .rw [N,O]
   .subst N
    have h:=V j x O;rw [Y,S.ρ j h]at e
    obtain⟨_,_,_,U,H⟩:=Z.fre j h;exact absurd (bL H) (by rw [<-e];exact eG _)
   .subst O
    have h:=V i Q N;rw [Y,S.ρ i h]at e
    obtain⟨_,_,_,U,H⟩:=Z.fre i h;exact absurd (bL H) (by rw [e];exact eG _)
   .have h:=V i Q N
    have u:=V j x O;rw [S.ρ i h,S.ρ j u]at e
    exact Z.inj i j h u e
  .obtain⟨M,E,y,G,H⟩:=Z.tabs P B
   exact⟨M,E,y,dU _ G,H⟩
  .by_cases I:i=W.n
   .subst I;rw [Y]
    obtain⟨a,U,M,E⟩:=Z.top.big;exact fun q=>absurd (bL (Z.hF a U M)) (by rw [q];exact kz.mpr (iR E))
   .have h:=V i Q I
    rw [S.ρ i h];exact Z.sysm i h
theorem BA(os:List AO)(U:AO)(i:Nat)(a:AO)(h:(gr 0 (os++[U])).lookup i=some a):((os.length,U)::gr 0 os).lookup i=some a:=by
 rw [gf]at h
 rw [cU,gf]
 by_cases V:i=os.length
 .subst V
  simp at h ⊢;exact h
 .have:(i==os.length)=false:=by simp [V]
  rw [this];have Y:i<os.length:=by
   have:=(ig.mp h).1;simp at this;exact(eF V).elim (fun Z=>EW Z) (fun Z=>(bb 0x20084210804000422 rfl this Z:False).elim)
  rw [tm Y]at h
  exact h
theorem bK.kw{fd:FuncData}{Q:List Value->Args}{pn:List Str}
  (h:∀Y:List Value,Y.length+1=pn.length->bindArgs fd (Q Y)=(alloc {cls:=.type "dict",data:=.dict #[]} >>= fun d=>pure (pn.zip (Y++[.ref d])))):bK T fd Q pn (fun n=>[.loc n]) [.dict []]:=by
 intro A R W s Y H os E N V U I;rw [h Y (by rw [<-V.length];exact N)];refine aR (wpAny_alloc (bo ?_));have Z:=I.newId (o:={cls:=Value.type "dict",data:=Data.dict #[]}) rfl (ao:=.dict []) ⟨[],fun S=>⟨#[],0,⟨rfl,rfl,rfl⟩,rfl,fun _ M=>by simp at M,.nil,rX⟩,rfl,rfl⟩ s.toks;have O:=Wd.add_ext W s.heap.objs.size;refine⟨W.add s.heap.objs.size,Y++[.ref s.heap.objs.size],Z.1,rfl,(V.mono O).append ⟨_,[],rfl,⟨?_,?_⟩,rfl⟩,Z.2.lk (fun i P e=>?_),?_⟩
 .show os.length<W.n+1
  exact bb 0x8400104010840000a21 rfl U
 .show Value.ref s.heap.objs.size=.ref (if os.length=W.n then _ else _)
  rw [aC U.symm]
 .rw [U];exact BA os _ i P e
 .show W.n+1=_
  simp [U]
end
theorem yj{Y:Type}{n:Nat}{Z:List Y}(h:Z.length=n+1):∃a l,Z=a::l/\l.length=n:=by
 cases Z with
 |nil=>cases h
 |cons a l=>exact⟨a,l,rfl,zK h⟩
theorem lL{Y:Type}{Z:List Y}(h:Z.length=1):∃a,Z=[a]:=List.length_eq_one_iff.mp h
theorem jW{Y:Type}{Z:List Y}(h:Z.length=2):∃a b,Z=[a,b]:=
 let⟨a,_,e,h⟩:=yj h
 let⟨b,q⟩:=lL h
 ⟨a,b,by rw [e,q]⟩
theorem rq{Y:Type}{Z:List Y}(h:Z.length=3):∃a b c,Z=[a,b,c]:=
 let⟨a,_,e,h⟩:=yj h
 let⟨b,c,q⟩:=jW h
 ⟨a,b,c,by rw [e,q]⟩
theorem Of{Y:Type}{Z:List Y}(h:Z.length=4):∃a b c d,Z=[a,b,c,d]:=
 let⟨a,_,e,h⟩:=yj h
 let⟨b,c,d,q⟩:=rq h
 ⟨a,b,c,d,by rw [e,q]⟩
theorem jf{l:List (Str×NameKind)}(h:l.all (fun x=>!(x.2==.cell))=true):∀x∈l,x.2≠.cell:=fun x Z=>by
 have:=dl.mp h x Z
 simpa using this
theorem lm{l:List (Str×NameKind)}{pn:List Str}(h:pn.all (fun x=>decide (l.lookup x=some .local))=true):∀x∈pn,l.lookup x=some .local:=fun x Z=>gw (dl.mp h x Z)
noncomputable def ck(P:Params)(a:Addr):Obj:=((hd.heap_1 P).lookup a).getD default
noncomputable def dy(P:Params)(a:Addr):FuncData:=match(ck P a).data with|.func fd=>fd|_=>default
noncomputable def db(P:Params)(a:Addr):List Stmt:=match(dy P a).body with|.stmts b=>b|_=>[]
noncomputable def XX(P:Params)(a L:Addr)(X:List (Str×Addr))(Z:List Str)(Y:List (Str×Nat)):Cx:=⟨pa (dy P a).qualname (dy P a).scope a L (dy P a).code X,Z,Y⟩
noncomputable def VG:List (Str×Value):=[((Str.ofString "_wall"),.ref 38),((Str.ofString "_iter_escaped_chars"),.ref 45),((Str.ofString "_strip_quoted_realnames"),.ref 52),((Str.ofString "_check_parenthesis"),.ref 59),((Str.ofString "compute_powers"),.ref 67),((Str.ofString "_str_to_int_inner"),.ref 74),((Str.ofString "int_from_string"),.ref 81),((Str.ofString "_DIV_LIMIT"),.int 4000 363),((Str.ofString "_div2n1n"),.ref 88),((Str.ofString "_div3n2n"),.ref 95),((Str.ofString "_int2digits"),.ref 102),((Str.ofString "_digits2int"),.ref 109),((Str.ofString "_divmod_pos"),.ref 116),((Str.ofString "int_divmod"),.ref 123),((Str.ofString "ELLIPSIS_MARKER"),.str "..." 445),((Str.ofString "_ellipsis_match"),.ref 130),((Str.ofString "tspecials"),.ref 135),((Str.ofString "_name_disallowed_re"),.ref 140),((Str.ofString "_value_disallowed_re"),.ref 145),((Str.ofString "_formatparam"),.ref 153),((Str.ofString "Headers"),.ref 274),((Str.ofString "_law_cells"),.ref 285),((Str.ofString "_law_word"),.ref 292),((Str.ofString "_law_falls"),.ref 299),((Str.ofString "_law_simplest"),.ref 306),((Str.ofString "_law_by_cuts"),.ref 313),((Str.ofString "_law_ends"),.ref 320),((Str.ofString "_law_on_top"),.ref 327),((Str.ofString "_law_by_brackets"),.ref 332),((Str.ofString "law"),.ref 337)]
noncomputable def Vz:List (Str×Value):=[("len",.builtin "len"),("str",.type "str"),("int",.type "int"),("divmod",.builtin "divmod"),("max",.builtin "max"),("min",.builtin "min"),("type",.type "type"),("range",.type "range"),("sum",.builtin "sum"),("sorted",.builtin "sorted"),("reversed",.type "reversed"),("set",.type "set"),("list",.type "list"),("tuple",.type "tuple"),("enumerate",.type "enumerate"),("ZeroDivisionError",.type "ZeroDivisionError"),("iter",.builtin "iter"),("next",.builtin "next"),("print",.builtin "print")]
noncomputable def TT(P:Params)(Z:Program)(w:World)(os:OsState):Tp:=⟨Z,w,VG,Vz,hd.heap_1 P,[69,97,104],os,fun a=>if a=69 then(93,4,(dy P 74).qualname++".<locals>."++"inner")else if a=97 then(133,4,(dy P 102).qualname++".<locals>."++"inner")else(148,4,(dy P 109).qualname++".<locals>."++"inner")⟩
theorem Qw(P):(hd.heap_1 P).lookup 45=some (ck P 45):=by left
theorem RD(P):(ck P 45).data=.func (dy P 45):=by left
theorem Sx(P):(hd.heap_1 P).lookup 52=some (ck P 52):=by left
theorem Tz(P):(ck P 52).data=.func (dy P 52):=by left
theorem PO(P):(hd.heap_1 P).lookup 59=some (ck P 59):=by left
theorem PW(P):(ck P 59).data=.func (dy P 59):=by left
theorem TA(P):(hd.heap_1 P).lookup 67=some (ck P 67):=by left
theorem Tm(P):(ck P 67).data=.func (dy P 67):=by left
theorem TY(P):(hd.heap_1 P).lookup 74=some (ck P 74):=by left
theorem Ul(P):(ck P 74).data=.func (dy P 74):=by left
theorem Qb(P):(hd.heap_1 P).lookup 81=some (ck P 81):=by left
theorem PZ(P):(ck P 81).data=.func (dy P 81):=by left
theorem PP(P):(hd.heap_1 P).lookup 88=some (ck P 88):=by left
theorem Qd(P):(ck P 88).data=.func (dy P 88):=by left
theorem Qp(P):(hd.heap_1 P).lookup 95=some (ck P 95):=by left
theorem QS(P):(ck P 95).data=.func (dy P 95):=by left
theorem NX(P):(hd.heap_1 P).lookup 102=some (ck P 102):=by left
theorem OW(P):(ck P 102).data=.func (dy P 102):=by left
theorem NR(P):(hd.heap_1 P).lookup 109=some (ck P 109):=by left
theorem Oh(P):(ck P 109).data=.func (dy P 109):=by left
theorem OB(P):(hd.heap_1 P).lookup 116=some (ck P 116):=by left
theorem OG(P):(ck P 116).data=.func (dy P 116):=by left
theorem yG(P):(hd.heap_1 P).lookup 123=some (ck P 123):=by left
theorem xA(P):(ck P 123).data=.func (dy P 123):=by left
theorem xV(P):(hd.heap_1 P).lookup 130=some (ck P 130):=by left
theorem wQ(P):(ck P 130).data=.func (dy P 130):=by left
theorem So(P):(hd.heap_1 P).lookup 168=some (ck P 168):=by left
theorem Ug(P):(ck P 168).data=.func (dy P 168):=by left
theorem CM(P):(hd.heap_1 P).lookup 175=some (ck P 175):=by left
theorem DI(P):(ck P 175).data=.func (dy P 175):=by left
theorem JF(P):(hd.heap_1 P).lookup 213=some (ck P 213):=by left
theorem Gn(P):(ck P 213).data=.func (dy P 213):=by left
theorem IL(P):(hd.heap_1 P).lookup 238=some (ck P 238):=by left
theorem Kw(P):(ck P 238).data=.func (dy P 238):=by left
theorem Ov(P):(hd.heap_1 P).lookup 271=some (ck P 271):=by left
theorem NQ(P):(ck P 271).data=.func (dy P 271):=by left
theorem OC(P):(hd.heap_1 P).lookup 285=some (ck P 285):=by left
theorem OV(P):(ck P 285).data=.func (dy P 285):=by left
theorem OS(P):(hd.heap_1 P).lookup 292=some (ck P 292):=by left
theorem OI(P):(ck P 292).data=.func (dy P 292):=by left
theorem OH(P):(hd.heap_1 P).lookup 299=some (ck P 299):=by left
theorem NZ(P):(ck P 299).data=.func (dy P 299):=by left
theorem Ou(P):(hd.heap_1 P).lookup 306=some (ck P 306):=by left
theorem Og(P):(ck P 306).data=.func (dy P 306):=by left
theorem OL(P):(hd.heap_1 P).lookup 313=some (ck P 313):=by left
theorem Oe(P):(ck P 313).data=.func (dy P 313):=by left
theorem On(P):(hd.heap_1 P).lookup 320=some (ck P 320):=by left
theorem OM(P):(ck P 320).data=.func (dy P 320):=by left
theorem OD(P):(hd.heap_1 P).lookup 327=some (ck P 327):=by left
theorem Oy(P):(ck P 327).data=.func (dy P 327):=by left
theorem Os(P):(hd.heap_1 P).lookup 332=some (ck P 332):=by left
theorem OT(P):(ck P 332).data=.func (dy P 332):=by left
theorem Sq(P):(hd.heap_1 P).lookup 337=some (ck P 337):=by left
theorem SL(P):(ck P 337).data=.func (dy P 337):=by left
theorem nP(P:Params):GG (hd.heap_1 P) 274:=⟨by left,by left,by left,by left⟩
theorem Qq(P:Params):Af (hd.heap_1 P) 274:=⟨by left,by left,by left,by left⟩
theorem US(P:Params):∀a∈[140,145],Kq (hd.heap_1 P) a:=by
 intro a Z;rcases cN.mp Z with rfl|Z
 .exact⟨ck P 140,139,ck P 139,_,_,_,by left,⟨by left,by left,_,_,(_,_),by rfl⟩,by left,by rfl,by simp [Builtin.Re.reRawOf],SO⟩
 .cases cJ.mp Z
  exact⟨ck P 145,144,ck P 144,_,_,_,by left,⟨by left,by left,_,_,(_,_),by rfl⟩,by left,by rfl,by simp [Builtin.Re.reRawOf],Tf⟩
theorem mf{K:Frag}{c:Value}{q:Str}(h:codeIn K c q=true):∀Z:Heap,Frag.In K Z->Z.CodeRec c q:=fun Z Y=>codeRec_of Y h
theorem NV{Y:Type}{Z:List Y}(h:Z.length=5):∃a b c d e,Z=[a,b,c,d,e]:=
 let⟨a,_,e,h⟩:=yj h
 let⟨b,c,d,f,q⟩:=Of h
 ⟨a,b,c,d,f,by rw [e,q]⟩
theorem Uq{Y:Type}{Z:List Y}(h:Z.length=6):∃a b c d e f,Z=[a,b,c,d,e,f]:=
 let⟨a,_,e,h⟩:=yj h
 let⟨b,c,d,f,g,q⟩:=NV h
 ⟨a,b,c,d,f,g,by rw [e,q]⟩
theorem IS{l:List (Str×NameKind)}{pn Z:List Str}(h:pn.all (fun x=>decide (l.lookup x=some .local)||(decide (l.lookup x=some .cell)&&Z.contains x))=true):
  ∀x∈pn,l.lookup x=some .local\/(l.lookup x=some .cell/\x∈Z):=fun x W=>by
 have:=dl.mp h x W;rw [zW,cR]at this
 rcases this with q|⟨X,Y⟩
 .exact .inl (gw q)
 .exact .inr ⟨gw X,rg.mp Y⟩
theorem EG{l:List (Str×NameKind)}{Z:List Str}(h:Z.all (fun x=>!decide (l.lookup x=some .local))=true):∀x∈Z,l.lookup x≠some .local:=fun x Y=>by
 have:=dl.mp h x Y
 simpa using this
theorem bK.eq{T:Tp}{fd:FuncData}{Y:List Value->Args}{pn:List Str}(h:∀Z:List Value,Z.length=pn.length->bindArgs fd (Y Z)=pure (pn.zip Z)):bK T fd Y pn (fun _=>[]) []:=
 bK.plain fun Z X s _=>BindsTo.of_eq (h Z X)
theorem aU.never{T:Tp}{b:Nat}{f:Value}{Y:List Value->Args}:aU T b f Y (fun _ _=>none):=fun A R W s V S os U Z Q P X=>by exact aW X
noncomputable def En:List Str:=["a","b","n","pad","half_n","mask","b1","b2","q1","r","q2"]
noncomputable def Fk:List Str:=[]
noncomputable def IW:List Str:=["a","b","n"]
noncomputable def Fa(Z:bO)(N n:Nat):SR:=
 (ap (di (aq (ae (ae (aK "int" (aa 0) aj gT) (aa 2) cO) (ab (.int 4000)) PL)) (ap (bF (aB vh (ac (aa 0) (ac (aa 1) aj))))
 ah) ah)
 (ap (ai (ae (aa 2) (ab (.int 1)) iA) (am 3))
 (ap (di (aq (aa 3)) (ap (fA (aa 0) (ab (.int 1)) eI (am 0))
 (ap (fA (aa 1) (ab (.int 1)) eI (am 1))
 (ap (fA (aa 2) (ab (.int 1)) jg (am 2))
 ah))) ah)
 (ap (ai (ae (aa 2) (ab (.int 1)) eQ) (am 4))
 (ap (ai (ae (ae (ab (.int 1)) (aa 4) eI) (ab (.int 1)) cO) (am 5))
 (ap (nB (ey (ac (ae (aa 1) (aa 4) eQ) (ac (ae (aa 1) (aa 5) iA) aj))) 6 7)
 (ap (ai (bc Z (ac (ae (aa 0) (aa 2) eQ) (ac (ae (ae (aa 0) (aa 4) eQ) (aa 5) iA) (ac (aa 1) (ac (aa 6) (ac (aa 7) (ac (aa 4) aj))))))) (dK 2 (aT (am 8) (aT (am 9) cM))))
 (ap (ai (bc Z (ac (aa 9) (ac (ae (aa 0) (aa 5) iA) (ac (aa 1) (ac (aa 6) (ac (aa 7) (ac (aa 4) aj))))))) (dK 2 (aT (am 10) (aT (am 9) cM))))
 (ap (di (aq (aa 3)) (ap (fA (aa 9) (ab (.int 1)) eQ (am 9))
 ah) ah)
 (ap (bF (ey (ac (ae (ae (aa 8) (aa 4) eI) (aa 10) KA) (ac (aa 9) aj))))
 ah))))))))))
theorem Va(P n cs L):bA (XX P 88 L cs En (aV Fk n)):=bA.of (by left) rfl rfl
theorem PX(P prog w os b N n cs L){X:bO}(Y:aU (TT P prog w os) b (.ref 95) (fun W=>⟨W,[]⟩) X):bu (TT P prog w os) b (XX P 88 L cs En (aV Fk n)) (db P 88) (Fa X N n):=by
 have Z:=Va P n cs L;exact
 (.cons (.ite (.cmp (.binop (.meth BO BE AB (.loc Z 0) .nil rt) (.loc Z 2) gk) (.globV Z 7 (fun _=>⟨_,rfl⟩) rfl (by left) rfl) OY) (.cons (.ret (.bcall (.blt Z 3) (.cons (.loc Z 0) (.cons (.loc Z 1) .nil)) Jg))
 .nil) .nil)
 (.cons (.assign (.binop (.loc Z 2) (.int 1) tc) (.loc Z 3))
 (.cons (.ite (.val (.loc Z 3)) (.cons (.augLoc Z 0 rfl (.int 1) Hf)
 (.cons (.augLoc Z 1 rfl (.int 1) Hf)
 (.cons (.augLoc Z 2 rfl (.int 1) qL)
 .nil))) .nil)
 (.cons (.assign (.binop (.loc Z 2) (.int 1) lI) (.loc Z 4))
 (.cons (.assign (.binop (.binop (.int 1) (.loc Z 4) kY) (.int 1) gk) (.loc Z 5))
 (.cons (.swap Z 6 7 (.tup (.cons (.binop (.loc Z 1) (.loc Z 4) lI) (.cons (.binop (.loc Z 1) (.loc Z 5) tc) .nil))) rfl rfl (by left) (by left))
 (.cons (.assign (.call (.glob Z 9) (.cons (.binop (.loc Z 0) (.loc Z 2) lI) (.cons (.binop (.binop (.loc Z 0) (.loc Z 4) lI) (.loc Z 5) tc) (.cons (.loc Z 1) (.cons (.loc Z 6) (.cons (.loc Z 7) (.cons (.loc Z 4) .nil)))))) Y (Qp P) (QS P)) (.tup (.cons (.loc Z 8) (.cons (.loc Z 9) .nil))))
 (.cons (.assign (.call (.glob Z 9) (.cons (.loc Z 9) (.cons (.binop (.loc Z 0) (.loc Z 5) tc) (.cons (.loc Z 1) (.cons (.loc Z 6) (.cons (.loc Z 7) (.cons (.loc Z 4) .nil)))))) Y (Qp P) (QS P)) (.tup (.cons (.loc Z 10) (.cons (.loc Z 9) .nil))))
 (.cons (.ite (.val (.loc Z 3)) (.cons (.augLoc Z 9 rfl (.int 1) QL)
 .nil) .nil)
 (.cons (.ret (.tup (.cons (.binop (.binop (.loc Z 8) (.loc Z 4) kY) (.loc Z 10) Sa) (.cons (.loc Z 9) .nil))))
 .nil))))))))))
noncomputable def Jo:List Str:=["a12","a3","b","b1","b2","n","q","r"]
noncomputable def IH:List Str:=[]
noncomputable def Lr:List Str:=["a12","a3","b","b1","b2","n"]
noncomputable def LP(Z:bO)(N n:Nat):SR:=
 (ap (di (aq (ae (ae (aa 0) (aa 5) eQ) (aa 3) jd)) (ap (nB (ey (ac (ae (ae (ab (.int 1)) (aa 5) eI) (ab (.int 1)) cO) (ac (ae (ae (aa 0) (ae (aa 3) (aa 5) eI) cO) (aa 3) ba) aj))) 6 7)
 ah) (ap (ai (bc Z (ac (aa 0) (ac (aa 3) (ac (aa 5) aj)))) (dK 2 (aT (am 6) (aT (am 7) cM))))
 ah))
 (ap (ai (ae (ae (ae (aa 7) (aa 5) eI) (aa 1) KA) (ae (aa 6) (aa 4) cz) cO) (am 7))
 (ap (eE (aq (ae (aa 7) (ab (.int 0)) mQ)) (ap (fA (aa 6) (ab (.int 1)) cO (am 6))
 (ap (fA (aa 7) (aa 2) jg (am 7))
 ah)) ah N)
 (ap (bF (ey (ac (aa 6) (ac (aa 7) aj))))
 ah))))
theorem UZ(P n cs L):bA (XX P 95 L cs Jo (aV IH n)):=bA.of (by left) rfl rfl
theorem Pl(P prog w os b N n cs L){Y:bO}(X:aU (TT P prog w os) b (.ref 88) (fun W=>⟨W,[]⟩) Y):bu (TT P prog w os) b (XX P 95 L cs Jo (aV IH n)) (db P 95) (LP Y N n):=by
 have Z:=UZ P n cs L;exact
 (.cons (.ite (.cmp (.binop (.loc Z 0) (.loc Z 5) lI) (.loc Z 3) mN) (.cons (.swap Z 6 7 (.tup (.cons (.binop (.binop (.int 1) (.loc Z 5) kY) (.int 1) gk) (.cons (.binop (.binop (.loc Z 0) (.binop (.loc Z 3) (.loc Z 5) kY) gk) (.loc Z 3) bR) .nil))) rfl rfl (by left) (by left))
 .nil) (.cons (.assign (.call (.glob Z 8) (.cons (.loc Z 0) (.cons (.loc Z 3) (.cons (.loc Z 5) .nil))) X (PP P) (Qd P)) (.tup (.cons (.loc Z 6) (.cons (.loc Z 7) .nil))))
 .nil))
 (.cons (.assign (.binop (.binop (.binop (.loc Z 7) (.loc Z 5) kY) (.loc Z 1) Sa) (.binop (.loc Z 6) (.loc Z 4) fE) gk) (.loc Z 7))
 (.cons (.while N (.cmp (.loc Z 7) (.int 0) sO) (.cons (.augLoc Z 6 rfl (.int 1) BQ)
 (.cons (.augLoc Z 7 rfl (.loc Z 2) qL)
 .nil)) .nil)
 (.cons (.ret (.tup (.cons (.loc Z 6) (.cons (.loc Z 7) .nil))))
 .nil))))
noncomputable def yr:List Str:=["want","got","ws","startpos","endpos","w"]
noncomputable def xf:List Str:=[]
noncomputable def Dt:List Str:=["want","got"]
noncomputable def xu (N n:Nat):SR:=
 (ap (di (aq (ae (ab (.str "...")) (aa 0) nj)) (ap (bF (ae (aa 0) (aa 1) jd))
 ah) ah)
 (ap (ai (aK "str" (aa 0) (ac (ab (.str "...")) aj) Aj) (am 2))
 (ap (ur (aq (ae (aB cX (ac (aa 2) aj)) (ab (.int 2)) Oq)))
 (ap (nB (ey (ac (ab (.int 0)) (ac (aB cX (ac (aa 1) aj)) aj))) 3 4)
 (ap (ai (ae (aa 2) (ab (.int 0)) aO) (am 5))
 (ap (di (aq (aa 5)) (ap (di (aq (aK "str" (aa 1) (ac (aa 5) aj) uw)) (ap (ai (aB cX (ac (aa 5) aj)) (am 3))
 (ap (ju (aa 2) (ab (.int 0)))
 ah)) (ap (bF (ab (.bool false)))
 ah))
 ah) ah)
 (ap (ai (ae (aa 2) (cY (ab (.int 1)) im) aO) (am 5))
 (ap (di (aq (aa 5)) (ap (di (aq (aK "str" (aa 1) (ac (aa 5) aj) DM)) (ap (fA (aa 4) (aB cX (ac (aa 5) aj)) cO (am 4))
 (ap (ju (aa 2) (cY (ab (.int 1)) im))
 ah)) (ap (bF (ab (.bool false)))
 ah))
 ah) ah)
 (ap (di (aq (ae (aa 3) (aa 4) EU)) (ap (bF (ab (.bool false)))
 ah) ah)
 (ap (dD N (dj (aa 2)) (am 5) (ap (ai (aK "str" (aa 1) (ac (aa 5) (ac (aa 3) (ac (aa 4) aj))) Ck) (am 3))
 (ap (di (aq (ae (aa 3) (ab (.int 0)) mQ)) (ap (bF (ab (.bool false)))
 ah) ah)
 (ap (fA (aa 3) (aB cX (ac (aa 5) aj)) jg (am 3))
 ah))) ah)
 (ap (bF (ab (.bool true)))
 ah)))))))))))
theorem Sj(P n cs L):bA (XX P 130 L cs yr (aV xf n)):=bA.of (by left) rfl rfl
theorem Mk(P prog w os b N n cs L) :bu (TT P prog w os) b (XX P 130 L cs yr (aV xf n)) (db P 130) (xu  N n):=by
 have Z:=Sj P n cs L;exact
 (.cons (.ite (.cmp (.globV Z 14 (fun _=>⟨_,rfl⟩) rfl (by left) rfl) (.loc Z 0) zf) (.cons (.ret (.cmp (.loc Z 0) (.loc Z 1) mN))
 .nil) .nil)
 (.cons (.assign (.meth iE vA F.type_str_split (.loc Z 0) (.cons (.globV Z 14 (fun _=>⟨_,rfl⟩) rfl (by left) rfl) .nil) NK) (.loc Z 2))
 (.cons (.assert (.cmp (.bcall (.blt Z 0) (.cons (.loc Z 2) .nil) iL) (.int 2) Ts))
 (.cons (.swap Z 3 4 (.tup (.cons (.int 0) (.cons (.bcall (.blt Z 0) (.cons (.loc Z 1) .nil) iL) .nil))) rfl rfl (by left) (by left))
 (.cons (.assign (.index (.loc Z 2) (.int 0)) (.loc Z 5))
 (.cons (.ite (.val (.loc Z 5)) (.cons (.ite (.val (.meth iE F.slot_str_startswith F.type_str_startswith (.loc Z 1) (.cons (.loc Z 5) .nil) Il)) (.cons (.assign (.bcall (.blt Z 0) (.cons (.loc Z 5) .nil) iL) (.loc Z 3))
 (.cons (.delSub (.loc Z 2) (.int 0))
 .nil)) (.cons (.ret (.bool false))
 .nil))
 .nil) .nil)
 (.cons (.assign (.index (.loc Z 2) (.unop (.int 1) oZ)) (.loc Z 5))
 (.cons (.ite (.val (.loc Z 5)) (.cons (.ite (.val (.meth iE F.slot_str_endswith F.type_str_endswith (.loc Z 1) (.cons (.loc Z 5) .nil) RA)) (.cons (.augLoc Z 4 rfl (.bcall (.blt Z 0) (.cons (.loc Z 5) .nil) iL) BQ)
 (.cons (.delSub (.loc Z 2) (.unop (.int 1) oZ))
 .nil)) (.cons (.ret (.bool false))
 .nil))
 .nil) .nil)
 (.cons (.ite (.cmp (.loc Z 3) (.loc Z 4) Md) (.cons (.ret (.bool false))
 .nil) .nil)
 (.cons (.for N (.val (.loc Z 2)) (.loc Z 5) (.cons (.assign (.meth iE FD F.type_str_find (.loc Z 1) (.cons (.loc Z 5) (.cons (.loc Z 3) (.cons (.loc Z 4) .nil))) Rf) (.loc Z 3))
 (.cons (.ite (.cmp (.loc Z 3) (.int 0) sO) (.cons (.ret (.bool false))
 .nil) .nil)
 (.cons (.augLoc Z 3 rfl (.bcall (.blt Z 0) (.cons (.loc Z 5) .nil) iL) qL)
 .nil))) .nil)
 (.cons (.ret (.bool true))
 .nil)))))))))))
noncomputable def wK:List Str:=["script","cells","k"]
noncomputable def xt:List Str:=[]
noncomputable def DA:List Str:=["script"]
noncomputable def CG (N n:Nat):SR:=
 (ap (ai (bD (ac (ab (.int 1)) (ac (ab (.int 1)) (ac (ab (.int 5)) (ac (ab (.int 5)) (ac (ab (.int 0)) (ac (ab (.int 18940)) (ac (ab (.int 9)) aj)))))))) (am 1))
 (ap (dD N (dj (aB dm (ac (aB cX (ac (aa 0) aj)) aj))) (am 2) (ap (qt (aa 1) (ae (aa 2) (ab (.int 7)) eu) (ae (aa 0) (aa 2) aO) jg)
 ah) ah)
 (ap (bF (aa 1))
 ah)))
theorem SJ(P n cs L):bA (XX P 285 L cs wK (aV xt n)):=bA.of (by left) rfl rfl
theorem LA(P prog w os b N n cs L) :bu (TT P prog w os) b (XX P 285 L cs wK (aV xt n)) (db P 285) (CG  N n):=by
 have Z:=SJ P n cs L;exact
 (.cons (.assign (.list (.cons (.int 1) (.cons (.int 1) (.cons (.int 5) (.cons (.int 5) (.cons (.int 0) (.cons (.int 18940) (.cons (.int 9) .nil)))))))) (.loc Z 1))
 (.cons (.for N (.val (.tcall (.blt Z 7) (.cons (.bcall (.blt Z 0) (.cons (.loc Z 0) .nil) iL) .nil) gL)) (.loc Z 2) (.cons (.augSub (.loc Z 1) (.binop (.loc Z 2) (.int 7) lS) (.index (.loc Z 0) (.loc Z 2)) qL)
 .nil) .nil)
 (.cons (.ret (.loc Z 1))
 .nil)))
noncomputable def yM:List Str:=["cells","signs","sides","waiting","room","k","depth"]
noncomputable def xB:List Str:=[]
noncomputable def Dd:List Str:=["cells"]
noncomputable def Dk (N n:Nat):SR:=
 (ap (ai (bD aj) (am 1))
 (ap (ai (bD aj) (am 2))
 (ap (ai (bD aj) (am 3))
 (ap (ai (ab (.int 1)) (am 4))
 (ap (dD N (dj (aB dm (ac (ab (.int 5)) aj))) (am 5) (ap (ai (ae (ae (aa 0) (aa 5) aO) (aa 4) eu) (am 6))
 (ap (bC (aK "list" (aa 2) (ac (ae (ae (ae (aa 0) (aa 5) aO) (aa 4) de) (ab (.int 2)) eu) aj) aQ))
 (ap (eE (aq (ae (aB cX (ac (aa 3) aj)) (aa 6) EU)) (ap (bC (aK "list" (aa 1) (ac (ae (ab (.str "ABCDE")) (aK "list" (aa 3) aj BD) aO) aj) aQ))
 ah) ah N)
 (ap (bC (aK "list" (aa 1) (ac (ae (ab (.str "abcde")) (aa 5) aO) aj) aQ))
 (ap (bC (aK "list" (aa 3) (ac (aa 5) aj) aQ))
 (ap (ai (ae (aa 6) (ab (.int 2)) ba) (am 4))
 ah)))))) ah)
 (ap (eE (aq (ae (aa 3) (bD aj) mJ)) (ap (bC (aK "list" (aa 1) (ac (ae (ab (.str "ABCDE")) (aK "list" (aa 3) aj BD) aO) aj) aQ))
 ah) ah N)
 (ap (bF (ey (ac (aK "str" (ab (.str "")) (ac (aa 1) aj) ia) (ac (aa 2) aj))))
 ah)))))))
theorem TB(P n cs L):bA (XX P 292 L cs yM (aV xB n)):=bA.of (by left) rfl rfl
theorem Mh(P prog w os b N n cs L) :bu (TT P prog w os) b (XX P 292 L cs yM (aV xB n)) (db P 292) (Dk  N n):=by
 have Z:=TB P n cs L;exact
 (.cons (.assign (.list .nil) (.loc Z 1))
 (.cons (.assign (.list .nil) (.loc Z 2))
 (.cons (.assign (.list .nil) (.loc Z 3))
 (.cons (.assign (.int 1) (.loc Z 4))
 (.cons (.for N (.val (.tcall (.blt Z 7) (.cons (.int 5) .nil) gL)) (.loc Z 5) (.cons (.assign (.binop (.index (.loc Z 0) (.loc Z 5)) (.loc Z 4) lS) (.loc Z 6))
 (.cons (.expr (.meth dX fw fq (.loc Z 2) (.cons (.binop (.binop (.index (.loc Z 0) (.loc Z 5)) (.loc Z 4) mE) (.int 2) lS) .nil) cg))
 (.cons (.while N (.cmp (.bcall (.blt Z 0) (.cons (.loc Z 3) .nil) iL) (.loc Z 6) Md) (.cons (.expr (.meth dX fw fq (.loc Z 1) (.cons (.index (.str "ABCDE") (.meth dX vQ HE (.loc Z 3) .nil NS)) .nil) cg))
 .nil) .nil)
 (.cons (.expr (.meth dX fw fq (.loc Z 1) (.cons (.index (.str "abcde") (.loc Z 5)) .nil) cg))
 (.cons (.expr (.meth dX fw fq (.loc Z 3) (.cons (.loc Z 5) .nil) cg))
 (.cons (.assign (.binop (.loc Z 6) (.int 2) bR) (.loc Z 4))
 .nil)))))) .nil)
 (.cons (.while N (.cmp (.loc Z 3) (.list .nil) sW) (.cons (.expr (.meth dX fw fq (.loc Z 1) (.cons (.index (.str "ABCDE") (.meth dX vQ HE (.loc Z 3) .nil NS)) .nil) cg))
 .nil) .nil)
 (.cons (.ret (.tup (.cons (.meth iE rG ra (.str "") (.cons (.loc Z 1) .nil) qH) (.cons (.loc Z 2) .nil))))
 .nil)))))))
noncomputable def zk:List Str:=["word","masks","x","mask","y","want","told","twice"]
noncomputable def xa:List Str:=[]
noncomputable def CJ:List Str:=["word"]
noncomputable def xv(Z:bO)(N n:Nat):SR:=
 (ap (ai (bD aj) (am 1))
 (ap (dD N (dj (aB dm (ac (ab (.int 5)) aj))) (am 2) (ap (ai (ae (ab (.int 1)) (aa 2) eI) (am 3))
 (ap (dD N (dj (aB dm (ac (ab (.int 5)) aj))) (am 4) (ap (di (aq (ae (aa 4) (aa 2) mJ)) (ap (ai (ae (ae (ae (ae (ae (ae (ab (.str "...")) (ae (ab (.str "abcde")) (aa 2) aO) ba) (ab (.str "...")) ba) (ae (ab (.str "abcde")) (aa 4) aO) ba) (ab (.str "...")) ba) (ae (ab (.str "ABCDE")) (aa 2) aO) ba) (ab (.str "...")) ba) (am 5))
 (ap (ai (bc Z (ac (aa 5) (ac (aa 0) aj))) (am 6))
 (ap (di (aq (ae (aa 6) (ab (.bool true)) LD)) (ap (fA (aa 3) (ae (ab (.int 1)) (aa 4) eI) KA (am 3))
 ah) (ap (di (aq (ae (aa 6) (ab (.bool false)) cK)) (ap (bF (bD aj))
 ah) ah)
 ah))
 ah))) ah)
 ah) ah)
 (ap (bC (aK "list" (aa 1) (ac (aa 3) aj) aQ))
 ah))) ah)
 (ap (ai (bD (ac (ae (ae (bI (aa 0) cr (bU (ab (.int 6)))) (ab (.str "...")) ba) (bI (aa 0) (bU (ab (.int 5))) cr) ba) (ac (ae (ae (ae (ab (.str "...")) (bI (aa 0) (bU (ab (.int 1))) cr) ba) (ab (.str "...")) ba) (ae (aa 0) (ab (.int 9)) aO) ba) aj))) (am 7))
 (ap (dD N (dj (ae (aa 7) (bD (ac (ab (.str "...a...a...")) (ac (ae (ab (.str "b...")) (ae (aa 0) (ab (.int 9)) aO) ba) (ac (bI (aa 0) cr (bU (ab (.int 9)))) aj)))) ba)) (am 5) (ap (di (aq (ae (bc Z (ac (aa 5) (ac (aa 0) aj))) (ab (.bool false)) cK)) (ap (bF (bD aj))
 ah) ah)
 ah) ah)
 (ap (di (iy (aq (ae (bc Z (ac (aa 0) (ac (aa 0) aj))) (ab (.bool true)) cK)) (iy (aq (ae (bc Z (ac (ab (.str "a...A")) (ac (aa 0) aj))) (ae (ae (aa 1) (ab (.int 0)) aO) (ab (.int 31)) jd) cK)) ir)) (ap (bF (bD aj))
 ah) ah)
 (ap (bF (aa 1))
 ah))))))
theorem Sd(P n cs L):bA (XX P 299 L cs zk (aV xa n)):=bA.of (by left) rfl rfl
theorem Mc(P prog w os b N n cs L){X:bO}(Y:aU (TT P prog w os) b (.ref 130) (fun W=>⟨W,[]⟩) X):bu (TT P prog w os) b (XX P 299 L cs zk (aV xa n)) (db P 299) (xv X N n):=by
 have Z:=Sd P n cs L;exact
 (.cons (.assign (.list .nil) (.loc Z 1))
 (.cons (.for N (.val (.tcall (.blt Z 7) (.cons (.int 5) .nil) gL)) (.loc Z 2) (.cons (.assign (.binop (.int 1) (.loc Z 2) kY) (.loc Z 3))
 (.cons (.for N (.val (.tcall (.blt Z 7) (.cons (.int 5) .nil) gL)) (.loc Z 4) (.cons (.ite (.cmp (.loc Z 4) (.loc Z 2) sW) (.cons (.assign (.binop (.binop (.binop (.binop (.binop (.binop (.str "...") (.index (.str "abcde") (.loc Z 2)) bR) (.str "...") bR) (.index (.str "abcde") (.loc Z 4)) bR) (.str "...") bR) (.index (.str "ABCDE") (.loc Z 2)) bR) (.str "...") bR) (.loc Z 5))
 (.cons (.assign (.call (.glob Z 15) (.cons (.loc Z 5) (.cons (.loc Z 0) .nil)) Y (xV P) (wQ P)) (.loc Z 6))
 (.cons (.ite (.cmp (.loc Z 6) (.bool true) NI) (.cons (.augLoc Z 3 rfl (.binop (.int 1) (.loc Z 4) kY) SV)
 .nil) (.cons (.ite (.cmp (.loc Z 6) (.bool false) eZ) (.cons (.ret (.list .nil))
 .nil) .nil)
 .nil))
 .nil))) .nil)
 .nil) .nil)
 (.cons (.expr (.meth dX fw fq (.loc Z 1) (.cons (.loc Z 3) .nil) cg))
 .nil))) .nil)
 (.cons (.assign (.list (.cons (.binop (.binop (.slice (.loc Z 0) .no (.yes (.int 6))) (.str "...") bR) (.slice (.loc Z 0) (.yes (.int 5)) .no) bR) (.cons (.binop (.binop (.binop (.str "...") (.slice (.loc Z 0) (.yes (.int 1)) .no) bR) (.str "...") bR) (.index (.loc Z 0) (.int 9)) bR) .nil))) (.loc Z 7))
 (.cons (.for N (.val (.binop (.loc Z 7) (.list (.cons (.str "...a...a...") (.cons (.binop (.str "b...") (.index (.loc Z 0) (.int 9)) bR) (.cons (.slice (.loc Z 0) .no (.yes (.int 9))) .nil)))) bR)) (.loc Z 5) (.cons (.ite (.cmp (.call (.glob Z 15) (.cons (.loc Z 5) (.cons (.loc Z 0) .nil)) Y (xV P) (wQ P)) (.bool false) eZ) (.cons (.ret (.list .nil))
 .nil) .nil)
 .nil) .nil)
 (.cons (.ite (.bool (.or (.cmp (.call (.glob Z 15) (.cons (.loc Z 0) (.cons (.loc Z 0) .nil)) Y (xV P) (wQ P)) (.bool true) eZ) (.or (.cmp (.call (.glob Z 15) (.cons (.str "a...A") (.cons (.loc Z 0) .nil)) Y (xV P) (wQ P)) (.cmp (.index (.loc Z 1) (.int 0)) (.int 31) mN) eZ) .orNil))) (.cons (.ret (.list .nil))
 .nil) .nil)
 (.cons (.ret (.loc Z 1))
 .nil))))))
noncomputable def tS:List Str:=["low","high","step","best"]
noncomputable def tV:List Str:=[]
noncomputable def wu:List Str:=["low","high"]
noncomputable def yn (N n:Nat):SR:=
 (ap (di (aq (kr (aa 0) (ab (.int 0)) (aa 1) mQ mQ)) (ap (bF (ab (.int 0)))
 ah) ah)
 (ap (dD N (dj (ey (ac (ab (.int 16)) (ac (ab (.int 8)) (ac (ab (.int 4)) (ac (ab (.int 2)) (ac (ab (.int 1)) aj))))))) (am 2) (ap (ai (lD (aq (ae (aa 0) (ab (.int 0)) Oq)) (ae (ae (ae (aa 0) (aa 2) de) (ab (.int 1)) ba) (aa 2) cz) (ae (ae (ae (aa 1) (ab (.int 1)) cO) (aa 2) de) (aa 2) cz)) (am 3))
 (ap (di (aq (kr (aa 0) (aa 3) (aa 1) mQ mQ)) (ap (bF (aa 3))
 ah) ah)
 ah)) ah)
 (ap (bF (ab (.int 999)))
 ah)))
theorem SZ(P n cs L):bA (XX P 306 L cs tS (aV tV n)):=bA.of (by left) rfl rfl
theorem LV(P prog w os b N n cs L) :bu (TT P prog w os) b (XX P 306 L cs tS (aV tV n)) (db P 306) (yn  N n):=by
 have Z:=SZ P n cs L;exact
 (.cons (.ite (.chain (.loc Z 0) (.int 0) (.loc Z 1) sO sO) (.cons (.ret (.int 0))
 .nil) .nil)
 (.cons (.for N (.val (.tup (.cons (.int 16) (.cons (.int 8) (.cons (.int 4) (.cons (.int 2) (.cons (.int 1) .nil))))))) (.loc Z 2) (.cons (.assign (.ifexp (.cmp (.loc Z 0) (.int 0) Ts) (.binop (.binop (.binop (.loc Z 0) (.loc Z 2) mE) (.int 1) bR) (.loc Z 2) fE) (.binop (.binop (.binop (.loc Z 1) (.int 1) gk) (.loc Z 2) mE) (.loc Z 2) fE)) (.loc Z 3))
 (.cons (.ite (.chain (.loc Z 0) (.loc Z 3) (.loc Z 1) sO sO) (.cons (.ret (.loc Z 3))
 .nil) .nil)
 .nil)) .nil)
 (.cons (.ret (.int 999))
 .nil)))
noncomputable def yw:List Str:=["masks","sides","worths","mask","low","high","x","left"]
noncomputable def xe:List Str:=[]
noncomputable def CR:List Str:=["masks","sides"]
noncomputable def BV(Z:bO)(N n:Nat):SR:=
 (ap (ai (bD (ac (ab (.int 0)) aj)) (am 2))
 (ap (dD N (dj (aB dm (ac (ab (.int 1)) (ac (ab (.int 32)) aj)))) (am 3) (ap (ai (cY (ab (.int 200)) im) (am 4))
 (ap (ai (ab (.int 200)) (am 5))
 (ap (dD N (dj (aB dm (ac (ab (.int 5)) aj))) (am 6) (ap (di (aq (ae (ae (aa 3) (aa 6) eQ) (ab (.int 1)) iA)) (ap (ai (ae (aa 2) (ae (aa 3) (cY (ae (aa 0) (aa 6) aO) nd) iA) aO) (am 7))
 (ap (di (aq (ae (ae (aa 1) (aa 6) aO) (ab (.int 1)) jd)) (ap (ai (aB DO (ac (aa 4) (ac (aa 7) aj))) (am 4))
 ah) (ap (ai (aB QA (ac (aa 5) (ac (aa 7) aj))) (am 5))
 ah))
 ah)) ah)
 ah) ah)
 (ap (bC (aK "list" (aa 2) (ac (bc Z (ac (aa 4) (ac (aa 5) aj))) aj) aQ))
 ah)))) ah)
 (ap (bF (aa 2))
 ah)))
theorem Tj(P n cs L):bA (XX P 313 L cs yw (aV xe n)):=bA.of (by left) rfl rfl
theorem Ly(P prog w os b N n cs L){Y:bO}(X:aU (TT P prog w os) b (.ref 306) (fun W=>⟨W,[]⟩) Y):bu (TT P prog w os) b (XX P 313 L cs yw (aV xe n)) (db P 313) (BV Y N n):=by
 have Z:=Tj P n cs L;exact
 (.cons (.assign (.list (.cons (.int 0) .nil)) (.loc Z 2))
 (.cons (.for N (.val (.tcall (.blt Z 7) (.cons (.int 1) (.cons (.int 32) .nil)) gL)) (.loc Z 3) (.cons (.assign (.unop (.int 200) oZ) (.loc Z 4))
 (.cons (.assign (.int 200) (.loc Z 5))
 (.cons (.for N (.val (.tcall (.blt Z 7) (.cons (.int 5) .nil) gL)) (.loc Z 6) (.cons (.ite (.val (.binop (.binop (.loc Z 3) (.loc Z 6) lI) (.int 1) tc)) (.cons (.assign (.index (.loc Z 2) (.binop (.loc Z 3) (.unop (.index (.loc Z 0) (.loc Z 6)) CQ) tc)) (.loc Z 7))
 (.cons (.ite (.cmp (.index (.loc Z 1) (.loc Z 6)) (.int 1) mN) (.cons (.assign (.bcall (.blt Z 4) (.cons (.loc Z 4) (.cons (.loc Z 7) .nil)) OU) (.loc Z 4))
 .nil) (.cons (.assign (.bcall (.blt Z 5) (.cons (.loc Z 5) (.cons (.loc Z 7) .nil)) SD) (.loc Z 5))
 .nil))
 .nil)) .nil)
 .nil) .nil)
 (.cons (.expr (.meth dX fw fq (.loc Z 2) (.cons (.call (.glob Z 24) (.cons (.loc Z 4) (.cons (.loc Z 5) .nil)) X (Ou P) (Og P)) .nil) cg))
 .nil)))) .nil)
 (.cons (.ret (.loc Z 2))
 .nil)))
noncomputable def wH:List Str:=["y","side","unit","laid","far","told","steps"]
noncomputable def xR:List Str:=[]
noncomputable def Ca:List Str:=["y","side","unit","laid"]
noncomputable def DE(Z:bO)(N n:Nat):SR:=
 (ap (ai (ae (aa 1) (ae (aa 2) (ab (.int 2)) de) cz) (am 4))
 (ap (ai (bc Z (ac (ae (ae (ae (ae (ab (.int 16)) (aa 4) cz) (aa 0) cO) (aa 2) cz) (aa 3) ba) (ac (ae (ab (.int 16)) (aa 2) cz) aj))) (am 5))
 (ap (di (iy (aq (ae (aB sz (ac (aa 5) aj)) (ab (.val (.type "tuple"))) cK)) (iy (aq (ae (ae (aa 5) (ab (.int 1)) aO) (ae (ae (ae (cY (aa 0) im) (ab (.int 16)) eu) (aa 2) cz) (aa 3) ba) mJ)) ir)) (ap (bF (ab (.int 99)))
 ah) ah)
 (ap (ai (aB DO (ac (ab (.int 1)) (ac (ae (ae (ae (aa 5) (ab (.int 0)) aO) (aa 4) cO) (ab (.int 2)) ba) aj))) (am 6))
 (ap (di (aq (ae (aa 6) (ab (.int 9)) EU)) (ap (bF (ab (.int 99)))
 ah) ah)
 (ap (ai (bc Z (ac (ae (aa 1) (ae (ae (ae (aa 0) (ae (ab (.int 16)) (aa 6) cz) ba) (aa 2) cz) (aa 3) ba) cz) (ac (ae (ae (aa 1) (ae (ab (.int 2)) (ae (aa 6) (ab (.int 1)) cO) xK) cz) (aa 2) cz) aj))) (am 5))
 (ap (di (iy (aq (ae (aB sz (ac (aa 5) aj)) (ab (.val (.type "tuple"))) cK)) (iy (aq (ae (ae (aa 5) (ab (.int 1)) aO) (ae (aa 1) (aa 3) cz) mJ)) ir)) (ap (bF (ab (.int 99)))
 ah) ah)
 (ap (bF (ae (aa 1) (ae (aa 5) (ab (.int 0)) aO) cz))
 ah))))))))
theorem SB(P n cs L):bA (XX P 327 L cs wH (aV xR n)):=bA.of (by left) rfl rfl
theorem NA(P prog w os b N n cs L){X:bO}(Y:aU (TT P prog w os) b (.ref 123) (fun W=>⟨W,[]⟩) X):bu (TT P prog w os) b (XX P 327 L cs wH (aV xR n)) (db P 327) (DE X N n):=by
 have Z:=SB P n cs L;exact
 (.cons (.assign (.binop (.loc Z 1) (.binop (.loc Z 2) (.int 2) mE) fE) (.loc Z 4))
 (.cons (.assign (.call (.glob Z 13) (.cons (.binop (.binop (.binop (.binop (.int 16) (.loc Z 4) fE) (.loc Z 0) gk) (.loc Z 2) fE) (.loc Z 3) bR) (.cons (.binop (.int 16) (.loc Z 2) fE) .nil)) Y (yG P) (xA P)) (.loc Z 5))
 (.cons (.ite (.bool (.or (.cmp (.tcall (.blt Z 6) (.cons (.loc Z 5) .nil) we) (.blt Z 13) eZ) (.or (.cmp (.index (.loc Z 5) (.int 1)) (.binop (.binop (.binop (.unop (.loc Z 0) oZ) (.int 16) lS) (.loc Z 2) fE) (.loc Z 3) bR) sW) .orNil))) (.cons (.ret (.int 99))
 .nil) .nil)
 (.cons (.assign (.bcall (.blt Z 4) (.cons (.int 1) (.cons (.binop (.binop (.index (.loc Z 5) (.int 0)) (.loc Z 4) gk) (.int 2) bR) .nil)) OU) (.loc Z 6))
 (.cons (.ite (.cmp (.loc Z 6) (.int 9) Md) (.cons (.ret (.int 99))
 .nil) .nil)
 (.cons (.assign (.call (.glob Z 13) (.cons (.binop (.loc Z 1) (.binop (.binop (.binop (.loc Z 0) (.binop (.int 16) (.loc Z 6) fE) bR) (.loc Z 2) fE) (.loc Z 3) bR) fE) (.cons (.binop (.binop (.loc Z 1) (.binop (.int 2) (.binop (.loc Z 6) (.int 1) gk) Ok) fE) (.loc Z 2) fE) .nil)) Y (yG P) (xA P)) (.loc Z 5))
 (.cons (.ite (.bool (.or (.cmp (.tcall (.blt Z 6) (.cons (.loc Z 5) .nil) we) (.blt Z 13) eZ) (.or (.cmp (.index (.loc Z 5) (.int 1)) (.binop (.loc Z 1) (.loc Z 3) fE) sW) .orNil))) (.cons (.ret (.int 99))
 .nil) .nil)
 (.cons (.ret (.binop (.loc Z 1) (.index (.loc Z 5) (.int 0)) fE))
 .nil))))))))
noncomputable def wS:List Str:=["script","cells","word","sides","masks","ends"]
noncomputable def yR:List Str:=["worths"]
noncomputable def Cg:List Str:=["script"]
noncomputable def yE(U:bO)(V:bO)(W:bO)(Y:bO)(X:bO)(Z:bO)(N n:Nat):SR:=
 (ap (ai (bc U (ac (aa 0) aj)) (am 1))
 (ap (ai (bc V (ac (aa 1) aj)) (dK 2 (aT (am 2) (aT (am 3) cM))))
 (ap (ai (bc W (ac (aa 2) aj)) (am 4))
 (ap (ai (bc Y (ac (aa 2) (ac (ae (aa 1) (ab (.int 6)) aO) aj))) (am 5))
 (ap (di (iy (aq (ae (aB cX (ac (aa 4) aj)) (ab (.int 5)) mJ)) (iy (aq (ae (aB cX (ac (aa 5) aj)) (ab (.int 5)) mJ)) ir)) (ap (bF (ab (.bool false)))
 ah) ah)
 (ap (ai (bc X (ac (aa 4) (ac (aa 3) aj))) (gi n))
 (ap (bF (ae (bc Z (ac (aa 5) (ac (aa 3) (ac (ae (aa 1) (ab (.int 5)) aO) aj)))) (ae (iw N 1 (dj (aa 4)) (am 0) gG (ae (bi n) (aa 0) aO)) (bD (ac (ae (bi n) (ab (.int 31)) aO) aj)) ba) jd))
 ah)))))))
theorem Ue(P n cs L):bA (XX P 337 L cs wS (aV yR n)):=bA.of (by left) rfl rfl
theorem Nf(P prog w os b N n cs L){S:bO}{T:bO}{U:bO}{W:bO}{V:bO}{X:bO}(G:aU (TT P prog w os) b (.ref 285) (fun Y=>⟨Y,[]⟩) S)(H:aU (TT P prog w os) b (.ref 292) (fun Y=>⟨Y,[]⟩) T)(I:aU (TT P prog w os) b (.ref 299) (fun Y=>⟨Y,[]⟩) U)(O:aU (TT P prog w os) b (.ref 320) (fun Y=>⟨Y,[]⟩) W)(M:aU (TT P prog w os) b (.ref 313) (fun Y=>⟨Y,[]⟩) V)(Q:aU (TT P prog w os) b (.ref 332) (fun Y=>⟨Y,[]⟩) X):bu (TT P prog w os) b (XX P 337 L cs wS (aV yR n)) (db P 337) (yE S T U W V X N n):=by
 have Z:=Ue P n cs L;exact
 (.cons (.assign (.call (.glob Z 21) (.cons (.loc Z 0) .nil) G (OC P) (OV P)) (.loc Z 1))
 (.cons (.assign (.call (.glob Z 22) (.cons (.loc Z 1) .nil) H (OS P) (OI P)) (.tup (.cons (.loc Z 2) (.cons (.loc Z 3) .nil))))
 (.cons (.assign (.call (.glob Z 23) (.cons (.loc Z 2) .nil) I (OH P) (NZ P)) (.loc Z 4))
 (.cons (.assign (.call (.glob Z 26) (.cons (.loc Z 2) (.cons (.index (.loc Z 1) (.int 6)) .nil)) O (On P) (OM P)) (.loc Z 5))
 (.cons (.ite (.bool (.or (.cmp (.bcall (.blt Z 0) (.cons (.loc Z 4) .nil) iL) (.int 5) sW) (.or (.cmp (.bcall (.blt Z 0) (.cons (.loc Z 5) .nil) iL) (.int 5) sW) .orNil))) (.cons (.ret (.bool false))
 .nil) .nil)
 (.cons (.assign (.call (.glob Z 25) (.cons (.loc Z 4) (.cons (.loc Z 3) .nil)) M (OL P) (Oe P)) (.cell Z 0 n rfl (by left)))
 (.cons (.ret (.cmp (.call (.glob Z 28) (.cons (.loc Z 5) (.cons (.loc Z 3) (.cons (.index (.loc Z 1) (.int 5)) .nil))) Q (Os P) (OT P)) (.binop (.comp (vars:=[(Str.ofString "mask")]) (cvn:=[((Str.ofString "worths"),n)]) (js:=[0]) N (.val (.loc Z 4)) (by left) (by left) (fun E F=>have R:bA (dM _ _ [(Str.ofString "mask")] [((Str.ofString "worths"),n)] F E):=bA.of (by left) rfl rfl;⟨(.loc R 0),.nil,(.index (.cell R 0 n rfl) (.loc R 0))⟩)) (.list (.cons (.index (.cell Z 0 n rfl) (.int 31)) .nil)) bR) mN))
 .nil)))))))
noncomputable def qF:List Str:=["a"]
noncomputable def rQ:List Str:=["n","a_digits","inner"]
noncomputable def Dn:List Str:=["a","n"]
noncomputable def vE(P:Params):Stmt:=(db P 102)[1]?.getD (.Pass default)
noncomputable def CL(P:Params):Arguments:=match vE P with|.FunctionDef _ p Z _ _ _ sc _ _ _=>p|_=>default
noncomputable def vP(P:Params):List Stmt:=match vE P with|.FunctionDef _ p Z _ _ _ sc _ _ _=>Z|_=>default
noncomputable def vm(P:Params):Scope:=match vE P with|.FunctionDef _ p Z _ _ _ sc _ _ _=>sc|_=>default
noncomputable def uP(P:Params):Str:=(dy P 102).qualname++".<locals>."++"inner"
noncomputable def np(n:Nat):List (Str×Nat):=[("n",n),("inner",(n+2)),("a_digits",(n+1))]
noncomputable def kO:List Str:=["x","L","R"]
noncomputable def qD:List Str:=["x","L","R","mid","shift","upper","lower"]
noncomputable def dA(P:Params)(n:Nat):PV:=.clo "inner" (uP P) (CL P) (vP P) (vm P) (np n)
noncomputable def oP(P:Params)(F:CF)(N n:Nat):SR:=
 (ap (di (aq (ae (ae (aa 1) (ab (.int 1)) ba) (aa 2) jd)) (ap (ai (aa 0) (yq (bi (n+1)) (aa 1)))
 (ap SF
 ah)) ah)
 (ap (ai (ae (ae (aa 1) (aa 2) ba) (ab (.int 1)) eQ) (am 3))
 (ap (ai (ae (ae (aa 3) (aa 1) cO) (bi n) cz) (am 4))
 (ap (ai (ae (aa 0) (aa 4) eQ) (am 5))
 (ap (ai (ae (aa 0) (ae (aa 5) (aa 4) eI) Me) (am 6))
 (ap (bC (mj (dA P n) F (bi (n+2)) (ac (aa 6) (ac (aa 1) (ac (aa 3) aj)))))
 (ap (bC (mj (dA P n) F (bi (n+2)) (ac (aa 5) (ac (aa 3) (ac (aa 2) aj)))))
 ah)))))))
noncomputable def fT(P:Params)(N n:Nat):Nat->CF
 |0=>fun _ _ _=>none
 |k+1=>fP kO qD (oP P (fT P N n k) N n)
noncomputable def JY(P:Params)(Z L:Addr)(X:Value)(Y:List (Str×Addr))(n:Nat):Cx:=⟨pa (uP P) (vm P) Z L X Y,qD,np n⟩
theorem QQ(P fa L cd cl n):bA (JY P fa L cd cl n):=bA.of (by left) rfl rfl
theorem Go(P prog w os b N n fa L cd cl F)(Y:pQ (TT P prog w os) b (dA P n) F):bu (TT P prog w os) b (JY P fa L cd cl n) (vP P) (oP P F N n):=by
 have Z:=QQ P fa L cd cl n;exact
 (.cons (.ite (.cmp (.binop (.loc Z 1) (.int 1) bR) (.loc Z 2) mN) (.cons (.assign (.loc Z 0) (.sub (.cell Z 2 (n+1) rfl) (.loc Z 1)))
 (.cons .retNone
 .nil)) .nil)
 (.cons (.assign (.binop (.binop (.loc Z 1) (.loc Z 2) bR) (.int 1) lI) (.loc Z 3))
 (.cons (.assign (.binop (.binop (.loc Z 3) (.loc Z 1) gk) (.cell Z 0 n rfl) fE) (.loc Z 4))
 (.cons (.assign (.binop (.loc Z 0) (.loc Z 4) lI) (.loc Z 5))
 (.cons (.assign (.binop (.loc Z 0) (.binop (.loc Z 5) (.loc Z 4) kY) UE) (.loc Z 6))
 (.cons (.expr (.clo (.cell Z 1 (n+2) rfl) (.cons (.loc Z 6) (.cons (.loc Z 1) (.cons (.loc Z 3) .nil))) Y))
 (.cons (.expr (.clo (.cell Z 1 (n+2) rfl) (.cons (.loc Z 5) (.cons (.loc Z 3) (.cons (.loc Z 2) .nil))) Y))
 .nil)))))))
theorem Eg(P):∀(W:List Value) (Z:List (Str×Addr)) (Y V:Value) (T:Option Addr) (X U:Value),W.length=kO.length->bindArgs (fnX "inner" (uP P) (CL P) (vP P) (vm P) Z .none .none Y V T X U) ⟨W,[]⟩=pure (kO.zip W):=by
 intro W Z Y V T X U h;obtain⟨Q,R,S,rfl⟩:=rq (h.trans (by left:kO.length=3));left
theorem pI(P prog w os N n):∀k b,k<=b->pQ (TT P prog w os) b (dA P n) (fT P N n k)
 |0,_,_=>fun _ _ _ _ _ _ _ _ _ _ _ _ _ _ _ h=>by exact aW h
 |k+1,b+1,h=>pQ.step (by left) (by left) (Eg P) (by left) (jf (by left)) (lm (by left)) (by decide) (du (by left)) fun Z L X Y=>Go P prog w os b N n Z L X Y _ (pI P prog w os N n k b (by exact(LG h)))
theorem ym(P n cs L):∀x∈np n,x∈(XX P 102 L cs qF (aV rQ n)).cv:=by
 intro x Z;have e:(XX P 102 L cs qF (aV rQ n)).cv=[((Str.ofString "n"),n),((Str.ofString "a_digits"),(n+1)),((Str.ofString "inner"),(n+2))]:=by left
 rw [e];simp only [np,cN,lM,iY]at Z ⊢
 rcases Z with rfl|rfl|rfl<;>simp
noncomputable def tH(P:Params)(Z:Nat)(N n:Nat):SR:=
 (ap (ai (ae (bD (ac (ab (.int 0)) aj)) (ae (ae (ae (aK "int" (aa 0) aj gT) (bi n) ba) (ab (.int 1)) cO) (bi n) de) Cz) (gi (n+1)))
 (ap (sV (n+2) (dA P n))
 (ap (di (aq (aa 0)) (ap (bC (mj (dA P n) (fT P N n Z) (bi (n+2)) (ac (aa 0) (ac (ab (.int 0)) (ac (aB cX (ac (bi (n+1)) aj)) aj)))))
 ah) ah)
 (ap (bF (bi (n+1)))
 ah))))
theorem Tv(P n cs L):bA (XX P 102 L cs qF (aV rQ n)):=bA.of (by left) rfl rfl
theorem MG(P prog w os b N n cs L)(Y:Nat)(X:Y<=b) :bu (TT P prog w os) b (XX P 102 L cs qF (aV rQ n)) (db P 102) (tH P Y  N n):=by
 have Z:=Tv P n cs L;exact
 (.cons (.assign (.binop (.list (.cons (.int 0) .nil)) (.binop (.binop (.binop (.meth BO BE AB (.loc Z 0) .nil rt) (.cell Z 0 n rfl) bR) (.int 1) gk) (.cell Z 0 n rfl) mE) Pb) (.cell Z 1 (n+1) rfl (by left)))
 (.cons (.defn Z 2 (n+2) (P:=97) (c:=101) (cs:=np n) rfl (by left) (show(97:Nat)∈[69,97,104]by decide) (by left) (fun h W=>oj W (by left)) (by left) (by left) (by left) (ym P n cs L) (du (by left)) (by left) (by left) (by left))
 (.cons (.ite (.val (.loc Z 0)) (.cons (.expr (.clo (.cell Z 2 (n+2) rfl) (.cons (.loc Z 0) (.cons (.int 0) (.cons (.bcall (.blt Z 0) (.cons (.cell Z 1 (n+1) rfl) .nil) iL) .nil))) (pI P prog w os N n Y b X)))
 .nil) .nil)
 (.cons (.ret (.cell Z 1 (n+1) rfl))
 .nil))))
noncomputable def ry:List Str:=[]
noncomputable def rW:List Str:=["digits","n","inner"]
noncomputable def Ch:List Str:=["digits","n"]
noncomputable def uQ(P:Params):Stmt:=(db P 109)[0]?.getD (.Pass default)
noncomputable def Cr(P:Params):Arguments:=match uQ P with|.FunctionDef _ p Z _ _ _ sc _ _ _=>p|_=>default
noncomputable def vN(P:Params):List Stmt:=match uQ P with|.FunctionDef _ p Z _ _ _ sc _ _ _=>Z|_=>default
noncomputable def uo(P:Params):Scope:=match uQ P with|.FunctionDef _ p Z _ _ _ sc _ _ _=>sc|_=>default
noncomputable def vC(P:Params):Str:=(dy P 109).qualname++".<locals>."++"inner"
noncomputable def nw(n:Nat):List (Str×Nat):=[("n",(n+1)),("inner",(n+2)),("digits",n)]
noncomputable def lY:List Str:=["L","R"]
noncomputable def vy:List Str:=["L","R","mid","shift"]
noncomputable def dz(P:Params)(n:Nat):PV:=.clo "inner" (vC P) (Cr P) (vN P) (uo P) (nw n)
noncomputable def vt(P:Params)(F:CF)(N n:Nat):SR:=
 (ap (di (aq (ae (ae (aa 0) (ab (.int 1)) ba) (aa 1) jd)) (ap (bF (ae (bi n) (aa 0) aO))
 ah) ah)
 (ap (ai (ae (ae (aa 0) (aa 1) ba) (ab (.int 1)) eQ) (am 2))
 (ap (ai (ae (ae (aa 2) (aa 0) cO) (bi (n+1)) cz) (am 3))
 (ap (bF (ae (ae (mj (dz P n) F (bi (n+2)) (ac (aa 2) (ac (aa 1) aj))) (aa 3) eI) (mj (dz P n) F (bi (n+2)) (ac (aa 0) (ac (aa 2) aj))) ba))
 ah))))
noncomputable def jc(P:Params)(N n:Nat):Nat->CF
 |0=>fun _ _ _=>none
 |k+1=>fP lY vy (vt P (jc P N n k) N n)
noncomputable def HY(P:Params)(Z L:Addr)(X:Value)(Y:List (Str×Addr))(n:Nat):Cx:=⟨pa (vC P) (uo P) Z L X Y,vy,nw n⟩
theorem Rj(P fa L cd cl n):bA (HY P fa L cd cl n):=bA.of (by left) rfl rfl
theorem Hq(P prog w os b N n fa L cd cl F)(Y:pQ (TT P prog w os) b (dz P n) F):bu (TT P prog w os) b (HY P fa L cd cl n) (vN P) (vt P F N n):=by
 have Z:=Rj P fa L cd cl n;exact
 (.cons (.ite (.cmp (.binop (.loc Z 0) (.int 1) bR) (.loc Z 1) mN) (.cons (.ret (.index (.cell Z 2 n rfl) (.loc Z 0)))
 .nil) .nil)
 (.cons (.assign (.binop (.binop (.loc Z 0) (.loc Z 1) bR) (.int 1) lI) (.loc Z 2))
 (.cons (.assign (.binop (.binop (.loc Z 2) (.loc Z 0) gk) (.cell Z 0 (n+1) rfl) fE) (.loc Z 3))
 (.cons (.ret (.binop (.binop (.clo (.cell Z 1 (n+2) rfl) (.cons (.loc Z 2) (.cons (.loc Z 1) .nil)) Y) (.loc Z 3) kY) (.clo (.cell Z 1 (n+2) rfl) (.cons (.loc Z 0) (.cons (.loc Z 2) .nil)) Y) bR))
 .nil))))
theorem EQ(P):∀(W:List Value) (Z:List (Str×Addr)) (Y V:Value) (T:Option Addr) (X U:Value),W.length=lY.length->bindArgs (fnX "inner" (vC P) (Cr P) (vN P) (uo P) Z .none .none Y V T X U) ⟨W,[]⟩=pure (lY.zip W):=by
 intro W Z Y V T X U h;obtain⟨R,S,rfl⟩:=jW (h.trans (by left:lY.length=2));left
theorem pu(P prog w os N n):∀k b,k<=b->pQ (TT P prog w os) b (dz P n) (jc P N n k)
 |0,_,_=>fun _ _ _ _ _ _ _ _ _ _ _ _ _ _ _ h=>by exact aW h
 |k+1,b+1,h=>pQ.step (by left) (by left) (EQ P) (by left) (jf (by left)) (lm (by left)) (by decide) (du (by left)) fun Z L X Y=>Hq P prog w os b N n Z L X Y _ (pu P prog w os N n k b (by exact(LG h)))
theorem xb(P n cs L):∀x∈nw n,x∈(XX P 109 L cs ry (aV rW n)).cv:=by
 intro x Z;have e:(XX P 109 L cs ry (aV rW n)).cv=[((Str.ofString "digits"),n),((Str.ofString "n"),(n+1)),((Str.ofString "inner"),(n+2))]:=by left
 rw [e];simp only [nw,cN,lM,iY]at Z ⊢
 rcases Z with rfl|rfl|rfl<;>simp
noncomputable def ue(P:Params)(Z:Nat)(N n:Nat):SR:=
 (ap (sV (n+2) (dz P n))
 (ap (bF (lD (aq (bi n)) (mj (dz P n) (jc P N n Z) (bi (n+2)) (ac (ab (.int 0)) (ac (aB cX (ac (bi n) aj)) aj))) (ab (.int 0))))
 ah))
theorem Se(P n cs L):bA (XX P 109 L cs ry (aV rW n)):=bA.of (by left) rfl rfl
theorem LJ(P prog w os b N n cs L)(Y:Nat)(X:Y<=b) :bu (TT P prog w os) b (XX P 109 L cs ry (aV rW n)) (db P 109) (ue P Y  N n):=by
 have Z:=Se P n cs L;exact
 (.cons (.defn Z 2 (n+2) (P:=104) (c:=108) (cs:=nw n) rfl (by left) (show(104:Nat)∈[69,97,104]by decide) (by left) (fun h W=>oj W (by left)) (by left) (by left) (by left) (xb P n cs L) (du (by left)) (by left) (by left) (by left))
 (.cons (.ret (.ifexp (.val (.cell Z 0 n rfl)) (.clo (.cell Z 2 (n+2) rfl) (.cons (.int 0) (.cons (.bcall (.blt Z 0) (.cons (.cell Z 0 n rfl) .nil) iL) .nil)) (pu P prog w os N n Y b X)) (.int 0)))
 .nil))
noncomputable def yo:List Str:=["a","b","n","a_digits","r","q_digits","a_digit","q_digit","q"]
noncomputable def wr:List Str:=[]
noncomputable def Cp:List Str:=["a","b"]
noncomputable def DH(Y:bO)(X:bO)(Z:bO)(N n:Nat):SR:=
 (ap (ai (aK "int" (aa 1) aj gT) (am 2))
 (ap (ai (bc Y (ac (aa 0) (ac (aa 2) aj))) (am 3))
 (ap (ai (ab (.int 0)) (am 4))
 (ap (ai (bD aj) (am 5))
 (ap (dD N (vZ (aa 3)) (am 6) (ap (ai (bc X (ac (ae (ae (aa 4) (aa 2) eI) (aa 6) ba) (ac (aa 1) (ac (aa 2) aj)))) (dK 2 (aT (am 7) (aT (am 4) cM))))
 (ap (bC (aK "list" (aa 5) (ac (aa 7) aj) aQ))
 ah)) ah)
 (ap (bC (aK "list" (aa 5) aj gz))
 (ap (ai (bc Z (ac (aa 5) (ac (aa 2) aj))) (am 8))
 (ap (bF (ey (ac (aa 8) (ac (aa 4) aj))))
 ah))))))))
theorem RP(P n cs L):bA (XX P 116 L cs yo (aV wr n)):=bA.of (by left) rfl rfl
theorem LQ(P prog w os b N n cs L){X:bO}{T:bO}{Y:bO}(U:aU (TT P prog w os) b (.ref 102) (fun W=>⟨W,[]⟩) X)(S:aU (TT P prog w os) b (.ref 88) (fun W=>⟨W,[]⟩) T)(V:aU (TT P prog w os) b (.ref 109) (fun W=>⟨W,[]⟩) Y):bu (TT P prog w os) b (XX P 116 L cs yo (aV wr n)) (db P 116) (DH  X T Y N n):=by
 have Z:=RP P n cs L;exact
 (.cons (.assign (.meth BO BE AB (.loc Z 1) .nil rt) (.loc Z 2))
 (.cons (.assign (.call (.glob Z 10) (.cons (.loc Z 0) (.cons (.loc Z 2) .nil)) U (NX P) (OW P)) (.loc Z 3))
 (.cons (.assign (.int 0) (.loc Z 4))
 (.cons (.assign (.list .nil) (.loc Z 5))
 (.cons (.for N (.rev (.blt Z 10) (.loc Z 3)) (.loc Z 6) (.cons (.assign (.call (.glob Z 8) (.cons (.binop (.binop (.loc Z 4) (.loc Z 2) kY) (.loc Z 6) bR) (.cons (.loc Z 1) (.cons (.loc Z 2) .nil))) S (PP P) (Qd P)) (.tup (.cons (.loc Z 7) (.cons (.loc Z 4) .nil))))
 (.cons (.expr (.meth dX fw fq (.loc Z 5) (.cons (.loc Z 7) .nil) cg))
 .nil)) .nil)
 (.cons (.expr (.meth dX Ay Ib (.loc Z 5) .nil tf))
 (.cons (.assign (.call (.glob Z 11) (.cons (.loc Z 5) (.cons (.loc Z 2) .nil)) V (NR P) (Oh P)) (.loc Z 8))
 (.cons (.ret (.tup (.cons (.loc Z 8) (.cons (.loc Z 4) .nil))))
 .nil))))))))
theorem PK(P prog w os b)(Y:3<=b):ny (TT P prog w os) b 45:=by
 have Z:∀L,bA ⟨pa (dy P 45).qualname (dy P 45).scope 45 L (dy P 45).code [],([("addr":Str),"pos","escape","ch"]:List Str),[]⟩:=fun L=>bA.of (by left) rfl rfl
 refine ny.of Y (Qw P) (RD P) (by left) (by left) rfl (by left) (by left) (by left) (mf (by left)) (fun v s _=>BindsTo.of_eq (by left)) (jf (by left)) Z
  (fun F X=>X.blt 14 _ _ rfl) (by left) (fun L=>⟨?_,?_,?_,?_,?_,?_,?_⟩) (fun L=>?_)
 .exact dR.tup (gE.cons (dR.loc (Z L) 1) (gE.cons (dR.loc (Z L) 3) gE.nil))
 .exact fW.val (aN.loc (Z L) 2)
 .exact fW.cmp (aN.loc (Z L) 3) (aN.str _) mN
 .exact aN.tup (gD.cons (aN.loc (Z L) 1) (gD.cons (aN.binop (aN.str _) (aN.loc (Z L) 3) bR) gD.nil))
 .exact aN.tup (gD.cons (aN.loc (Z L) 1) (gD.cons (aN.loc (Z L) 3) gD.nil))
 .exact dc.assign (aN.bool _) (dR.loc (Z L) 2) (by left) (by left)
 .exact dc.assign (aN.bool _) (dR.loc (Z L) 2) (by left) (by left)
 .exact fW.val (aN.loc (Z L) 2)
noncomputable def GW:List Str:=["addr","start","open_pos","result","pos","ch"]
noncomputable def GB:List Str:=[]
noncomputable def MM:List Str:=["addr"]
noncomputable def HS(N n:Nat):SR:=
 (ap (di (aq (ae (ab (.str "\"")) (aa 0) nj)) (ap (bF (aa 0))
 ah) ah)
 (ap (ai (ab (.int 0)) (am 1))
 (ap (ai (ab .none) (am 2))
 (ap (ai (bD aj) (am 3))
 (ap (dD N (sm (ac (aa 0) aj)) (dK 2 (aT (am 4) (aT (am 5) cM))) (ap (di (aq (ae (aa 5) (ab (.str "\"")) jd)) (ap (di (aq (ae (aa 2) (ab .none) LD)) (ap (ai (aa 4) (am 2))
 ah) (ap (di (aq (ae (aa 1) (aa 2) mJ)) (ap (bC (aK "list" (aa 3) (ac (bI (aa 0) (bU (aa 1)) (bU (aa 2))) aj) aQ))
 ah) ah)
 (ap (ai (ae (aa 4) (ab (.int 1)) ba) (am 1))
 (ap (ai (ab .none) (am 2))
 ah))))
 ah) ah)
 ah) ah)
 (ap (di (aq (ae (aa 1) (aB cX (ac (aa 0) aj)) mQ)) (ap (bC (aK "list" (aa 3) (ac (bI (aa 0) (bU (aa 1)) cr) aj) aQ))
 ah) ah)
 (ap (bF (aK "str" (ab (.str "")) (ac (aa 3) aj) ia))
 ah)))))))
theorem Vx(P n cs L):bA (XX P 52 L cs GW (aV GB n)):=bA.of (by left) rfl rfl
theorem PS(P prog w os b N n cs L)  (Y:ny (TT P prog w os) b 45):bu (TT P prog w os) b (XX P 52 L cs GW (aV GB n)) (db P 52) (HS   N n):=by
 have Z:=Vx P n cs L;exact
 (.cons (.ite (.cmp (.str "\"") (.loc Z 0) zf) (.cons (.ret (.loc Z 0))
 .nil) .nil)
 (.cons (.assign (.int 0) (.loc Z 1))
 (.cons (.assign .none (.loc Z 2))
 (.cons (.assign (.list .nil) (.loc Z 3))
 (.cons (.for N (.esc (.glob Z 1) (.cons (.loc Z 0) .nil) Y (Qw P) (RD P)) (.tup (.cons (.loc Z 4) (.cons (.loc Z 5) .nil))) (.cons (.ite (.cmp (.loc Z 5) (.str "\"") mN) (.cons (.ite (.cmp (.loc Z 2) .none NI) (.cons (.assign (.loc Z 4) (.loc Z 2))
 .nil) (.cons (.ite (.cmp (.loc Z 1) (.loc Z 2) sW) (.cons (.expr (.meth dX fw fq (.loc Z 3) (.cons (.slice (.loc Z 0) (.yes (.loc Z 1)) (.yes (.loc Z 2))) .nil) cg))
 .nil) .nil)
 (.cons (.assign (.binop (.loc Z 4) (.int 1) bR) (.loc Z 1))
 (.cons (.assign .none (.loc Z 2))
 .nil))))
 .nil) .nil)
 .nil) .nil)
 (.cons (.ite (.cmp (.loc Z 1) (.bcall (.blt Z 0) (.cons (.loc Z 0) .nil) iL) sO) (.cons (.expr (.meth dX fw fq (.loc Z 3) (.cons (.slice (.loc Z 0) (.yes (.loc Z 1)) .no) .nil) cg))
 .nil) .nil)
 (.cons (.ret (.meth iE rG ra (.str "") (.cons (.loc Z 3) .nil) qH))
 .nil)))))))
noncomputable def Hg:List Str:=["addr","opens","pos","ch"]
noncomputable def FK:List Str:=[]
noncomputable def Mj:List Str:=["addr"]
noncomputable def HB(Z:bO)(N n:Nat):SR:=
 (ap (ai (bc Z (ac (aa 0) aj)) (am 0))
 (ap (ai (ab (.int 0)) (am 1))
 (ap (dD N (sm (ac (aa 0) aj)) (dK 2 (aT (am 2) (aT (am 3) cM))) (ap (di (aq (ae (aa 3) (ab (.str "(")) jd)) (ap (fA (aa 1) (ab (.int 1)) jg (am 1))
 ah) (ap (di (aq (ae (aa 3) (ab (.str ")")) jd)) (ap (fA (aa 1) (ab (.int 1)) cO (am 1))
 (ap (di (aq (ae (aa 1) (ab (.int 0)) mQ)) (ap (bF (ab (.bool false)))
 ah) ah)
 ah)) ah)
 ah))
 ah) ah)
 (ap (bF (ae (aa 1) (ab (.int 0)) jd))
 ah))))
theorem Vj(P n cs L):bA (XX P 59 L cs Hg (aV FK n)):=bA.of (by left) rfl rfl
theorem Pg(P prog w os b N n cs L){X:bO}(W:aU (TT P prog w os) b (.ref 52) (fun V=>⟨V,[]⟩) X)(Y:ny (TT P prog w os) b 45):bu (TT P prog w os) b (XX P 59 L cs Hg (aV FK n)) (db P 59) (HB  X N n):=by
 have Z:=Vj P n cs L;exact
 (.cons (.assign (.call (.glob Z 2) (.cons (.loc Z 0) .nil) W (Sx P) (Tz P)) (.loc Z 0))
 (.cons (.assign (.int 0) (.loc Z 1))
 (.cons (.for N (.esc (.glob Z 1) (.cons (.loc Z 0) .nil) Y (Qw P) (RD P)) (.tup (.cons (.loc Z 2) (.cons (.loc Z 3) .nil))) (.cons (.ite (.cmp (.loc Z 3) (.str "(") mN) (.cons (.augLoc Z 1 rfl (.int 1) qL)
 .nil) (.cons (.ite (.cmp (.loc Z 3) (.str ")") mN) (.cons (.augLoc Z 1 rfl (.int 1) BQ)
 (.cons (.ite (.cmp (.loc Z 1) (.int 0) sO) (.cons (.ret (.bool false))
 .nil) .nil)
 .nil)) .nil)
 .nil))
 .nil) .nil)
 (.cons (.ret (.cmp (.loc Z 1) (.int 0) mN))
 .nil))))
noncomputable def Mn:List Str:=["w","base","more_than","show","seen","need","ws","lo","d","it","first","this","hi","sq"]
noncomputable def Mq:List Str:=[]
noncomputable def RY:List Str:=["w","base","more_than","show"]
noncomputable def Qz(N n:Nat):SR:=
 (ap (ai (aB Nk aj) (am 4))
 (ap (ai (aB Nk aj) (am 5))
 (ap (ai (UM (aa 0)) (am 6))
 (ap (eE (aq (aa 6)) (ap (ai (aK "set" (aa 6) aj Cl) (am 0))
 (ap (di (iy (aq (ae (aa 0) (aa 4) Hm)) (iy (aq (ae (aa 0) (aa 2) PL)) ir)) (ap Ob
 ah) ah)
 lV)) ah N)
 (ap (ai HN (am 8))
 (ap (di (SA (aq (aa 5))) (ap (bF (aa 8))
 ah) ah)
 lV))))))
theorem Vo(P n cs L):bA (XX P 67 L cs Mn (aV Mq n)):=bA.of (by left) rfl rfl
theorem Rv(P prog w os b N n cs L) :bu (TT P prog w os) b (XX P 67 L cs Mn (aV Mq n)) (db P 67) (Qz   N n):=by
 have Z:=Vo P n cs L;exact
 (.cons (.assign (.tcall (.blt Z 11) .nil NT) (.loc Z 4))
 (.cons (.assign (.tcall (.blt Z 11) .nil NT) (.loc Z 5))
 (.cons (.assign (.sg (.loc Z 0) (by left)) (.loc Z 6))
 (.cons (.while N (.val (.loc Z 6)) (.cons (.assign (.meth F.plainAttrs_set JZ F.type_set_pop (.loc Z 6) .nil HU) (.loc Z 0))
 (.cons (.ite (.bool (.or (.cmp (.loc Z 0) (.loc Z 4) ME) (.or (.cmp (.loc Z 0) (.loc Z 2) OY) .orNil))) (.cons .cont
 .nil) .nil)
 .dead)) .nil)
 (.cons (.assign .dict (.loc Z 8))
 (.cons (.ite (.not (.val (.loc Z 5))) (.cons (.ret (.loc Z 8))
 .nil) .nil)
 .dead))))))
noncomputable def zE:List Str:=[]
noncomputable def Bo:List Str:=["s","DIGLIM","inner","w5pow"]
noncomputable def LW:List Str:=["s"]
noncomputable def zL(P:Params):Stmt:=(db P 74)[1]?.getD (.Pass default)
noncomputable def Hh(P:Params):Arguments:=match zL P with|.FunctionDef _ p Z _ _ _ sc _ _ _=>p|_=>default
noncomputable def zD(P:Params):List Stmt:=match zL P with|.FunctionDef _ p Z _ _ _ sc _ _ _=>Z|_=>default
noncomputable def zP(P:Params):Scope:=match zL P with|.FunctionDef _ p Z _ _ _ sc _ _ _=>sc|_=>default
noncomputable def BI(P:Params):Str:=(dy P 74).qualname++".<locals>."++"inner"
noncomputable def so(n:Nat):List (Str×Nat):=[("w5pow",(n+3)),("s",n),("inner",(n+2)),("DIGLIM",(n+1))]
noncomputable def qJ:List Str:=["a","b"]
noncomputable def CP:List Str:=["a","b","mid"]
noncomputable def eO(P:Params)(n:Nat):PV:=.clo "inner" (BI P) (Hh P) (zD P) (zP P) (so n)
noncomputable def Cw(P:Params)(F:CF)(N n:Nat):SR:=
 (ap (di (aq (ae (ae (aa 1) (aa 0) cO) (bi (n+1)) PL)) (ap (bF (aB Rz (ac (bI (bi n) (bU (aa 0)) (bU (aa 1))) aj)))
 ah) ah)
 (ap (ai (ae (ae (ae (aa 0) (aa 1) ba) (ab (.int 1)) ba) (ab (.int 1)) eQ) (am 2))
 (ap (bF (ae (mj (eO P n) F (bi (n+2)) (ac (aa 2) (ac (aa 1) aj))) (ae (ae (mj (eO P n) F (bi (n+2)) (ac (aa 0) (ac (aa 2) aj))) (ae (bi (n+3)) (ae (aa 1) (aa 2) cO) aO) cz) (ae (aa 1) (aa 2) cO) eI) ba))
 ah)))
noncomputable def jv(P:Params)(N n:Nat):Nat->CF
 |0=>fun _ _ _=>none
 |k+1=>fP qJ CP (Cw P (jv P N n k) N n)
noncomputable def Ox(P:Params)(Z L:Addr)(X:Value)(Y:List (Str×Addr))(n:Nat):Cx:=⟨pa (BI P) (zP P) Z L X Y,CP,so n⟩
theorem Sy(P fa L cd cl n):bA (Ox P fa L cd cl n):=bA.of (by left) rfl rfl
theorem Nw(P prog w os b N n fa L cd cl F)(Y:pQ (TT P prog w os) b (eO P n) F):bu (TT P prog w os) b (Ox P fa L cd cl n) (zD P) (Cw P F N n):=by
 have Z:=Sy P fa L cd cl n;exact
 (.cons (.ite (.cmp (.binop (.loc Z 1) (.loc Z 0) gk) (.cell Z 3 (n+1) rfl) OY) (.cons (.ret (.tcall (.blt Z 2) (.cons (.slice (.cell Z 1 n rfl) (.yes (.loc Z 0)) (.yes (.loc Z 1))) .nil) Uy))
 .nil) .nil)
 (.cons (.assign (.binop (.binop (.binop (.loc Z 0) (.loc Z 1) bR) (.int 1) bR) (.int 1) lI) (.loc Z 2))
 (.cons (.ret (.binop (.clo (.cell Z 2 (n+2) rfl) (.cons (.loc Z 2) (.cons (.loc Z 1) .nil)) Y) (.binop (.binop (.clo (.cell Z 2 (n+2) rfl) (.cons (.loc Z 0) (.cons (.loc Z 2) .nil)) Y) (.index (.cell Z 0 (n+3) rfl) (.binop (.loc Z 1) (.loc Z 2) gk)) fE) (.binop (.loc Z 1) (.loc Z 2) gk) kY) bR))
 .nil)))
theorem FZ(P):∀(W:List Value) (Z:List (Str×Addr)) (Y V:Value) (T:Option Addr) (X U:Value),W.length=qJ.length->bindArgs (fnX "inner" (BI P) (Hh P) (zD P) (zP P) Z .none .none Y V T X U) ⟨W,[]⟩=pure (qJ.zip W):=by
 intro W Z Y V T X U h;obtain⟨R,S,rfl⟩:=jW (h.trans (by left:qJ.length=2));left
theorem qI(P prog w os N n):∀k b,k<=b->pQ (TT P prog w os) b (eO P n) (jv P N n k)
 |0,_,_=>fun _ _ _ _ _ _ _ _ _ _ _ _ _ _ _ h=>by exact aW h
 |k+1,b+1,h=>pQ.step (by left) (by left) (FZ P) (by left) (jf (by left)) (lm (by left)) (by decide) (du (by left)) fun Z L X Y=>Nw P prog w os b N n Z L X Y _ (qI P prog w os N n k b (by exact(LG h)))
theorem zq(P n cs L):∀x∈so n,x∈(XX P 74 L cs zE (aV Bo n)).cv:=by
 intro x Z;have e:(XX P 74 L cs zE (aV Bo n)).cv=[((Str.ofString "s"),n),((Str.ofString "DIGLIM"),(n+1)),((Str.ofString "inner"),(n+2)),((Str.ofString "w5pow"),(n+3))]:=by left
 rw [e];simp only [so,cN,lM,iY]at Z ⊢
 rcases Z with rfl|rfl|rfl|rfl<;>simp
noncomputable def IQ(P:Params)(Y:Nat)(Z:bO)(N n:Nat):SR:=
 (ap (ai (ab (.int 2048)) (gi (n+1)))
 (ap (sV (n+2) (eO P n))
 (ap (ai (bc Z (ac (aB cX (ac (bi n) aj)) (ac (ab (.int 5)) (ac (bi (n+1)) aj)))) (gi (n+3)))
 (ap (bF (mj (eO P n) (jv P N n Y) (bi (n+2)) (ac (ab (.int 0)) (ac (aB cX (ac (bi n) aj)) aj))))
 ah))))
theorem Ve(P n cs L):bA (XX P 74 L cs zE (aV Bo n)):=bA.of (by left) rfl rfl
theorem Pn(P prog w os b N n cs L)(W:Nat)(U:W<=b){Y:bO}(X:aU (TT P prog w os) b (.ref 67) (fun V=>⟨V,[]⟩) Y):bu (TT P prog w os) b (XX P 74 L cs zE (aV Bo n)) (db P 74) (IQ P W Y N n):=by
 have Z:=Ve P n cs L;exact
 (.cons (.assign (.int 2048) (.cell Z 1 (n+1) rfl (by left)))
 (.cons (.defn Z 2 (n+2) (P:=69) (c:=73) (cs:=so n) rfl (by left) (show(69:Nat)∈[69,97,104]by decide) (by left) (fun h T=>oj T (by left)) (by left) (by left) (by left) (zq P n cs L) (du (by left)) (by left) (by left) (by left))
 (.cons (.assign (.call (.glob Z 4) (.cons (.bcall (.blt Z 0) (.cons (.cell Z 0 n rfl) .nil) iL) (.cons (.int 5) (.cons (.cell Z 1 (n+1) rfl) .nil))) X (TA P) (Tm P)) (.cell Z 3 (n+3) rfl (by left)))
 (.cons (.ret (.clo (.cell Z 2 (n+2) rfl) (.cons (.int 0) (.cons (.bcall (.blt Z 0) (.cons (.cell Z 0 n rfl) .nil) iL) .nil)) (qI P prog w os N n W b U)))
 .nil))))
noncomputable def Gg:List Str:=["s"]
noncomputable def JT:List Str:=[]
noncomputable def MD:List Str:=["s"]
noncomputable def KS(Z:bO)(N n:Nat):SR:=
 (ap (ai (jM (aa 0) (Str.ofString "_") (Str.ofString "")) (am 0))
 (ap (bF (bc Z (ac (aa 0) aj)))
 ah))
theorem Vu(P n cs L):bA (XX P 81 L cs Gg (aV JT n)):=bA.of (by left) rfl rfl
theorem PF(P prog w os b N n cs L){Z:bO}(X:aU (TT P prog w os) b (.ref 74) (fun W=>⟨W,[]⟩) Z):bu (TT P prog w os) b (XX P 81 L cs Gg (aV JT n)) (db P 81) (KS  Z N n):=by
 have Y:=Vu P n cs L;exact
 (.cons (.assign (.stripRepl (.loc Y 0)) (.loc Y 0))
 (.cons (.ret (.call (.glob Y 5) (.cons (.loc Y 0) .nil) X (TY P) (Ul P)))
 .nil))
noncomputable def yl:List Str:=["a","b","q","r"]
noncomputable def wU:List Str:=[]
noncomputable def Cb:List Str:=["a","b"]
noncomputable def tb(Z:bO)(Y:bO)(N n:Nat):SR:=
 (ap (di (aq (ae (aa 1) (ab (.int 0)) jd)) (ap lV
 ah) (ap (di (aq (ae (aa 1) (ab (.int 0)) mQ)) (ap (ai (bc Z (ac (cY (aa 0) im) (ac (cY (aa 1) im) aj))) (dK 2 (aT (am 2) (aT (am 3) cM))))
 (ap (bF (ey (ac (aa 2) (ac (cY (aa 3) im) aj))))
 ah)) (ap (di (aq (ae (aa 0) (ab (.int 0)) mQ)) (ap (ai (bc Z (ac (cY (aa 0) nd) (ac (aa 1) aj))) (dK 2 (aT (am 2) (aT (am 3) cM))))
 (ap (bF (ey (ac (cY (aa 2) nd) (ac (ae (aa 1) (cY (aa 3) nd) ba) aj))))
 ah)) (ap (bF (bc Y (ac (aa 0) (ac (aa 1) aj))))
 ah))
 ah))
 ah))
 ah)
theorem RO(P n cs L):bA (XX P 123 L cs yl (aV wU n)):=bA.of (by left) rfl rfl
theorem Lw(P prog w os b N n cs L){X:bO}{W:bO}(Y:aU (TT P prog w os) b (.ref 123) (fun U=>⟨U,[]⟩) X)(V:aU (TT P prog w os) b (.ref 116) (fun U=>⟨U,[]⟩) W):bu (TT P prog w os) b (XX P 123 L cs yl (aV wU n)) (db P 123) (tb  X W N n):=by
 have Z:=RO P n cs L;exact
 (.cons (.ite (.cmp (.loc Z 1) (.int 0) mN) (.cons .dead
 .nil) (.cons (.ite (.cmp (.loc Z 1) (.int 0) sO) (.cons (.assign (.call (.glob Z 13) (.cons (.unop (.loc Z 0) oZ) (.cons (.unop (.loc Z 1) oZ) .nil)) Y (yG P) (xA P)) (.tup (.cons (.loc Z 2) (.cons (.loc Z 3) .nil))))
 (.cons (.ret (.tup (.cons (.loc Z 2) (.cons (.unop (.loc Z 3) oZ) .nil))))
 .nil)) (.cons (.ite (.cmp (.loc Z 0) (.int 0) sO) (.cons (.assign (.call (.glob Z 13) (.cons (.unop (.loc Z 0) CQ) (.cons (.loc Z 1) .nil)) Y (yG P) (xA P)) (.tup (.cons (.loc Z 2) (.cons (.loc Z 3) .nil))))
 (.cons (.ret (.tup (.cons (.unop (.loc Z 2) CQ) (.cons (.binop (.loc Z 1) (.unop (.loc Z 3) CQ) bR) .nil))))
 .nil)) (.cons (.ret (.call (.glob Z 12) (.cons (.loc Z 0) (.cons (.loc Z 1) .nil)) V (OB P) (OG P)))
 .nil))
 .nil))
 .nil))
 .nil)
noncomputable def yf:List Str:=["self","value","name","regex"]
noncomputable def yL:List Str:=[]
noncomputable def CO:List Str:=["self","value","name"]
noncomputable def CK(N n:Nat):SR:=
 (ap (di (aq (ae (aB sz (ac (aa 1) aj)) (ab (.val (.type "str"))) LD)) (ap (ai (lD (aq (aa 2)) (ab (.val (.ref 140))) (ab (.val (.ref 145)))) (am 3))
 (ap (di (aq (RL [140,145] (aa 3) (ac (aa 1) aj))) (ap lV
 ah) ah)
 (ap (bF (aa 1))
 ah))) ah)
 (ap lV
 ah))
theorem Uz(P n cs L):bA (XX P 175 L cs yf (aV yL n)):=bA.of (by left) rfl rfl
theorem MU(P prog w os b N n cs L) :bu (TT P prog w os) b (XX P 175 L cs yf (aV yL n)) (db P 175) (CK   N n):=by
 have Z:=Uz P n cs L;exact
 (.cons (.ite (.cmp (.tcall (.blt Z 6) (.cons (.loc Z 1) .nil) we) (.blt Z 1) NI) (.cons (.assign (.ifexp (.val (.loc Z 2)) (.glob Z 17) (.glob Z 18)) (.loc Z 3))
 (.cons (.ite (.val (.reSearch (US P) (.loc Z 3) (.cons (.loc Z 1) .nil))) (.cons .dead
 .nil) .nil)
 (.cons (.ret (.loc Z 1))
 .nil))) .nil)
 (.cons .dead
 .nil))
noncomputable def yz:List Str:=["self"]
noncomputable def yb:List Str:=["name"]
noncomputable def CI:List Str:=["self","name"]
noncomputable def wy(Z:bO)(N n:Nat):SR:=
 (ap (ai (eJ 274 Z (aa 0) (ac (aK "str" (bi n) aj mD) aj) (ab (.bool true))) (gi n))
 (ap (bF (iw N 1 (dj (cY (aa 0) (uI 274))) (am 0) (aq (ae (aK "str" (ae (aa 0) (ab (.int 0)) aO) aj mD) (bi n) jd)) (ae (aa 0) (ab (.int 1)) aO)))
 ah))
theorem Sc(P n cs L):bA (XX P 213 L cs yz (aV yb n)):=bA.of (by left) rfl rfl
theorem KJ(P prog w os b N n cs L){Y:bO}(X:aU (TT P prog w os) b (.ref 175) (sP (Str.ofString "name")) Y):bu (TT P prog w os) b (XX P 213 L cs yz (aV yb n)) (db P 213) (wy  Y N n):=by
 have W:=Sc P n cs L;exact
 (.cons (.assign (.hcallK (nP P) (by left) (by left) (by left) (.loc W 0) (.cons (.meth iE Jh Jl (.cell W 0 n rfl) .nil Dw) .nil) (.bool true) X (CM P) (DI P)) (.cell W 0 n rfl (by left)))
 (.cons (.ret (.comp (vars:=[(Str.ofString "kv")]) (cvn:=[((Str.ofString "name"),n)]) (js:=[0]) N (.val (.headers (nP P) (.loc W 0))) (by left) (by left) (fun U V=>have Z:bA (dM _ _ [(Str.ofString "kv")] [((Str.ofString "name"),n)] V U):=bA.of (by left) rfl rfl;⟨(.loc Z 0),(.one (.cmp (.meth iE Jh Jl (.index (.loc Z 0) (.int 0)) .nil Dw) (.cell Z 0 n rfl) mN)),(.index (.loc Z 0) (.int 1))⟩)))
 .nil))
noncomputable def zj:List Str:=["self"]
noncomputable def wx:List Str:=[]
noncomputable def CN:List Str:=["self"]
noncomputable def Du(N n:Nat):SR:=
 (ap (bF (bI (cY (aa 0) (uI 274)) cr cr))
 ah)
theorem TG(P n cs L):bA (XX P 238 L cs zj (aV wx n)):=bA.of (by left) rfl rfl
theorem Mg(P prog w os b N n cs L) :bu (TT P prog w os) b (XX P 238 L cs zj (aV wx n)) (db P 238) (Du   N n):=by
 have Z:=TG P n cs L;exact
 (.cons (.ret (.slice (.headers (nP P) (.loc Z 0)) .no .no))
 .nil)
noncomputable def xn:List Str:=["self","_name","_value","_params","parts","k","v"]
noncomputable def xm:List Str:=[]
noncomputable def Ds:List Str:=["self","_name","_value","_params"]
noncomputable def xp(Z:bO)(N n:Nat):SR:=
 (ap (ai (bD aj) (am 4))
 (ap (di (aq (ae (aa 2) (ab .none) cK)) (ap (ai (eJ 274 Z (aa 0) (ac (aa 2) aj) (ab (.bool false))) (am 2))
 (ap (bC (aK "list" (aa 4) (ac (aa 2) aj) aQ))
 ah)) ah)
 (ap (lz (aa 3))
 (ap (bC (aK "list" (cY (aa 0) (uI 274)) (ac (ey (ac (eJ 274 Z (aa 0) (ac (aa 1) aj) (ab (.bool true))) (ac (aK "str" (ab (.str "; ")) (ac (aa 4) aj) ia) aj))) aj) aQ))
 ah))))
theorem RW(P n cs L):bA (XX P 271 L cs xn (aV xm n)):=bA.of (by left) rfl rfl
theorem NO(P prog w os b N n cs L){X:bO}(Y:aU (TT P prog w os) b (.ref 175) (sP (Str.ofString "name")) X):bu (TT P prog w os) b (XX P 271 L cs xn (aV xm n)) (db P 271) (xp  X N n):=by
 have Z:=RW P n cs L;exact
 (.cons (.assign (.list .nil) (.loc Z 4))
 (.cons (.ite (.cmp (.loc Z 2) .none eZ) (.cons (.assign (.hcallK (nP P) (by left) (by left) (by left) (.loc Z 0) (.cons (.loc Z 2) .nil) (.bool false) Y (CM P) (DI P)) (.loc Z 2))
 (.cons (.expr (.meth dX fw fq (.loc Z 4) (.cons (.loc Z 2) .nil) cg))
 .nil)) .nil)
 (.cons (.forItems0 (.loc Z 3))
 (.cons (.expr (.meth dX fw fq (.headers (nP P) (.loc Z 0)) (.cons (.tup (.cons (.hcallK (nP P) (by left) (by left) (by left) (.loc Z 0) (.cons (.loc Z 1) .nil) (.bool true) Y (CM P) (DI P)) (.cons (.meth iE rG ra (.str "; ") (.cons (.loc Z 4) .nil) qH) .nil))) .nil) cg))
 .nil))))
noncomputable def zd:List Str:=["word","dress","pieces","dressed","parts","sign","text","refused","ends","first","last","told"]
noncomputable def yZ:List Str:=[]
noncomputable def DC:List Str:=["word","dress"]
noncomputable def wC(Z:bO)(N n:Nat):SR:=
 (ap (ai (bD (ac (ab (.str "")) (ac (ab (.str "\\)")) (ac (ab (.str "\"(\"")) (ac (ab (.str "\\\\")) (ac (ab (.str "\"\\\")\"")) aj)))))) (am 2))
 (ap (ai (bI (bI (ab (.str "abcdea")) (bU (ae (ae (aa 1) (ab (.int 5)) de) (ab (.int 5)) eu)) cr) cr (bU (ab (.int 2)))) (am 3))
 (ap (ai (bD aj) (am 4))
 (ap (dD N (dj (aa 0)) (am 5) (ap (di (aq (ae (aa 5) (ab (.str "ABCDE")) Dh)) (ap (bC (aK "list" (aa 4) (ac (ab (.str ")")) aj) aQ))
 ah) (ap (di (aq (ae (aa 5) (aa 3) Dh)) (ap (bC (aK "list" (aa 4) (ac (ae (ab (.str "(")) (ae (aa 2) (ae (aa 1) (ab (.int 5)) eu) aO) ba) aj) aQ))
 ah) (ap (bC (aK "list" (aa 4) (ac (ab (.str "(")) aj) aQ))
 ah))
 ah))
 ah) ah)
 (ap (ai (aK "str" (ab (.str "")) (ac (aa 4) aj) ia) (am 6))
 (ap (dD N (dj (ey (ac (ae (bI (aa 6) (bU (ab (.int 1))) cr) (ab (.str "(")) ba) (ac (ae (aa 6) (ab (.str "\")")) ba) aj)))) (am 7) (ap (di (aq (ae (bc Z (ac (aa 7) aj)) (ab (.bool false)) cK)) (ap (bF (bD aj))
 ah) ah)
 ah) ah)
 (ap (ai (bD aj) (am 8))
 (ap (dD N (dj (aB dm (ac (ab (.int 10)) aj))) (am 9) (ap (di (aq (ae (ae (aa 0) (aa 9) aO) (ab (.str "abcde")) Dh)) (ap (dD N (dj (aB dm (ac (ae (aa 9) (ab (.int 1)) ba) (ac (ab (.int 10)) aj)))) (am 10) (ap (di (aq (ae (ae (aa 0) (aa 10) aO) (ab (.str "ABCDE")) Dh)) (ap (ai (bc Z (ac (aK "str" (ab (.str "")) (ac (bI (aa 4) (bU (aa 9)) (bU (ae (aa 10) (ab (.int 1)) ba))) aj) ia) aj)) (am 11))
 (ap (di (aq (ae (aa 11) (ab (.bool true)) LD)) (ap (bC (aK "list" (aa 8) (ac (aa 10) aj) aQ))
 (ap Rr
 ah)) ah)
 (ap (di (aq (ae (aa 11) (ab (.bool false)) cK)) (ap (bF (bD aj))
 ah) ah)
 ah))) ah)
 ah) ah)
 ah) ah)
 ah) ah)
 (ap (bF (aa 8))
 ah)))))))))
theorem Sp(P n cs L):bA (XX P 320 L cs zd (aV yZ n)):=bA.of (by left) rfl rfl
theorem LS(P prog w os b N n cs L){X:bO}(Y:aU (TT P prog w os) b (.ref 59) (fun W=>⟨W,[]⟩) X):bu (TT P prog w os) b (XX P 320 L cs zd (aV yZ n)) (db P 320) (wC  X N n):=by
 have Z:=Sp P n cs L;exact
 (.cons (.assign (.list (.cons (.str "") (.cons (.str "\\)") (.cons (.str "\"(\"") (.cons (.str "\\\\") (.cons (.str "\"\\\")\"") .nil)))))) (.loc Z 2))
 (.cons (.assign (.slice (.slice (.str "abcdea") (.yes (.binop (.binop (.loc Z 1) (.int 5) mE) (.int 5) lS)) .no) .no (.yes (.int 2))) (.loc Z 3))
 (.cons (.assign (.list .nil) (.loc Z 4))
 (.cons (.for N (.val (.loc Z 0)) (.loc Z 5) (.cons (.ite (.cmp (.loc Z 5) (.str "ABCDE") Lc) (.cons (.expr (.meth dX fw fq (.loc Z 4) (.cons (.str ")") .nil) cg))
 .nil) (.cons (.ite (.cmp (.loc Z 5) (.loc Z 3) Lc) (.cons (.expr (.meth dX fw fq (.loc Z 4) (.cons (.binop (.str "(") (.index (.loc Z 2) (.binop (.loc Z 1) (.int 5) lS)) bR) .nil) cg))
 .nil) (.cons (.expr (.meth dX fw fq (.loc Z 4) (.cons (.str "(") .nil) cg))
 .nil))
 .nil))
 .nil) .nil)
 (.cons (.assign (.meth iE rG ra (.str "") (.cons (.loc Z 4) .nil) qH) (.loc Z 6))
 (.cons (.for N (.val (.tup (.cons (.binop (.slice (.loc Z 6) (.yes (.int 1)) .no) (.str "(") bR) (.cons (.binop (.loc Z 6) (.str "\")") bR) .nil)))) (.loc Z 7) (.cons (.ite (.cmp (.call (.glob Z 3) (.cons (.loc Z 7) .nil) Y (PO P) (PW P)) (.bool false) eZ) (.cons (.ret (.list .nil))
 .nil) .nil)
 .nil) .nil)
 (.cons (.assign (.list .nil) (.loc Z 8))
 (.cons (.for N (.val (.tcall (.blt Z 7) (.cons (.int 10) .nil) gL)) (.loc Z 9) (.cons (.ite (.cmp (.index (.loc Z 0) (.loc Z 9)) (.str "abcde") Lc) (.cons (.for N (.val (.tcall (.blt Z 7) (.cons (.binop (.loc Z 9) (.int 1) bR) (.cons (.int 10) .nil)) gL)) (.loc Z 10) (.cons (.ite (.cmp (.index (.loc Z 0) (.loc Z 10)) (.str "ABCDE") Lc) (.cons (.assign (.call (.glob Z 3) (.cons (.meth iE rG ra (.str "") (.cons (.slice (.loc Z 4) (.yes (.loc Z 9)) (.yes (.binop (.loc Z 10) (.int 1) bR))) .nil) qH) .nil) Y (PO P) (PW P)) (.loc Z 11))
 (.cons (.ite (.cmp (.loc Z 11) (.bool true) NI) (.cons (.expr (.meth dX fw fq (.loc Z 8) (.cons (.loc Z 10) .nil) cg))
 (.cons .brk
 .nil)) .nil)
 (.cons (.ite (.cmp (.loc Z 11) (.bool false) eZ) (.cons (.ret (.list .nil))
 .nil) .nil)
 .nil))) .nil)
 .nil) .nil)
 .nil) .nil)
 .nil) .nil)
 (.cons (.ret (.loc Z 8))
 .nil)))))))))
noncomputable def wz:List Str:=["ends","sides","seed","unit","table","plain","under","worths","x","numerals","heap","side","worth","name","y","pair"]
noncomputable def yc:List Str:=[]
noncomputable def Dv:List Str:=["ends","sides","seed"]
noncomputable def yQ(Y:bO)(X:bO)(W:bO)(V:bO)(Z:bO)(N n:Nat):SR:=
 (ap (ai (ae (ab (.int 3)) (ae (ab (.int 1)) (ae (aa 2) (ab (.int 2700)) eu) ba) xK) (am 3))
 (ap (ai (CY 274) (am 4))
 (ap (ai (bD aj) (am 5))
 (ap (ai HN (am 6))
 (ap (ai (bD aj) (am 7))
 (ap (dD N (dj (ey (ac (ab (.int 4)) (ac (ab (.int 3)) (ac (ab (.int 2)) (ac (ab (.int 1)) (ac (ab (.int 0)) aj))))))) (am 8) (ap (ai (dI 274 Y (aa 4) (ac (lD (aq (ae (aa 8) (ab (.int 2)) eu)) (ae (ab (.str "ABCDE")) (aa 8) aO) (ae (ab (.str "abcde")) (aa 8) aO)) aj)) (am 9))
 (ap (di (aq (ae (aa 9) (aK "dict" (aa 6) (ac (ae (ab (.str "abcde")) (aa 8) aO) (ac (bD aj) aj)) pM) mJ)) (ap (bF (bD aj))
 ah) ah)
 (ap (ai (aB Bp (ac (iw N 1 (dj (aa 9)) (am 0) gG (ae (bc X (ac (aa 0) aj)) (ab (.int 128)) cO)) aj)) (am 10))
 (ap (ai (lD (aq (ae (ae (aa 1) (aa 8) aO) (ab (.int 1)) jd)) (ab (.int 1)) (cY (ab (.int 1)) im)) (am 11))
 (ap (ai (bc W (ac (ae (aa 11) (aa 10) cz) (ac (aa 11) (ac (aa 3) (ac (ae (ae (aa 2) (ab (.int 2700)) de) (aa 3) eu) aj))))) (am 12))
 (ap (ai (ab (.str "z")) (am 13))
 (ap (dD N (dj (aB dm (ac (aa 8) aj))) (am 14) (ap (di (aq (ae (ae (aa 0) (aa 14) aO) (ae (aa 0) (aa 8) aO) EU)) (ap (ai (ae (ab (.str "abcde")) (aa 14) aO) (am 13))
 ah) ah)
 ah) ah)
 (ap (ai (ey (ac (lD (aq (ae (ae (aa 8) (aa 2) ba) (ab (.int 2)) eu)) (aK "str" (aa 13) aj uB) (aa 13)) (ac (ae (ae (ab (.str "0__")) (aB FS (ac (ae (aa 12) (ab (.int 128)) ba) aj)) ba) (ab (.str " ")) ba) aj))) (am 15))
 (ap (di (aq (ae (dI 274 V (aa 4) (ac (ae (aa 15) (ab (.int 0)) aO) (ac (ae (aa 15) (ab (.int 1)) aO) aj))) (ab .none) cK)) (ap (bF (bD aj))
 ah) ah)
 (ap (bC (aK "list" (aa 5) (ac (aa 15) aj) aQ))
 (ap (ai (ae (aK "dict" (aa 6) (ac (aa 13) (ac (bD aj) aj)) pM) (bD (ac (ae (aa 15) (ab (.int 1)) aO) aj)) ba) (yq (aa 6) (aa 13)))
 (ap (bC (aK "list" (aa 7) (ac (aa 12) aj) aQ))
 ah)))))))))))) ah)
 (ap (bC (aK "list" (dI 274 Z (aa 4) aj) (ac (ey (ac (ab (.str "z")) (ac (ab (.str "")) aj))) aj) aQ))
 (ap (di (iy (aq (ae (dI 274 Z (aa 4) aj) (aa 5) mJ)) (iy (aq (ae (dI 274 Y (aa 4) (ac (ab (.str "Z")) aj)) (ae (aa 6) (ab (.str "z")) aO) mJ)) ir)) (ap (bF (bD aj))
 ah) ah)
 (ap (bC (aK "list" (aa 7) aj gz))
 (ap (bC (aK "list" (aa 7) (ac (aB Bp (ac (iw N 1 (dj (ae (aa 6) (ab (.str "z")) aO)) (am 0) gG (ae (bc X (ac (aa 0) aj)) (ab (.int 128)) cO)) aj)) aj) aQ))
 (ap (bF (aa 7))
 ah)))))))))))
theorem TH(P n cs L):bA (XX P 332 L cs wz (aV yc n)):=bA.of (by left) rfl rfl
theorem ND(P prog w os b N n cs L){R:bO}{G:bO}{U:bO}{T:bO}{S:bO}(V:aU (TT P prog w os) b (.ref 213) (fun X=>⟨X,[]⟩) R)(M:aU (TT P prog w os) b (.ref 81) (fun X=>⟨X,[]⟩) G)(I:aU (TT P prog w os) b (.ref 327) (fun X=>⟨X,[]⟩) U)(H:aU (TT P prog w os) b (.ref 271) (fun X=>⟨X,[]⟩) T)(W:aU (TT P prog w os) b (.ref 238) (fun X=>⟨X,[]⟩) S)(O:qV (TT P prog w os) b 274):bu (TT P prog w os) b (XX P 332 L cs wz (aV yc n)) (db P 332) (yQ  R G U T S N n):=by
 have Z:=TH P n cs L;exact
 (.cons (.assign (.binop (.int 3) (.binop (.int 1) (.binop (.loc Z 2) (.int 2700) lS) bR) Ok) (.loc Z 3))
 (.cons (.assign (.newHdr O (by left) (.glob Z 20)) (.loc Z 4))
 (.cons (.assign (.list .nil) (.loc Z 5))
 (.cons (.assign .dict (.loc Z 6))
 (.cons (.assign (.list .nil) (.loc Z 7))
 (.cons (.for N (.val (.tup (.cons (.int 4) (.cons (.int 3) (.cons (.int 2) (.cons (.int 1) (.cons (.int 0) .nil))))))) (.loc Z 8) (.cons (.assign (.hcall (nP P) (by left) (by left) (by left) (.loc Z 4) (.cons (.ifexp (.val (.binop (.loc Z 8) (.int 2) lS)) (.index (.str "ABCDE") (.loc Z 8)) (.index (.str "abcde") (.loc Z 8))) .nil) V (JF P) (Gn P)) (.loc Z 9))
 (.cons (.ite (.cmp (.loc Z 9) (.meth Bx AL Kk (.loc Z 6) (.cons (.index (.str "abcde") (.loc Z 8)) (.cons (.list .nil) .nil)) OJ) sW) (.cons (.ret (.list .nil))
 .nil) .nil)
 (.cons (.assign (.bcall (.blt Z 8) (.cons (.comp (vars:=[(Str.ofString "numeral")]) (cvn:=[]) (js:=[]) N (.val (.loc Z 9)) (by left) (by left) (fun E Q=>have Y:bA (dM _ _ [(Str.ofString "numeral")] [] Q E):=bA.of (by left) rfl rfl;⟨(.loc Y 0),.nil,(.binop (.call (.glob Y 6) (.cons (.loc Y 0) .nil) M (Qb P) (PZ P)) (.int 128) gk)⟩)) .nil) Oj) (.loc Z 10))
 (.cons (.assign (.ifexp (.cmp (.index (.loc Z 1) (.loc Z 8)) (.int 1) mN) (.int 1) (.unop (.int 1) oZ)) (.loc Z 11))
 (.cons (.assign (.call (.glob Z 27) (.cons (.binop (.loc Z 11) (.loc Z 10) fE) (.cons (.loc Z 11) (.cons (.loc Z 3) (.cons (.binop (.binop (.loc Z 2) (.int 2700) mE) (.loc Z 3) lS) .nil)))) I (OD P) (Oy P)) (.loc Z 12))
 (.cons (.assign (.str "z") (.loc Z 13))
 (.cons (.for N (.val (.tcall (.blt Z 7) (.cons (.loc Z 8) .nil) gL)) (.loc Z 14) (.cons (.ite (.cmp (.index (.loc Z 0) (.loc Z 14)) (.index (.loc Z 0) (.loc Z 8)) Md) (.cons (.assign (.index (.str "abcde") (.loc Z 14)) (.loc Z 13))
 .nil) .nil)
 .nil) .nil)
 (.cons (.assign (.tup (.cons (.ifexp (.val (.binop (.binop (.loc Z 8) (.loc Z 2) bR) (.int 2) lS)) (.meth iE F.slot_str_upper F.type_str_upper (.loc Z 13) .nil LL) (.loc Z 13)) (.cons (.binop (.binop (.str "0__") (.tcall (.blt Z 1) (.cons (.binop (.loc Z 12) (.int 128) bR) .nil) Tb) bR) (.str " ") bR) .nil))) (.loc Z 15))
 (.cons (.ite (.cmp (.hcall (nP P) (by left) (by left) (by left) (.loc Z 4) (.cons (.index (.loc Z 15) (.int 0)) (.cons (.index (.loc Z 15) (.int 1)) .nil)) H (Ov P) (NQ P)) .none eZ) (.cons (.ret (.list .nil))
 .nil) .nil)
 (.cons (.expr (.meth dX fw fq (.loc Z 5) (.cons (.loc Z 15) .nil) cg))
 (.cons (.assign (.binop (.meth Bx AL Kk (.loc Z 6) (.cons (.loc Z 13) (.cons (.list .nil) .nil)) OJ) (.list (.cons (.index (.loc Z 15) (.int 1)) .nil)) bR) (.sub (.loc Z 6) (.loc Z 13)))
 (.cons (.expr (.meth dX fw fq (.loc Z 7) (.cons (.loc Z 12) .nil) cg))
 .nil)))))))))))) .nil)
 (.cons (.expr (.meth dX fw fq (.hcall (nP P) (by left) (by left) (by left) (.loc Z 4) .nil W (IL P) (Kw P)) (.cons (.tup (.cons (.str "z") (.cons (.str "") .nil))) .nil) cg))
 (.cons (.ite (.bool (.or (.cmp (.hcall (nP P) (by left) (by left) (by left) (.loc Z 4) .nil W (IL P) (Kw P)) (.loc Z 5) sW) (.or (.cmp (.hcall (nP P) (by left) (by left) (by left) (.loc Z 4) (.cons (.str "Z") .nil) V (JF P) (Gn P)) (.index (.loc Z 6) (.str "z")) sW) .orNil))) (.cons (.ret (.list .nil))
 .nil) .nil)
 (.cons (.expr (.meth dX Ay Ib (.loc Z 7) .nil tf))
 (.cons (.expr (.meth dX fw fq (.loc Z 7) (.cons (.bcall (.blt Z 8) (.cons (.comp (vars:=[(Str.ofString "numeral")]) (cvn:=[]) (js:=[]) N (.val (.index (.loc Z 6) (.str "z"))) (by left) (by left) (fun E Q=>have Y:bA (dM _ _ [(Str.ofString "numeral")] [] Q E):=bA.of (by left) rfl rfl;⟨(.loc Y 0),.nil,(.binop (.call (.glob Y 6) (.cons (.loc Y 0) .nil) M (Qb P) (PZ P)) (.int 128) gk)⟩)) .nil) Oj) .nil) cg))
 (.cons (.ret (.loc Z 7))
 .nil)))))))))))
theorem pL{P:Params}{Z:Program}{w:World}{os:OsState}{b k:Nat}{pn W T:List Str}{M:List Value->Args}{V:Nat->List PV}{U:List AO}{f:Nat->SR}(H:(TT P Z w os).K.lookup k=some (ck P k))(I:(ck P k).data=.func (dy P k))
  (X:bK (TT P Z w os) (dy P k) M pn V U) (Y:∀n L v,bu (TT P Z w os) b (XX P k L v T (aV W n)) (db P k) (f n))
  (y:(dy P k).scope.isCoroutine=false:=by left) (z:(dy P k).scope.isGenerator=false:=by left) (A:(dy P k).body=.stmts (db P k):=by left) (B:(dy P k).globals=mainGlobals:=by left) (C:(dy P k).builtins=builtinsNs:=by left) (D:(dy P k).closure=[]:=by left)
  (E:codeIn (TT P Z w os).K (dy P k).code (dy P k).qualname=true:=by left) (F:(dy P k).scope.kind=.function:=by left) (G:dS (dy P k).scope.names=W:=by left) (N:kg W=true:=by left)
  (O:pn.all (fun x=>decide ((dy P k).scope.names.lookup x=some .local)||(decide ((dy P k).scope.names.lookup x=some .cell)&&W.contains x))=true:=by left) (Q:W.all (fun x=>!decide ((dy P k).scope.names.lookup x=some .local))=true:=by left)
  (R:T.all (fun x=>decide ((dy P k).scope.names.lookup x=some .local))=true:=by left) (S:kg pn=true:=by left):aU (TT P Z w os) (b+1) (.ref k) M (cB pn W T V U f):=
 aU.of_cells H I y z (body:=db P k) A B C D (mf E) X F G (du N) (IS O) (EG Q) (lm R) (du S) Y
theorem KZ(P)(Z:Value):bindArgs (dy P 52) ((fun Y=>⟨Y,[]⟩) [Z])=pure (MM.zip [Z]):=by left
theorem SH(P prog w os b N)  (Z:ny (TT P prog w os) b 45):aU (TT P prog w os) (b+1) (.ref 52) (fun Y=>⟨Y,[]⟩) (cB MM GB GW (fun _=>[]) [] (fun n=>HS  N n)):=
 pL (Sx P) (Tz P)
 (bK.eq fun Y W=>by
  obtain⟨X,rfl⟩:=lL W;exact KZ P X)
 (fun n L V=>PS P prog w os b N n V L   Z)
theorem KW(P)(Z:Value):bindArgs (dy P 59) ((fun Y=>⟨Y,[]⟩) [Z])=pure (Mj.zip [Z]):=by left
theorem Sh(P prog w os b N){Y:bO}(W:aU (TT P prog w os) b (.ref 52) (fun X=>⟨X,[]⟩) Y)(Z:ny (TT P prog w os) b 45):aU (TT P prog w os) (b+1) (.ref 59) (fun X=>⟨X,[]⟩) (cB Mj FK Hg (fun _=>[]) [] (fun n=>HB  Y N n)):=
 pL (PO P) (PW P)
 (bK.eq fun X U=>by
  obtain⟨V,rfl⟩:=lL U;exact KW P V)
 (fun n L T=>Pg P prog w os b N n T L  W Z)
theorem Uf(P prog w os b N) :aU (TT P prog w os) (b+1) (.ref 67) (fun Z=>⟨Z,[]⟩) (cB RY Mq Mn (fun _=>[.bool false]) [] (fun n=>Qz  N n)):=
 pL (TA P) (Tm P)
 (bK.dflt (dps:=[.bool false]) (dvs:=[.bool false]) (fun W=>⟨_,_,rfl,rfl,rfl⟩) fun Z Y s X=>by
  obtain⟨R,S,U,rfl⟩:=rq (zK Y);exact Ga (T:=60) (o:=ck P 60) (by left) (X _ _ (by left)) (by rfl) (by rfl) (by rfl))
 (fun n L V=>Rv P prog w os b N n V L  )
theorem Mu(P)(Z:Value):bindArgs (dy P 74) ((fun Y=>⟨Y,[]⟩) [Z])=pure (LW.zip [Z]):=by left
theorem RS(P prog w os b N)(W:Nat)(T:W<=b){Z:bO}(X:aU (TT P prog w os) b (.ref 67) (fun Y=>⟨Y,[]⟩) Z):aU (TT P prog w os) (b+1) (.ref 74) (fun Y=>⟨Y,[]⟩) (cB LW Bo zE (fun _=>[]) [] (fun n=>IQ P W Z N n)):=
 pL (TY P) (Ul P)
 (bK.eq fun Y U=>by
  obtain⟨V,rfl⟩:=lL U;exact Mu P V)
 (fun n L S=>Pn P prog w os b N n S L W T X)
theorem MB(P)(Z:Value):bindArgs (dy P 81) ((fun Y=>⟨Y,[]⟩) [Z])=pure (MD.zip [Z]):=by left
theorem RV(P prog w os b N){Z:bO}(X:aU (TT P prog w os) b (.ref 74) (fun Y=>⟨Y,[]⟩) Z):aU (TT P prog w os) (b+1) (.ref 81) (fun Y=>⟨Y,[]⟩) (cB MD JT Gg (fun _=>[]) [] (fun n=>KS  Z N n)):=
 pL (Qb P) (PZ P)
 (bK.eq fun Y V=>by
  obtain⟨W,rfl⟩:=lL V;exact MB P W)
 (fun n L U=>PF P prog w os b N n U L  X)
theorem Ma(P)(X Y Z:Value):bindArgs (dy P 88) ((fun W=>⟨W,[]⟩) [X,Y,Z])=pure (IW.zip [X,Y,Z]):=by left
theorem OP(P prog w os b N){Z:bO}(X:aU (TT P prog w os) b (.ref 95) (fun Y=>⟨Y,[]⟩) Z):aU (TT P prog w os) (b+1) (.ref 88) (fun Y=>⟨Y,[]⟩) (cB IW Fk En (fun _=>[]) [] (fun n=>Fa  Z N n)):=
 pL (PP P) (Qd P)
 (bK.eq fun Y T=>by
  obtain⟨U,V,W,rfl⟩:=rq T;exact Ma P U V W)
 (fun n L S=>PX P prog w os b N n S L  X)
theorem Mz(P)(U V W X Y Z:Value):bindArgs (dy P 95) ((fun T=>⟨T,[]⟩) [U,V,W,X,Y,Z])=pure (Lr.zip [U,V,W,X,Y,Z]):=by left
theorem SN(P prog w os b N){Z:bO}(X:aU (TT P prog w os) b (.ref 88) (fun Y=>⟨Y,[]⟩) Z):aU (TT P prog w os) (b+1) (.ref 95) (fun Y=>⟨Y,[]⟩) (cB Lr IH Jo (fun _=>[]) [] (fun n=>LP  Z N n)):=
 pL (Qp P) (QS P)
 (bK.eq fun Y Q=>by
  obtain⟨R,S,T,U,V,W,rfl⟩:=Uq Q;exact Mz P R S T U V W)
 (fun n L O=>Pl P prog w os b N n O L  X)
theorem Gc(P)(Y Z:Value):bindArgs (dy P 102) ((fun X=>⟨X,[]⟩) [Y,Z])=pure (Dn.zip [Y,Z]):=by left
theorem QI(P prog w os b N)(Z:Nat)(U:Z<=b) :aU (TT P prog w os) (b+1) (.ref 102) (fun Y=>⟨Y,[]⟩) (cB Dn rQ qF (fun _=>[]) [] (fun n=>tH P Z N n)):=
 pL (NX P) (OW P)
 (bK.eq fun Y V=>by
  obtain⟨W,X,rfl⟩:=jW V;exact Gc P W X)
 (fun n L T=>MG P prog w os b N n T L Z U )
theorem JU(P)(Y Z:Value):bindArgs (dy P 109) ((fun X=>⟨X,[]⟩) [Y,Z])=pure (Ch.zip [Y,Z]):=by left
theorem PA(P prog w os b N)(Z:Nat)(U:Z<=b) :aU (TT P prog w os) (b+1) (.ref 109) (fun Y=>⟨Y,[]⟩) (cB Ch rW ry (fun _=>[]) [] (fun n=>ue P Z N n)):=
 pL (NR P) (Oh P)
 (bK.eq fun Y V=>by
  obtain⟨W,X,rfl⟩:=jW V;exact JU P W X)
 (fun n L T=>LJ P prog w os b N n T L Z U )
theorem FV(P)(Y Z:Value):bindArgs (dy P 116) ((fun X=>⟨X,[]⟩) [Y,Z])=pure (Cp.zip [Y,Z]):=by left
theorem Ql(P prog w os b N){X:bO}{U:bO}{Y:bO}(V:aU (TT P prog w os) b (.ref 102) (fun Z=>⟨Z,[]⟩) X)(T:aU (TT P prog w os) b (.ref 88) (fun Z=>⟨Z,[]⟩) U)(W:aU (TT P prog w os) b (.ref 109) (fun Z=>⟨Z,[]⟩) Y):aU (TT P prog w os) (b+1) (.ref 116) (fun Z=>⟨Z,[]⟩) (cB Cp wr yo (fun _=>[]) [] (fun n=>DH  X U Y N n)):=
 pL (OB P) (OG P)
 (bK.eq fun Z Q=>by
  obtain⟨R,S,rfl⟩:=jW Q;exact FV P R S)
 (fun n L O=>LQ P prog w os b N n O L  V T W)
theorem Gm(P)(Y Z:Value):bindArgs (dy P 123) ((fun X=>⟨X,[]⟩) [Y,Z])=pure (Cb.zip [Y,Z]):=by left
theorem BS(P prog w os b N){Z:bO}{Y:bO}(W:aU (TT P prog w os) b (.ref 123) (fun X=>⟨X,[]⟩) Z)(V:aU (TT P prog w os) b (.ref 116) (fun X=>⟨X,[]⟩) Y):aU (TT P prog w os) (b+1) (.ref 123) (fun X=>⟨X,[]⟩) (cB Cb wU yl (fun _=>[]) [] (fun n=>tb  Z Y N n)):=
 pL (yG P) (xA P)
 (bK.eq fun X S=>by
  obtain⟨T,U,rfl⟩:=jW S;exact Gm P T U)
 (fun n L R=>Lw P prog w os b N n R L  W V)
theorem Kp(P)(Y Z:Value):bindArgs (dy P 130) ((fun X=>⟨X,[]⟩) [Y,Z])=pure (Dt.zip [Y,Z]):=by left
theorem Qn(P prog w os b N) :aU (TT P prog w os) (b+1) (.ref 130) (fun Z=>⟨Z,[]⟩) (cB Dt xf yr (fun _=>[]) [] (fun n=>xu  N n)):=
 pL (xV P) (wQ P)
 (bK.eq fun Z W=>by
  obtain⟨X,Y,rfl⟩:=jW W;exact Kp P X Y)
 (fun n L V=>Mk P prog w os b N n V L  )
theorem Jf(P)(X Y Z:Value):bindArgs (dy P 175) ((sP (Str.ofString "name")) [X,Y,Z])=pure (CO.zip [X,Y,Z]):=by left
theorem PG(P prog w os b N) :aU (TT P prog w os) (b+1) (.ref 175) (sP (Str.ofString "name")) (cB CO yL yf (fun _=>[]) [] (fun n=>CK  N n)):=
 pL (CM P) (DI P)
 (bK.eq fun U W=>by
  obtain⟨X,Y,Z,rfl⟩:=rq W;exact Jf P X Y Z)
 (fun n L V=>MU P prog w os b N n V L  )
theorem GY(P)(Y Z:Value):bindArgs (dy P 213) ((fun X=>⟨X,[]⟩) [Y,Z])=pure (CI.zip [Y,Z]):=by left
theorem Px(P prog w os b N){Z:bO}(Y:aU (TT P prog w os) b (.ref 175) (sP (Str.ofString "name")) Z):aU (TT P prog w os) (b+1) (.ref 213) (fun X=>⟨X,[]⟩) (cB CI yb yz (fun _=>[]) [] (fun n=>wy  Z N n)):=
 pL (JF P) (Gn P)
 (bK.eq fun X U=>by
  obtain⟨V,W,rfl⟩:=jW U;exact GY P V W)
 (fun n L T=>KJ P prog w os b N n T L  Y)
theorem JD(P)(Z:Value):bindArgs (dy P 238) ((fun Y=>⟨Y,[]⟩) [Z])=pure (CN.zip [Z]):=by left
theorem RB(P prog w os b N) :aU (TT P prog w os) (b+1) (.ref 238) (fun Z=>⟨Z,[]⟩) (cB CN wx zj (fun _=>[]) [] (fun n=>Du  N n)):=
 pL (IL P) (Kw P)
 (bK.eq fun Z X=>by
  obtain⟨Y,rfl⟩:=lL X;exact JD P Y)
 (fun n L W=>Mg P prog w os b N n W L  )
theorem HT(P)(X Y Z:Value):bindArgs (dy P 271) ⟨[X,Y,Z],[]⟩=(alloc {cls:=.type "dict",data:=.dict #[]} >>= fun d=>pure (Ds.zip ([X,Y,Z]++[.ref d]))):=by left
theorem PB(P prog w os b N){Z:bO}(Y:aU (TT P prog w os) b (.ref 175) (sP (Str.ofString "name")) Z):aU (TT P prog w os) (b+1) (.ref 271) (fun X=>⟨X,[]⟩) (cB Ds xm xn (fun n=>[.loc n]) [.dict []] (fun n=>xp  Z N n)):=
 pL (Ov P) (NQ P)
 (bK.kw fun X T=>by
  obtain⟨U,V,W,rfl⟩:=rq (zK T);exact HT P U V W)
 (fun n L S=>NO P prog w os b N n S L  Y)
theorem Kb(P)(Z:Value):bindArgs (dy P 285) ((fun Y=>⟨Y,[]⟩) [Z])=pure (DA.zip [Z]):=by left
theorem Qe(P prog w os b N) :aU (TT P prog w os) (b+1) (.ref 285) (fun Z=>⟨Z,[]⟩) (cB DA xt wK (fun _=>[]) [] (fun n=>CG  N n)):=
 pL (OC P) (OV P)
 (bK.eq fun Z X=>by
  obtain⟨Y,rfl⟩:=lL X;exact Kb P Y)
 (fun n L W=>LA P prog w os b N n W L  )
theorem JL(P)(Z:Value):bindArgs (dy P 292) ((fun Y=>⟨Y,[]⟩) [Z])=pure (Dd.zip [Z]):=by left
theorem Pa(P prog w os b N) :aU (TT P prog w os) (b+1) (.ref 292) (fun Z=>⟨Z,[]⟩) (cB Dd xB yM (fun _=>[]) [] (fun n=>Dk  N n)):=
 pL (OS P) (OI P)
 (bK.eq fun Z X=>by
  obtain⟨Y,rfl⟩:=lL X;exact JL P Y)
 (fun n L W=>Mh P prog w os b N n W L  )
theorem GC(P)(Z:Value):bindArgs (dy P 299) ((fun Y=>⟨Y,[]⟩) [Z])=pure (CJ.zip [Z]):=by left
theorem Rk(P prog w os b N){Z:bO}(Y:aU (TT P prog w os) b (.ref 130) (fun X=>⟨X,[]⟩) Z):aU (TT P prog w os) (b+1) (.ref 299) (fun X=>⟨X,[]⟩) (cB CJ xa zk (fun _=>[]) [] (fun n=>xv  Z N n)):=
 pL (OH P) (NZ P)
 (bK.eq fun X V=>by
  obtain⟨W,rfl⟩:=lL V;exact GC P W)
 (fun n L U=>Mc P prog w os b N n U L  Y)
theorem JM(P)(Y Z:Value):bindArgs (dy P 306) ((fun X=>⟨X,[]⟩) [Y,Z])=pure (wu.zip [Y,Z]):=by left
theorem PN(P prog w os b N) :aU (TT P prog w os) (b+1) (.ref 306) (fun Z=>⟨Z,[]⟩) (cB wu tV tS (fun _=>[]) [] (fun n=>yn  N n)):=
 pL (Ou P) (Og P)
 (bK.eq fun Z W=>by
  obtain⟨X,Y,rfl⟩:=jW W;exact JM P X Y)
 (fun n L V=>LV P prog w os b N n V L  )
theorem IN(P)(Y Z:Value):bindArgs (dy P 313) ((fun X=>⟨X,[]⟩) [Y,Z])=pure (CR.zip [Y,Z]):=by left
theorem Pt(P prog w os b N){Z:bO}(Y:aU (TT P prog w os) b (.ref 306) (fun X=>⟨X,[]⟩) Z):aU (TT P prog w os) (b+1) (.ref 313) (fun X=>⟨X,[]⟩) (cB CR xe yw (fun _=>[]) [] (fun n=>BV  Z N n)):=
 pL (OL P) (Oe P)
 (bK.eq fun X U=>by
  obtain⟨V,W,rfl⟩:=jW U;exact IN P V W)
 (fun n L T=>Ly P prog w os b N n T L  Y)
theorem FG(P)(Y Z:Value):bindArgs (dy P 320) ((fun X=>⟨X,[]⟩) [Y,Z])=pure (DC.zip [Y,Z]):=by left
theorem Pd(P prog w os b N){Z:bO}(X:aU (TT P prog w os) b (.ref 59) (fun Y=>⟨Y,[]⟩) Z):aU (TT P prog w os) (b+1) (.ref 320) (fun Y=>⟨Y,[]⟩) (cB DC yZ zd (fun _=>[]) [] (fun n=>wC  Z N n)):=
 pL (On P) (OM P)
 (bK.eq fun Y U=>by
  obtain⟨V,W,rfl⟩:=jW U;exact FG P V W)
 (fun n L T=>LS P prog w os b N n T L  X)
theorem HH(P)(W X Y Z:Value):bindArgs (dy P 327) ((fun V=>⟨V,[]⟩) [W,X,Y,Z])=pure (Ca.zip [W,X,Y,Z]):=by left
theorem QV(P prog w os b N){Z:bO}(Y:aU (TT P prog w os) b (.ref 123) (fun X=>⟨X,[]⟩) Z):aU (TT P prog w os) (b+1) (.ref 327) (fun X=>⟨X,[]⟩) (cB Ca xR wH (fun _=>[]) [] (fun n=>DE  Z N n)):=
 pL (OD P) (Oy P)
 (bK.eq fun X S=>by
  obtain⟨T,U,V,W,rfl⟩:=Of S;exact HH P T U V W)
 (fun n L R=>NA P prog w os b N n R L  Y)
theorem Gq(P)(X Y Z:Value):bindArgs (dy P 332) ((fun W=>⟨W,[]⟩) [X,Y,Z])=pure (Dv.zip [X,Y,Z]):=by left
theorem PD(P prog w os b N){V:bO}{O:bO}{Y:bO}{X:bO}{W:bO}(Q:aU (TT P prog w os) b (.ref 213) (fun Z=>⟨Z,[]⟩) V)(M:aU (TT P prog w os) b (.ref 81) (fun Z=>⟨Z,[]⟩) O)(T:aU (TT P prog w os) b (.ref 327) (fun Z=>⟨Z,[]⟩) Y)(S:aU (TT P prog w os) b (.ref 271) (fun Z=>⟨Z,[]⟩) X)(R:aU (TT P prog w os) b (.ref 238) (fun Z=>⟨Z,[]⟩) W)(U:qV (TT P prog w os) b 274):aU (TT P prog w os) (b+1) (.ref 332) (fun Z=>⟨Z,[]⟩) (cB Dv yc wz (fun _=>[]) [] (fun n=>yQ  V O Y X W N n)):=
 pL (Os P) (OT P)
 (bK.eq fun Z F=>by
  obtain⟨G,H,I,rfl⟩:=rq F;exact Gq P G H I)
 (fun n L E=>ND P prog w os b N n E L  Q M T S R U)
theorem FP(P)(Z:Value):bindArgs (dy P 337) ((fun Y=>⟨Y,[]⟩) [Z])=pure (Cg.zip [Z]):=by left
theorem PU(P prog w os b N){T:bO}{U:bO}{V:bO}{X:bO}{W:bO}{Y:bO}(I:aU (TT P prog w os) b (.ref 285) (fun Z=>⟨Z,[]⟩) T)(M:aU (TT P prog w os) b (.ref 292) (fun Z=>⟨Z,[]⟩) U)(O:aU (TT P prog w os) b (.ref 299) (fun Z=>⟨Z,[]⟩) V)(R:aU (TT P prog w os) b (.ref 320) (fun Z=>⟨Z,[]⟩) X)(Q:aU (TT P prog w os) b (.ref 313) (fun Z=>⟨Z,[]⟩) W)(S:aU (TT P prog w os) b (.ref 332) (fun Z=>⟨Z,[]⟩) Y):aU (TT P prog w os) (b+1) (.ref 337) (fun Z=>⟨Z,[]⟩) (cB Cg yR wS (fun _=>[]) [] (fun n=>yE  T U V X W Y N n)):=
 pL (Sq P) (SL P)
 (bK.eq fun Z G=>by
  obtain⟨H,rfl⟩:=lL G;exact FP P H)
 (fun n L F=>Nf P prog w os b N n F L  I M O R Q S)
set_option maxHeartbeats 2000000 in
theorem Ir(P)(v:Value)(s:Shared)(Z:Frag.In (hd.heap_1 P) s.heap):BindsTo s (dy P 168) ⟨[v],[]⟩ ([("self",v),("headers",Value.none)]:List (Str×Value)):=
 Ga (T:=161) (o:=ck P 161) (by left) (Z _ _ (by left)) (by rfl) (by rfl) (by rfl)
theorem Mv(P prog w os b):qV (TT P prog w os) (b+2) 274:=by
 have X:∀L,bA ⟨pa (dy P 168).qualname (dy P 168).scope 168 L (dy P 168).code [],([("self":Str),"headers","k","v"]:List Str),[]⟩:=fun L=>bA.of (by left) rfl rfl
 refine qV.of (f1:=ai (lD (aq (ae (aa 1) (ab .none) cK)) (aa 1) (bD aj)) (am 1)) (f2:=di (aq (ae (aB sz (ac (aa 1) aj)) (ab (.val (.type "list"))) cK)) (ap lV ah) ah)
  (f4:=ap (di (aq (ab (.bool true))) (ap (dD 1 (dj (aa 1)) (dK 2 (aT (am 2) (aT (am 3) cM))) lV ah) ah) ah) ah)
  (Qq P) (by left) (by left) (by left) (So P) (Ug P) (by left) (by left) rfl (by left) (by left) (by left) (mf (by left)) (Ir P) (jf (by left)) X (fun _=>by left) (fun L=>?_) (fun L=>?_) (fun L=>?_) (fun p st Y=>?_) (fun p st Y=>?_) (fun p st Y=>?_)
 .exact dc.assign (aN.ifexp (fW.cmp (aN.loc (X L) 1) aN.none eZ) (aN.loc (X L) 1) (aN.list gD.nil)) (dR.loc (X L) 1) (by left) (by left)
 .exact dc.ite (fW.cmp (aN.tcall (aN.blt (X L) 6) (gD.cons (aN.loc (X L) 1) gD.nil) we) (aN.blt (X L) 12) eZ) (bu.cons dc.dead bu.nil) bu.nil
 .exact bu.cons (dc.ite (fW.val (aN.bool true)) (bu.cons (dc.for 1 (iX.val (aN.loc (X L) 1)) (dR.tup (gE.cons (dR.loc (X L) 2) (gE.cons (dR.loc (X L) 3) gE.nil))) bu.dead bu.nil) bu.nil) bu.nil) bu.nil
 .rfl
 .have Q:PySem.plainIs (.type "list") (.type "list")=true:=by decide
  have V:List.lookup Y ((Y,AO.list [])::st)=some (.list []):=FQ;generalize W:(⟨[some p,cL Y,none,none],(Y,.list [])::st,Y+1⟩:AS)=S;have R:aB sz (ac (aa 1) aj) S=some (.val (.type "list"),S):=by
   have U:S.st.lookup Y=some (.list []):=by subst W;exact V
   have e:ud Y (fun _ T=>some (PV.val (.type "list"),T)) S=some (PV.val (.type "list"),S):=jE U;exact(aY (p:=[PV.loc Y]) (σ₁:=S) (by subst W;rfl)).trans e
  have O:Ls (.val (.type "list")) (.val (.type "list"))=some true:=(aC (e:=none) Q).trans (by decide);have N:aq (ae (aB sz (ac (aa 1) aj)) (ab (.val (.type "list"))) cK) S=some (false,S):=
   (aY (p:=.bool false) (σ₁:=S) ((aY R).trans ((aY (p:=.val (.type "list")) (σ₁:=S) rfl).trans (by show(Ls _ _).bind _=_;rw [O];rfl)))).trans rfl
  exact(aY N).trans rfl
 .have V:List.lookup Y ((Y,AO.list [])::st)=some (.list []):=FQ
  generalize W:(⟨[some p,cL Y,none,none],(Y,.list [])::st,Y+1⟩:AS)=S;have G:yO (.loc Y) S=some (.lst Y 0):=by subst W;show(dN (List.lookup Y _)).bind _=_;rw [V];rfl
  have H:gZ S (.lst Y 0)=some none:=by subst W;show(dN (List.lookup Y _)).bind _=_;rw [V];rfl
  have I:dj (aa 1) S=some (.lst Y 0,S):=(aY (p:=.loc Y) (σ₁:=S) (by subst W;rfl)).trans (by rw [G];rfl);have M:dD 1 (dj (aa 1)) (dK 2 (aT (am 2) (aT (am 3) cM))) lV ah S=some (.next,S):=by
   show(match dj (aa 1) S with|some (k,Z)=>_|none=>_)=_;rw [I];show(match gZ S (.lst Y 0)with|some (some (p,F))=>_|some none=>_|none=>_)=_;rw [H];rfl
  exact(aY (g:=Fu ah) ((aY (p:=true) (σ₁:=S) rfl).trans ((aY (g:=Fu ah) M).trans rfl))).trans rfl
inductive vS{t0:Type}{t1:Type}(p:t0->t1->Prop):Prop|mk (x0:t0) (x1:t1) (h:p x0 x1):vS p
inductive Vm{t0:Type}{t1:Type}{t2:Type}(p:t0->t1->t2->Prop):Prop|mk (x0:t0) (x1:t1) (x2:t2) (h:p x0 x1 x2):Vm p
inductive Te{t0:Type}{t1:Type}{t2:Type}{t3:Type}(p:t0->t1->t2->t3->Prop):Prop|mk (x0:t0) (x1:t1) (x2:t2) (x3:t3) (h:p x0 x1 x2 x3):Te p
inductive Vg{t0:Type}{t1:Type}{t2:Type}{t3:Type}{t4:Type}(p:t0->t1->t2->t3->t4->Prop):Prop|mk (x0:t0) (x1:t1) (x2:t2) (x3:t3) (x4:t4) (h:p x0 x1 x2 x3 x4):Vg p
inductive RQ{t0:Type}{t1:Type}{t2:Type}{t3:Type}{t4:Type}{t5:Type}(p:t0->t1->t2->t3->t4->t5->Prop):Prop|mk (x0:t0) (x1:t1) (x2:t2) (x3:t3) (x4:t4) (x5:t5) (h:p x0 x1 x2 x3 x4 x5):RQ p
inductive TQ{t0:Type}{t1:Type}{t2:Type}{t3:Type}{t4:Type}{t5:Type}{t6:Type}{t7:Type}{t8:Type}{t9:Type}(p:t0->t1->t2->t3->t4->t5->t6->t7->t8->t9->Prop):Prop|mk (x0:t0) (x1:t1) (x2:t2) (x3:t3) (x4:t4) (x5:t5) (x6:t6) (x7:t7) (x8:t8) (x9:t9) (h:p x0 x1 x2 x3 x4 x5 x6 x7 x8 x9):TQ p
inductive Sg{t0:Type}{t1:Type}{t2:Type}{t3:Type}{t4:Type}{t5:Type}{t6:Type}{t7:Type}{t8:Type}{t9:Type}{t10:Type}{t11:Type}(p:t0->t1->t2->t3->t4->t5->t6->t7->t8->t9->t10->t11->Prop):Prop|mk (x0:t0) (x1:t1) (x2:t2) (x3:t3) (x4:t4) (x5:t5) (x6:t6) (x7:t7) (x8:t8) (x9:t9) (x10:t10) (x11:t11) (h:p x0 x1 x2 x3 x4 x5 x6 x7 x8 x9 x10 x11):Sg p
inductive mA(p0 p1 p2:Prop):Prop|mk (h0:p0) (h1:p1) (h2:p2):mA p0 p1 p2
inductive sR(p0 p1 p2 p3:Prop):Prop|mk (h0:p0) (h1:p1) (h2:p2) (h3:p3):sR p0 p1 p2 p3
inductive Ml(p0 p1 p2 p3 p4:Prop):Prop|mk (h0:p0) (h1:p1) (h2:p2) (h3:p3) (h4:p4):Ml p0 p1 p2 p3 p4
inductive Qm(p0 p1 p2 p3 p4 p5:Prop):Prop|mk (h0:p0) (h1:p1) (h2:p2) (h3:p3) (h4:p4) (h5:p5):Qm p0 p1 p2 p3 p4 p5
inductive Um(p0 p1 p2 p3 p4 p5 p6:Prop):Prop|mk (h0:p0) (h1:p1) (h2:p2) (h3:p3) (h4:p4) (h5:p5) (h6:p6):Um p0 p1 p2 p3 p4 p5 p6
inductive Ud(p0 p1 p2 p3 p4 p5 p6 p7:Prop):Prop|mk (h0:p0) (h1:p1) (h2:p2) (h3:p3) (h4:p4) (h5:p5) (h6:p6) (h7:p7):Ud p0 p1 p2 p3 p4 p5 p6 p7
noncomputable def dZ(X:TR)(f o:SR):List PV->SR
 |[]=>o
 |p::W=>fun V=>match X p V with
  |some Y=>(match f Y with
   |some (.next,Z)=>dZ X f o W Z
   |some (.cont,Z)=>dZ X f o W Z
   |some (.brk,Z)=>some (.next,Z)
   |some (.ret q,Z)=>some (.ret q,Z)
   |none=>none)
  |none=>none
noncomputable def pN:Int->Nat->List PV
 |_,0=>[]
 |x,n+1=>.int x::pN (x+1) n
theorem UJ(w1_):pN w1_ 0=([]):=rfl
theorem UN(x n):pN x (n+1)=(.int x::pN (x+1) n):=rfl
theorem xz:∀(x:Int) (n:Nat),(pN x n).length=n
 |_,0=>rfl
 |x,n+1=>bv (·+1) (xz (x+1) n)
noncomputable def Ai:IK->Option (List PV)
 |.rng x n=>some (pN x n)
 |.tup Z=>some Z
 |.sgn Y=>some (Y.map fun c=>.str ⟨#[c]⟩)
 |.its Z=>some Z
 |_=>none
theorem NY{Z:Type}{G:Prop}{a b:Z}{l m:List Z}(h:a::l=b::m)(k:a=b->l=m->G):G:=k (zI h).1 (zI h).2
theorem rR{tg:TR}{f o:SR}:∀(Z:List PV) (k:IK) (n:Nat),Ai k=some Z->Z.length<n->iz tg f o n k=dZ tg f o Z
 |Z,k,0,_,h=>absurd h (ix _)
 |[],k,n+1,h,_=>by
  funext W
  cases k with
  |rng x m=>cases m with
   |zero=>rfl
   |succ m=>exact KC (aZ h)
  |tup Z=>rw [show Z=[]from aZ h];rfl
  |sgn X=>cases X with
   |nil=>rfl
   |cons _ _=>exact KC (aZ h)
  |its Z=>rw [show Z=[]from aZ h];rfl
  |_=>exact aW h
 |p::Z,k,n+1,h,R=>by
  have go:∀Y,(∀W,gZ W k=some (some (p,Y)))->Ai Y=some Z->iz tg f o (n+1) k=dZ tg f o (p::Z):=fun Y P Q=>by
   funext W
   have S:=rR (tg:=tg) (f:=f) (o:=o) Z Y n Q (AU R);show(match gZ W k with|some (some (p,Y))=>_|some none=>_|none=>_)=_;rw [P];dsimp only;rw [S];rfl
  cases k with
  |rng x m=>cases m with
   |zero=>exact Uj (aZ h)
   |succ m=>exact NY (aZ h) fun U V=>go (.rng (x+1) m) (fun _=>by rw [<-U];rfl) (bv some V)
  |tup T=>obtain rfl:=aZ h;exact go (.tup Z) (fun _=>rfl) rfl
  |sgn X=>cases X with
   |nil=>exact Uj (aZ h)
   |cons c X=>exact NY (aZ h) fun U V=>go (.sgn X) (fun _=>by rw [<-U];rfl) (bv some V)
  |its T=>obtain rfl:=aZ h;exact go (.its Z) (fun _=>rfl) rfl
  |_=>exact aW h
theorem bW{n:Nat}{Z:AS->Option (IK×AS)}{X:TR}{f o:SR}{Y σ₁:AS}{k:IK}{ps:List PV}(h:Z Y=some (k,σ₁))(V:Ai k=some ps)(W:ps.length<n):dD n Z X f o Y=dZ X f o ps σ₁:=by
 unfold dD;rw [h];dsimp only;rw [rR ps k n V W]
theorem cx{st:List (Nat×AO)}{i:Nat}{Z:AO}:((i,Z)::st).lookup i=some Z:=by simp [List.lookup]
theorem bg{st:List (Nat×AO)}{i j:Nat}{Z:AO}(h:j≠i):((i,Z)::st).lookup j=st.lookup j:=by
 rw [cU];have:(j==i)=false:=by simp [h]
 rw [this]
theorem aM{st:List (Nat×AO)}{i:Nat}{Z:AO}:(av st i Z).lookup i=some Z:=by rw [gu,aC rfl]
theorem az{st:List (Nat×AO)}{i j:Nat}{Z:AO}(h:j≠i):(av st i Z).lookup j=st.lookup j:=by rw [gu,aF h]
theorem ad{f g:SR}{Z σ₁:AS}(h:f Z=some (.next,σ₁)):ap f g Z=g σ₁:=aY (g:=Fu g) h
theorem aG{f g:SR}{Z σ₁:AS}{p:PV}(h:f Z=some (.ret p,σ₁)):ap f g Z=some (.ret p,σ₁):=aY (g:=Fu g) h
theorem aw{f:ER}{g:LR}{W σ₁ Z:AS}{p:PV}{ps:List PV}(X:f W=some (p,σ₁))(Y:g σ₁=some (ps,Z)):ac f g W=some (p::ps,Z):=by show fS f _ W=_;rw [aY X,aY Y]
theorem fN{f:LR}{Y Z:AS}{ps:List PV}(h:f Y=some (ps,Z))(X:ps.length<=2^20):ey f Y=some (.tup ps,Z):=by show fS f _ Y=_;rw [aY h,aC X]
theorem qg{f:LR}{Y Z:AS}{X:List PV}(h:f Y=some (X,Z))(W:X.length<=2^20):bD f Y=some (.loc Z.nx,{Z with st:=(Z.nx,.list X)::Z.st,nx:=Z.nx+1}):=by show fS f _ Y=_;rw [aY h,aC W]
theorem cT{f:ER}{Y Z:AS}{p:PV}(h:f Y=some (p,Z)):bF f Y=some (.ret p,Z):=aY (g:=fun p Y=>some (AF.ret p,Y)) h
theorem fV{f:ER}{Y Z:AS}{p:PV}(h:f Y=some (p,Z)):bC f Y=some (.next,Z):=aY (g:=fun _ Y=>some (AF.next,Y)) h
theorem ax{f:ER}{g:TR}{Y σ₁ Z:AS}{p:PV}(h:f Y=some (p,σ₁))(X:g p σ₁=some Z):ai f g Y=some (.next,Z):=by show fS f _ Y=_;rw [aY h,X];rfl
theorem bN{g:GR}{Y:LR}{Z σ₁:AS}{ps:List PV}{r:Option (PV×AS)}(h:Y Z=some (ps,σ₁))(X:g ps σ₁=r):aB g Y Z=r:=(aY h).trans X
theorem ca{W:String}{f:ER}{X:LR}{g:GR}{Y σ₁ Z:AS}{p:PV}{ps:List PV}{r:Option (PV×AS)}(h:f Y=some (p,σ₁))(V:Et σ₁.st W p=true)(U:X σ₁=some (ps,Z))(T:g (p::ps) Z=r):aK W f X g Y=r:=by
 show fS f _ Y=r;rw [aY h,aC V];exact bN U T
theorem qA{f:ER}{g:PV->ER}{Y Z:AS}{p:PV}{r:Option (PV×AS)}(h:f Y=some (p,Z))(X:g p Z=r):cY f g Y=r:=(aY h).trans X
theorem ak{f₁ f₂:ER}{g:PV->PV->ER}{V Z σ₂:AS}{p q:PV}{r:Option (PV×AS)}(W:f₁ V=some (p,Z))(X:f₂ Z=some (q,σ₂))(Y:g p q σ₂=r):ae f₁ f₂ g V=r:=(aY W).trans ((aY X).trans Y)
theorem bQ{t:BR}{f g:SR}{Y Z:AS}(h:t Y=some (true,Z)):di t f g Y=f Z:=aY (g:=fun c=>cond c f g) h
theorem bq{t:BR}{f g:SR}{Y Z:AS}(h:t Y=some (false,Z)):di t f g Y=g Z:=aY (g:=fun c=>cond c f g) h
theorem lZ{t:BR}{f g:ER}{Y Z:AS}(h:t Y=some (true,Z)):lD t f g Y=f Z:=aY (g:=fun c=>cond c f g) h
theorem kP{t:BR}{f g:ER}{Y Z:AS}(h:t Y=some (false,Z)):lD t f g Y=g Z:=aY (g:=fun c=>cond c f g) h
theorem aD{f:ER}{Y Z:AS}{p:PV}{c:Bool}(h:f Y=some (p,Z))(X:jC Z.st p=some c):aq f Y=some (c,Z):=by show fS f _ Y=_;rw [aY h,X];rfl
theorem gK{st:List (Nat×AO)}{i:Nat}{Z:List PV}(h:st.lookup i=some (.list Z)):Et st "list" (.loc i)=true:=by
 show Ld "list" (st.lookup i)=true;rw [h];rfl
theorem jB{st:List (Nat×AO)}{x:Str}:Et st "str" (.str x)=true:=rfl
theorem eS{Z:AS}{i:Nat}{p:PV}(h:fB Z.loc i=some p):aa i Z=some (p,Z):=by unfold aa;rw [h];rfl
theorem lF{f g:BR}{Y Z:AS}(h:f Y=some (false,Z)):iy f g Y=g Z:=aY (g:=fun c=>cond c gG g) h
theorem oy{f e:ER}{g:PV->PV->ER}{t:TR}{W X Y σ₃ Z:AS}{p q r:PV}(S:f W=some (p,X))(T:e X=some (q,Y))(U:g p q Y=some (r,σ₃))(V:t r σ₃=some Z):fA f e g t W=some (.next,Z):=by
 show fS f _ W=_;rw [aY S,aY T,aY U,V];rfl
theorem eX{f:ER}{l u:PR}{W X Y Z:AS}{p:PV}{lo V:Option Int}{r:Option (PV×AS)}(R:f W=some (p,X))(S:l X=some (lo,Y))(T:u Y=some (V,Z))(U:vD p lo V Z=r):bI f l u W=r:=(aY R).trans ((aY S).trans ((aY T).trans U))
theorem bj{Y:TR}{f o:SR}{p:PV}{W:List PV}{X σ₁ Z:AS}(h:Y p X=some σ₁)(V:f σ₁=some (.next,Z)):dZ Y f o (p::W) X=dZ Y f o W Z:=by
 show(match Y p X with|some σ₁=>_|none=>_)=_;rw [h];dsimp only;rw [V]
theorem xi{X:TR}{f o:SR}{p q:PV}{W:List PV}{Y σ₁ Z:AS}(h:X p Y=some σ₁)(V:f σ₁=some (.ret q,Z)):dZ X f o (p::W) Y=some (.ret q,Z):=by
 show(match X p Y with|some σ₁=>_|none=>_)=_;rw [h];dsimp only;rw [V]
theorem HC{X:TR}{f o:SR}{p:PV}{W:List PV}{Y σ₁ Z:AS}(h:X p Y=some σ₁)(V:f σ₁=some (.brk,Z)):dZ X f o (p::W) Y=some (.next,Z):=by
 show(match X p Y with|some σ₁=>_|none=>_)=_;rw [h];dsimp only;rw [V]
theorem dv{k:Int->Int->Option Int}{a b c:Int}{Z:AS}(h:k a b=some c):gH k (.int a) (.int b) Z=some (.int c,Z):=by
 show(k a b).bind (fun c=>some (PV.int c,Z))=_;rw [h];rfl
theorem ul{f:ER}{i j:Nat}{Y Z:AS}{p q:PV}(h:f Y=some (.tup [p,q],Z)):nB f i j Y=some (.next,{Z with loc:=pT (pT Z.loc j q) i p}):=by
 show fS f _ Y=_;rw [aY h];rfl
theorem zc{W X Y:ER}{Z:AS}{x y z:Int}(T:W Z=some (.int x,Z))(U:X Z=some (.int y,Z))(V:Y Z=some (.int z,Z)):aq (kr W X Y mQ mQ) Z=some (decide (x<y)&&decide (y<z),Z):=by
 have e:kr W X Y mQ mQ Z=some (.bool (decide (x<y)&&decide (y<z)),Z):=by
  refine(aY T).trans ((aY U).trans ((aY (σ₁:=Z) (p:=.bool (decide (x<y))) rfl).trans ?_));cases decide (x<y)with
  |true=>exact aY V
  |false=>rfl
 exact aD e rfl
theorem lr{a:Int}{n:Nat}(Z:n<=100000)(h:a.natAbs<2^n):fits a=true:=dq (fj h (rF (by decide) Z))
theorem oS{a:Int}{n:Nat}(Z:n<=8900)(h:a.natAbs<2^n):rS a=true:=dq (fj h (rF (by decide) Z))
theorem xW{a:Int}(h:a.natAbs<1073741824):fits a=true:=lr (n:=30) (by decide) h
theorem AT{a:Int}(h:a.natAbs<1073741824):rS a=true:=oS (n:=30) (by decide) h
noncomputable def bh(Z Y step:Int):Int:=if 0<=Z then(Int.fdiv Z step+1)*step else Int.fdiv (Y-1) step*step
noncomputable def mw(Y Z:Int):List Int->Option Int
 |[]=>none
 |s::X=>if Y<bh Y Z s/\bh Y Z s<Z then some (bh Y Z s)else mw Y Z X
theorem te(low high):mw low high []=(none):=rfl
theorem tz(low high s ss):mw low high (s::ss)=(if low<bh low high s/\bh low high s<high then some (bh low high s)else mw low high ss):=rfl
noncomputable def dJ(Y Z:Int):Int:=if Y<0/\0<Z then 0 else(mw Y Z [16,8,4,2,1]).getD 999
theorem xw{a b:Int}(Y:a.natAbs<1073741824)(Z:b.natAbs<1073741824):vG a b=some (a*b):=by unfold vG;rw [xW Y,xW Z];rfl
theorem jk{a b:Int}(Y:b≠0)(Z:b.natAbs<1073741824):lP a b=some (Int.fdiv a b):=by unfold lP;rw [aC ⟨Y,AT Z⟩]
theorem mh{a s:Int}{N:Nat}(Y:0<s)(Z:a.natAbs<=N):(Int.fdiv a s).natAbs<=N+1:=
 bJ (Int.natAbs_fdiv_le_natAbs a s) (sf Z)
noncomputable def Fc:bO:=cB wu tV tS (fun _=>[]) [] (fun n=>yn 100 n)
theorem Cy(Y Z:Int)(A:Y.natAbs<=400)(C:Z.natAbs<=400)(st:List (Nat×AO))(W:Nat)(o:SR):∀(P:List Int) (H V:Option PV),(∀s∈P,0<s/\s<=16)->
  vS fun R S=>dZ (am 2) (ap (ai (lD (aq (ae (aa 0) (ab (.int 0)) Oq)) (ae (ae (ae (aa 0) (aa 2) de) (ab (.int 1)) ba) (aa 2) cz) (ae (ae (ae (aa 1) (ab (.int 1)) cO) (aa 2) de) (aa 2) cz)) (am 3))
 (ap (di (aq (kr (aa 0) (aa 3) (aa 1) mQ mQ)) (ap (bF (aa 3)) ah) ah) ah)) o (P.map .int) ⟨[cI Y,cI Z,H,V],st,W⟩
   = (match mw Y Z P with|some b=>some (.ret (.int b),⟨[cI Y,cI Z,R,S],st,W⟩)|none=>o ⟨[cI Y,cI Z,R,S],st,W⟩)
 |[],H,V,_=>⟨H,V,rfl⟩
 |s::P,H,V,B=>by
  obtain⟨X,Q⟩:=B s (.head _);have D:=Cy Y Z A C st W o P (some (.int s)) (some (.int (bh Y Z s))) (fun x y=>B x (.tail _ y));have z:=mh (a:=Y) X A;have w:=mh (a:=Z-1) (N:=401) X (by exact((kR 0 (Z-1)).elim (fun U=>qf 0xc89020004214810c0812a08100025516408000023 rfl C (fF (gW 0x1000a50108520430014a021 rfl U)) (fF (gW 0x429021800a50108520430014a021 rfl U))) (fun U=>qf 0x32240800108520431a10254100120435016408000023 rfl C (VF (Z)) (pC (gW 0x290852043101005210a40862021 rfl U)))));have T:ai (lD (aq (ae (aa 0) (ab (.int 0)) Oq)) (ae (ae (ae (aa 0) (aa 2) de) (ab (.int 1)) ba) (aa 2) cz) (ae (ae (ae (aa 1) (ab (.int 1)) cO) (aa 2) de) (aa 2) cz)) (am 3) ⟨[cI Y,cI Z,cI s,V],st,W⟩
    = some (.next,⟨[cI Y,cI Z,cI s,cI (bh Y Z s)],st,W⟩):=by
   unfold bh;have I:aq (ae (aa 0) (ab (.int 0)) Oq) ⟨[cI Y,cI Z,cI s,V],st,W⟩=some (decide (0<=Y),_):=aD (ak rfl rfl rfl) rfl
   by_cases G:0<=Y
   .rw [dq G]at I
    rw [aC G];have E:ae (aa 0) (aa 2) de ⟨[cI Y,cI Z,cI s,V],st,W⟩=some (.int (Y.fdiv s),⟨[cI Y,cI Z,cI s,V],st,W⟩):=ak rfl rfl (dv (k:=lP) (jk (by exact(fun U=>gW 0x2902141020014a422 rfl X U)) (by exact(MX Q (fF (Bv X))))));have F:ae (ae (ae (aa 0) (aa 2) de) (ab (.int 1)) ba) (aa 2) cz ⟨[cI Y,cI Z,cI s,V],st,W⟩=some (.int ((Y.fdiv s+1)*s),⟨[cI Y,cI Z,cI s,V],st,W⟩):=ak (ak E rfl rfl) rfl (dv (k:=vG) (xw (by exact((kR 0 (Y.fdiv s+1)).elim (fun U=>qf 0x20000000182008421481020812a08009021016448000023 rfl z (Vi (Y.fdiv s)) (fF (gW 0x429020400a50108520408014a021 rfl U))) (fun U=>qf 0x8000000060802108520409a102541021a0025516448000023 rfl z (pC (gW 0x2902101005210a40812021 rfl U)) (pC (gW 0x290852040901005210a40812021 rfl U))))) (by exact(MX Q (fF (Bv X))))));exact ax ((lZ I).trans F) rfl
   .rw [fh G]at I
    rw [aF G];have E:ae (ae (aa 1) (ab (.int 1)) cO) (aa 2) de ⟨[cI Y,cI Z,cI s,V],st,W⟩=some (.int ((Z-1).fdiv s),⟨[cI Y,cI Z,cI s,V],st,W⟩):=ak (ak rfl rfl rfl) rfl (dv (k:=lP) (jk (by exact(fun U=>gW 0x2902141020014a422 rfl X U)) (by exact(MX Q (fF (Bv X))))));have F:ae (ae (ae (aa 1) (ab (.int 1)) cO) (aa 2) de) (aa 2) cz ⟨[cI Y,cI Z,cI s,V],st,W⟩=some (.int ((Z-1).fdiv s*s),⟨[cI Y,cI Z,cI s,V],st,W⟩):=ak E rfl (dv (k:=vG) (xw (by exact(aH 0x800000006000216488000021 rfl w)) (by exact(MX Q (fF (Bv X))))));exact ax ((kP I).trans F) rfl
  have M:aq (kr (aa 0) (aa 3) (aa 1) mQ mQ) ⟨[cI Y,cI Z,cI s,cI (bh Y Z s)],st,W⟩=some (_,_):=zc rfl rfl rfl;dsimp only [te,tz]
  by_cases O:Y<bh Y Z s/\bh Y Z s<Z
  .rw [dq O.1,dq O.2]at M
   refine⟨some (.int s),cI (bh Y Z s),?_⟩;rw [aC O];exact xi rfl ((ad T).trans (aG ((bQ M).trans (aG rfl))))
  .rw [aF O]
   rw [show(decide (Y<bh Y Z s)&&decide (bh Y Z s<Z))=false by rw [<-Ip];exact fh O]at M
   obtain⟨R,S,D⟩:=D;exact⟨R,S,(bj rfl ((ad T).trans ((ad (bq M)).trans rfl))).trans D⟩
theorem UR(i:Int)(Z:AS):fb 0 (.int i) Z=some (.int i,[],[]):=rfl
theorem xC(i:Bool)(Z:AS):fb 0 (.bool i) Z=some (.bool i,[],[]):=rfl
theorem Lh(i:Str)(Z:AS):fb 0 (.str i) Z=some (.str i,[],[]):=rfl
theorem MP(Y Z:PV):dw wu tV tS ([Y,Z]++[]) []=⟨[some Y,some Z,none,none],[],0⟩:=by left
theorem PJ(Y Z:Int)(T:Y.natAbs<=400)(U:Z.natAbs<=400):Fc [.int Y,.int Z] []=some (.int (dJ Y Z),[],[]):=by
 show ie 0 (yn 100 0 (dw wu tV tS ([.int Y,.int Z]++[]) []))=_;rw [MP];unfold yn dJ;have W:aq (kr (aa 0) (ab (.int 0)) (aa 1) mQ mQ) ⟨[cI Y,cI Z,none,none],[],0⟩=some (_,_):=zc rfl rfl rfl
 by_cases X:Y<0/\0<Z
 .rw [aC X]
  rw [dq X.1,dq X.2]at W
  rw [aG ((bQ W).trans (aG rfl))];rfl
 .rw [aF X]
  rw [show(decide (Y<0)&&decide (0<Z))=false by rw [<-Ip];exact fh X]at W
  rw [ad (bq W)];obtain⟨R,S,e⟩:=Cy Y Z T U [] 0 ah [16,8,4,2,1] none none (by decide);cases V:mw Y Z [16,8,4,2,1]with
  |none=>
   rw [V]at e
   exact(bv (ie 0) ((ad ((bW (k:=.tup ([16,8,4,2,1].map .int)) (ps:=[16,8,4,2,1].map .int) (σ₁:=⟨[cI Y,cI Z,none,none],[],0⟩) rfl rfl (by decide)).trans e)).trans (aG rfl))).trans rfl
  |some b=>
   rw [V]at e
   exact(bv (ie 0) (aG ((bW (k:=.tup ([16,8,4,2,1].map .int)) (ps:=[16,8,4,2,1].map .int) (σ₁:=⟨[cI Y,cI Z,none,none],[],0⟩) rfl rfl (by decide)).trans e))).trans rfl
noncomputable def BP(l:List Int)(k:Int):Option Int:=if -(2^62)<=k/\k<2^62 then(seqIndex? k l.length).bind (l[·]?)else none
theorem gM{i:Nat}{l:List Int}{k v:Int}{σ:AS}(Y:σ.st.lookup i=some (.list (l.map .int)))(h:BP l k=some v):aO (.loc i) (.int k) σ=some (.int v,σ):=by
 unfold BP at h
 refine gU h fun X h=>dh h fun j W Z=>vO Y X (by rw [cW];exact W) (by rw [jS,Z];rfl)
noncomputable def nz(X Y V:List Int)(Z x:Int)(W:Int×Int):Option (Int×Int):=
 if Builtin.bitAnd (Int.fdiv Z (2^x.toNat)) 1≠0 then
  (BP X x).bind fun m=>(BP V (Builtin.bitAnd Z (Builtin.bitNot m))).bind fun left=>(BP Y x).bind fun U=>
   if U=1 then some (if left>W.1 then left else W.1,W.2)else some (W.1,if left<W.2 then left else W.2)
 else some W
noncomputable def na(Y Z V:List Int)(X:Int):List Int->Int×Int->Option (Int×Int)
 |[],W=>some W
 |x::U,W=>(nz Y Z V X x W).bind (na Y Z V X U)
theorem HO(masks sides ws mask lh):na masks sides ws mask [] lh=(some lh):=rfl
theorem Gy(masks sides ws mask x xs lh):na masks sides ws mask (x::xs) lh=((nz masks sides ws mask x lh).bind (na masks sides ws mask xs)):=rfl
noncomputable def oh(Y Z:List Int):List Int->List Int->Option (List Int)
 |[],X=>some X
 |m::V,X=>(na Y Z X m [0,1,2,3,4] (-200,200)).bind fun W=>
   if W.1.natAbs<=400/\W.2.natAbs<=400 then oh Y Z V (X++[dJ W.1 W.2])else none
noncomputable abbrev Jb:SR:=(ap (di (aq (ae (ae (aa 3) (aa 6) eQ) (ab (.int 1)) iA)) (ap (ai (ae (aa 2) (ae (aa 3) (cY (ae (aa 0) (aa 6) aO) nd) iA) aO) (am 7))
 (ap (di (aq (ae (ae (aa 1) (aa 6) aO) (ab (.int 1)) jd)) (ap (ai (aB DO (ac (aa 4) (ac (aa 7) aj))) (am 4))
 ah) (ap (ai (aB QA (ac (aa 5) (ac (aa 7) aj))) (am 5))
 ah))
 ah)) ah)
 ah)
theorem Bu{X Y I:List Int}{st:List (Nat×AO)}{nx:Nat}(A:st.lookup 0=some (.list (X.map .int)))(B:st.lookup 1=some (.list (Y.map .int)))(C:st.lookup 2=some (.list (I.map .int)))
  {Z x lo V U T:Int} (E:0<=x) {l7:Option PV} (h:nz X Y I Z x (lo,V)=some (U,T)):
  ∃Q,Jb ⟨[cL 0,cL 1,cL 2,cI Z,cI lo,cI V,cI x,l7],st,nx⟩=some (.next,⟨[cL 0,cL 1,cL 2,cI Z,cI U,cI T,cI x,Q],st,nx⟩):=by
 generalize M:(⟨[cL 0,cL 1,cL 2,cI Z,cI lo,cI V,cI x,l7],st,nx⟩:AS)=S;have P:∀W:AS,eQ (.int Z) (.int x) W=some (.int (Int.fdiv Z (2^x.toNat)),W):=fun W=>dv (k:=NC) (aC E)
 have R:aq (ae (ae (aa 3) (aa 6) eQ) (ab (.int 1)) iA) S=some (Builtin.bitAnd (Int.fdiv Z (2^x.toNat)) 1 != 0,S):=by
  subst M;exact aD (ak (ak rfl rfl (P _)) rfl rfl) rfl
 refine LE h (fun N h=>?_) fun N h=>?_
 .rw [uM.mpr N]at R
  refine dh h fun m w h=>dh h fun left y h=>dh h fun F z h=>?_
  have G:ai (ae (aa 2) (ae (aa 3) (cY (ae (aa 0) (aa 6) aO) nd) iA) aO) (am 7) S=some (.next,⟨[cL 0,cL 1,cL 2,cI Z,cI lo,cI V,cI x,cI left],st,nx⟩):=by
   subst M;exact ax (ak rfl (ak rfl (qA (ak rfl rfl (gM (σ:=⟨_,st,nx⟩) A w)) rfl) rfl) (gM (σ:=⟨_,st,nx⟩) C y)) rfl
  have H:∀c:Bool,(F==1)=c->aq (ae (ae (aa 1) (aa 6) aO) (ab (.int 1)) jd) ⟨[cL 0,cL 1,cL 2,cI Z,cI lo,cI V,cI x,cI left],st,nx⟩=some (c,⟨[cL 0,cL 1,cL 2,cI Z,cI lo,cI V,cI x,cI left],st,nx⟩):=fun c D=>by
   subst D;exact aD (ak (ak rfl rfl (gM (σ:=⟨_,st,nx⟩) B z)) rfl rfl) rfl
  refine⟨some (.int left),?_⟩;refine LE h (fun O h=>Ah h ?_) fun O h=>Ah h ?_
  .exact(ad ((bQ R).trans ((ad G).trans (ad ((bQ (H true (iS.mpr O))).trans (ad rfl)))))).trans rfl
  .exact(ad ((bQ R).trans ((ad G).trans (ad ((bq (H false (gp.mpr O))).trans (ad rfl)))))).trans rfl
 .rw [show(Builtin.bitAnd (Int.fdiv Z (2^x.toNat)) 1 != 0)=false by rw [Classical.not_not.mp N];rfl]at R
  refine⟨l7,Ah h ?_⟩;subst M;exact(ad ((bq R).trans rfl)).trans rfl
theorem rC{X Y N:List Int}{st:List (Nat×AO)}{nx:Nat}(G:st.lookup 0=some (.list (X.map .int)))(H:st.lookup 1=some (.list (Y.map .int)))(I:st.lookup 2=some (.list (N.map .int))){Z:Int}{T S:Int}:
  ∀(U:List Int) (lo R:Int) (Q V:Option PV),(∀x∈U,0<=x)->na X Y N Z U (lo,R)=some (T,S)->
  vS fun P W=>dZ (am 6) Jb ah (U.map .int) ⟨[cL 0,cL 1,cL 2,cI Z,cI lo,cI R,Q,V],st,nx⟩=some (.next,⟨[cL 0,cL 1,cL 2,cI Z,cI T,cI S,P,W],st,nx⟩)
 |[],lo,R,Q,V,_,h=>by cases h;exact⟨Q,V,rfl⟩
 |x::U,lo,R,Q,V,M,h=>by
  obtain⟨⟨lo1,O⟩,C,h⟩:=py.mp h;obtain⟨W,D⟩:=Bu (nx:=nx) G H I (M x (.head _)) (l7:=V) C;obtain⟨a,c,E⟩:=rC G H I U lo1 O (some (.int x)) W (fun y F=>M y (.tail _ F)) h;exact⟨a,c,(bj (σ₁:=⟨[cL 0,cL 1,cL 2,cI Z,cI lo,cI R,cI x,V],st,nx⟩) rfl D).trans E⟩
mutual
theorem vM(r:Nat->Nat):∀(p:PV),fQ p=[]->iF r p=p
 |.none,_=>rfl
 |.bool _,_=>rfl
 |.int _,_=>rfl
 |.str _,_=>rfl
 |.tup Z,h=>by show PV.tup (fe r Z)=_;rw [mR r Z h]
 |.loc i,h=>KC h
 |.val _,_=>rfl
 |.hdr _ l,h=>KC h
 |.rng _ _,_=>rfl
 |.fl _,_=>rfl
 |.clo a b c d e Y,h=>by
  have:Y=[]:=Am.mp h;subst this;rfl
theorem mR(r:Nat->Nat):∀(Z:List PV),bY Z=[]->fe r Z=Z
 |[],_=>rfl
 |p::Z,h=>by
  have Y:fQ p++bY Z=[]:=h;rw [GV]at Y
  show iF r p::fe r Z=_;rw [vM r p Y.1,mR r Z Y.2]
end
theorem Jr(r:Nat->Nat):∀(W:AO),eK W=[]->iG r W=W
 |.list Y,h=>bv AO.list (mR r Y h)
 |.cell (some p),h=>bv (fun q=>AO.cell (some q)) (vM r p h)
 |.cell none,_=>rfl
 |.dict Z,h=>by
  show AO.dict (Z.map fun x=>(x.1,iF r x.2))=_
  congr 1
  have T:bY (Z.map (·.2))=[]:=h;clear h
  induction Z with
  |nil=>rfl
  |cons V Z U=>
   have X:fQ V.2++bY (Z.map (·.2))=[]:=T;rw [GV]at X
   rw [cP,U X.2,vM r V.2 X.1]
 |.set Y,h=>bv AO.set (mR r Y h)
theorem bM{st:List (Nat×AO)}{Z:List Nat}{i:Nat}{X:List Nat}{Y:AO}{l:List AO}(h:st.lookup i=some Y)(W:eK Y=[])(V:jP st Z X=some l):jP st Z (i::X)=some (Y::l):=by
 dsimp only [rJ,qR];rw [h,V];dsimp only;rw [W,aC (show jQ Z []=true from rfl),Jr _ _ W]
theorem dn{k:Nat}{p:PV}{Y:AS}{ids:List Nat}{l:List AO}(Z:List.range k++jm ((fQ p).filter fun i=>decide (k<=i))=ids)(X:jP Y.st ids ids=some l)(W:(dQ.nodupB ids&&jQ ids (fQ p))=true):
  fb k p Y=some (iF (fun i=>ids.idxOf i) p,l.take k,l.drop k):=by
 unfold fb;rw [Z];dsimp only;rw [X];dsimp only;rw [aC W]
theorem qS(l:List Int):bY (l.map .int)=[]:=by induction l with|nil=>rfl|cons x l Z=>exact Z
theorem Ky(l:List Str):bY (l.map .str)=[]:=by induction l with|nil=>rfl|cons x l Z=>exact Z
theorem eW(l:List Int):eK (.list (l.map .int))=[]:=qS l
theorem xL{C:bO}{Y:List PV}{p:PV}{X:AS}(Z:bY Y=[])(W:fQ p=[])(V:C Y []=some (p,[],[])):dQ C [] Y X=some (p,X):=by
 unfold dQ;simp only [rJ,qR];rw [Z];rw [aC (by rfl),mR _ _ Z,V];simp only;rw [aC ⟨rfl,rfl,rfl⟩,vM _ _ W];rfl
theorem tL(st:List (Nat×AO)):∀n,fZ st n []=[]
 |0=>rfl
 |n+1=>by dsimp only [Kh,IV];exact tL st n
theorem bp{C:bO}{X:LR}{ps:List PV}{p:PV}{Y σ₁:AS}(h:X Y=some (ps,σ₁))(Z:bY ps=[])(W:fQ p=[])(V:C ps []=some (p,[],[])):bc C X Y=some (p,σ₁):=by
 unfold bc;rw [h];dsimp only;rw [Z,tL];exact xL Z W V
theorem eH{i:Nat}{ps:List PV}{p:PV}{σ:AS}(h:σ.st.lookup i=some (.list ps))(Z:ps.length<=2^20):aQ [.loc i,p] σ=some (.none,{σ with st:=av σ.st i (.list (ps++[p]))}):=by show zJ i _ σ=_;rw [mi h Z]
noncomputable abbrev zF(Z:bO)(N:Nat):SR:=(ap (ai (cY (ab (.int 200)) im) (am 4))
 (ap (ai (ab (.int 200)) (am 5))
 (ap (dD N (dj (aB dm (ac (ab (.int 5)) aj))) (am 6) Jb ah)
 (ap (bC (aK "list" (aa 2) (ac (bc Z (ac (aa 4) (ac (aa 5) aj))) aj) aQ))
 ah))))
theorem yJ{U V T:List Int}{st:List (Nat×AO)}{nx:Nat}(H:st.lookup 0=some (.list (U.map .int)))(I:st.lookup 1=some (.list (V.map .int)))(Q:st.lookup 2=some (.list (T.map .int)))
  {Z lo W:Int} (O:T.length<=100) {l4 l5 l6 l7:Option PV} (h:na U V T Z [0,1,2,3,4] (-200,200)=some (lo,W)) (P:lo.natAbs<=400/\W.natAbs<=400):
  Te fun R S X Y=>zF Fc 100 ⟨[cL 0,cL 1,cL 2,cI Z,l4,l5,l6,l7],st,nx⟩=some (.next,⟨[cL 0,cL 1,cL 2,cI Z,R,S,X,Y],av st 2 (.list ((T++[dJ lo W]).map .int)),nx⟩):=by
 obtain⟨X,Y,e⟩:=rC (nx:=nx) H I Q [0,1,2,3,4] (-200) 200 l6 l7 (by decide) h;refine⟨some (.int lo),cI W,X,Y,?_⟩;unfold zF;rw (occs:=.all) [ad (σ₁:=⟨[cL 0,cL 1,cL 2,cI Z,cI (-200),l5,l6,l7],st,nx⟩) rfl,ad (σ₁:=⟨[cL 0,cL 1,cL 2,cI Z,cI (-200),cI 200,l6,l7],st,nx⟩) rfl];rw (occs:=.all) [ad (σ₁:=⟨[cL 0,cL 1,cL 2,cI Z,cI lo,cI W,X,Y],st,nx⟩) ?_]
 .have N:bc Fc (ac (aa 4) (ac (aa 5) aj)) ⟨[cL 0,cL 1,cL 2,cI Z,cI lo,cI W,X,Y],st,nx⟩=some (.int (dJ lo W),⟨[cL 0,cL 1,cL 2,cI Z,cI lo,cI W,X,Y],st,nx⟩):=
   bp (ps:=[.int lo,.int W]) rfl rfl rfl (PJ lo W P.1 P.2)
  have M:=eH (σ:=⟨[cL 0,cL 1,cL 2,cI Z,cI lo,cI W,X,Y],st,nx⟩) (p:=.int (dJ lo W)) Q (by rw (occs:=.all) [cW];exact aH 0x2000006000011908000021 rfl O);rw (occs:=.all) [lU];exact(ad (fV (ca (eS rfl) (gK Q) (aw (g:=aj) N rfl) M))).trans rfl
 .rw (occs:=.all) [bW (k:=.rng 0 5) (ps:=[0,1,2,3,4].map .int) rfl rfl (by decide)]
  exact e
theorem pH{masks sides:List Int}{nx:Nat}:∀(S X:List Int) (st:List (Nat×AO)) (R T U V W:Option PV) (Y:List Int),st.lookup 0=some (.list (masks.map .int))->st.lookup 1=some (.list (sides.map .int))->st.lookup 2=some (.list (X.map .int))->
  X.length+S.length<=100->oh masks sides S X=some Y->
  RQ fun H I M N O Z=>sR (dZ (am 3) (zF Fc 100) ah (S.map .int) ⟨[cL 0,cL 1,cL 2,R,T,U,V,W],st,nx⟩=some (.next,⟨[cL 0,cL 1,cL 2,H,I,M,N,O],Z,nx⟩)) (Z.lookup 0=some (.list (masks.map .int))) (Z.lookup 1=some (.list (sides.map .int))) (Z.lookup 2=some (.list (Y.map .int)))
 |[],X,st,R,T,U,V,W,Y,P,Q,F,_,h=>by obtain rfl:=aZ h;exact⟨R,T,U,V,W,st,rfl,P,Q,F⟩
 |m::S,X,st,R,T,U,V,W,Y,P,Q,F,E,h=>by
  obtain⟨⟨lo,D⟩,w,h⟩:=py.mp h
  split at h
  .rename_i z
   have G:X.length+(S.length+1)<=100:=E;obtain⟨n,o,p,q,x⟩:=yJ (nx:=nx) P Q F (by exact(bb 0x642000008c840800010021 rfl E)) (l4:=T) (l5:=U) (l6:=V) (l7:=W) w z;obtain⟨r,s,t,u,v,Z,y,A,B,C⟩:=pH S (X++[dJ lo D]) (av st 2 (.list ((X++[dJ lo D]).map .int))) (some (.int m)) n o p q Y (by rw [az (by decide)];exact P) (by rw [az (by decide)];exact Q) aM (by simp;exact Mf G) h;exact⟨r,s,t,u,v,Z,(bj (σ₁:=⟨[cL 0,cL 1,cL 2,cI m,T,U,V,W],st,nx⟩) rfl x).trans y,A,B,C⟩
  .exact aW h
noncomputable def DS:bO:=cB CR xe yw (fun _=>[]) [] (fun n=>BV Fc 100 n)
theorem Ln(a b:AO):dw CR xe yw ([.loc 0,.loc 1]++[]) ([a,b]++[])=⟨[cL 0,cL 1,none,none,none,none,none,none],[(0,a),(1,b)],2⟩:=by left
noncomputable def Kv:List Int:=[1,2,3,4,5,6,7,8,9,10,11,12,13,14,15,16,17,18,19,20,21,22,23,24,25,26,27,28,29,30,31]
theorem cc{pn V W:List Str}{Z:Nat->List PV}{Y:List AO}{f:Nat->SR}{X:List PV}{os:List AO}{σ:AS}(U:X.length+(Z os.length).length=pn.length)(T:dw pn V W (X++Z os.length) (os++Y)=σ):cB pn V W Z Y f X os=ie os.length (f (os++Y).length σ):=by
 unfold cB;rw [aC U,T]
theorem PM{Y Z W:List Int}(h:oh Y Z Kv [0]=some W):
  DS [.loc 0,.loc 1] [.list (Y.map .int),.list (Z.map .int)]=some (.loc 2,[.list (Y.map .int),.list (Z.map .int)],[.list (W.map .int)]):=by
 unfold DS;rw [cc (σ:=⟨[cL 0,cL 1,none,none,none,none,none,none],[(0,.list (Y.map .int)),(1,.list (Z.map .int))],2⟩) rfl (Ln _ _)];unfold BV;obtain⟨R,S,T,U,V,X,e,O,P,Q⟩:=pH (masks:=Y) (sides:=Z) (nx:=3) Kv [0] [(2,.list ([0].map .int)),(0,.list (Y.map .int)),(1,.list (Z.map .int))] none none none none none W rfl rfl rfl (by decide) h;rw [ad (σ₁:=⟨[cL 0,cL 1,cL 2,none,none,none,none,none],[(2,.list ([0].map .int)),(0,.list (Y.map .int)),(1,.list (Z.map .int))],3⟩) rfl];rw [ad (σ₁:=⟨[cL 0,cL 1,cL 2,R,S,T,U,V],X,3⟩) (by rw [bW (k:=.rng 1 31) (ps:=Kv.map .int) rfl rfl (by decide)];exact e)];rw [aG (σ₁:=⟨[cL 0,cL 1,cL 2,R,S,T,U,V],X,3⟩) (p:=.loc 2) rfl];show fb 2 (.loc 2) ⟨[cL 0,cL 1,cL 2,R,S,T,U,V],X,3⟩=_;exact dn (ids:=[0,1,2]) rfl (bM O (eW _) (bM P (eW _) (bM Q (eW _) rfl))) rfl
noncomputable def fc{Z:Type}(n:Nat)(k:Nat->Z):Z:=Nat.rec (motive:=fun _=>Z) (k 0) (fun m _=>k (Nat.succ m)) n
theorem Co{Z:Type}(n:Nat)(k:Nat->Z):fc n k=k n:=by cases n<;>rfl
noncomputable def jT(lo Z s:Nat):Nat:=cond (Nat.ble 512 lo) ((lo/s+1)*s) ((Z-1)/s*s)
noncomputable def QN(lo Z:Nat)(k:Nat->Nat)(s:Nat)(e:Nat):Nat:=fc (cond (Nat.ble 512 lo) ((lo/s+1)*s) ((Z-1)/s*s)) fun b=>cond (Nat.blt lo b&&Nat.blt b Z) (k b) e
noncomputable def yX(lo Z:Nat)(k:Nat->Nat):Nat:=
 cond (Nat.blt lo 512&&Nat.blt 512 Z) (k 512) (QN lo Z k 16 (QN lo Z k 8 (QN lo Z k 4 (QN lo Z k 2 (QN lo Z k 1 0)))))
noncomputable def jU(W Z x m s lo Y:Nat)(k:Nat->Nat->Nat):Nat:=
 cond (Nat.beq (Z/2^x%2) 0) (k lo Y)
  (fc (W/2^(10*(Z-(Z&&&m)))%1024) fun left=>cond (Nat.beq s 1) (cond (Nat.blt lo left) (k left Y) (k lo Y)) (cond (Nat.blt left Y) (k lo left) (k lo Y)))
noncomputable def vu(O P Q R S T U V X Y:Nat):List Nat->Nat->Nat
 |[],W=>W
 |m::N,W=>jU W m 0 O T 312 712 fun lo Z=>jU W m 1 P U lo Z fun lo Z=>jU W m 2 Q V lo Z fun lo Z=>jU W m 3 R X lo Z fun lo Z=>jU W m 4 S Y lo Z fun lo Z=>
   yX lo Z fun v=>fc (W+v*2^(10*m)) fun M=>vu O P Q R S T U V X Y N M
theorem KO(m0 m1 m2 m3 m4 s0 s1 s2 s3 s4):vu m0 m1 m2 m3 m4 s0 s1 s2 s3 s4 [] W=(W):=rfl
theorem Le(m0 m1 m2 m3 m4 s0 s1 s2 s3 s4 m ms):vu m0 m1 m2 m3 m4 s0 s1 s2 s3 s4 (m::ms) W=(jU W m 0 m0 s0 312 712 fun lo Z=>jU W m 1 m1 s1 lo Z fun lo Z=>jU W m 2 m2 s2 lo Z fun lo Z=>jU W m 3 m3 s3 lo Z fun lo Z=>jU W m 4 m4 s4 lo Z fun lo Z=>
   yX lo Z fun v=>fc (W+v*2^(10*m)) fun Y=>vu m0 m1 m2 m3 m4 s0 s1 s2 s3 s4 ms Y):=rfl
theorem nf(a b:Nat):Int.fdiv (a:Int) (b:Int)=((a/b:Nat):Int):=by
 rw [nO _ (mS _)];rfl
theorem NG{l h:Int}{lo X s:Nat}(V:(lo:Int)=l+512)(S:(X:Int)=h+512)(T:1<=X){t:Nat}(U:s*t=512):((jT lo X s:Nat):Int)=bh l h s+512:=by
 have Y:(s:Int)≠0:=fun q=>by
  have:s=0:=by exact bB (aH 0x20000200a4004a821 rfl q) (aH 0x80200a4004aa21 rfl q)
  subst this;simp at U
 have Z:(s:Int)*(t:Int)=512:=by rw [<-uj,U];rfl
 unfold jT bh
 by_cases W:512<=lo
 .rw [fX W,aC (by exact hH 0x1000a501002002003001120408004a822 rfl V W:0<=l)]
  show(((lo/s+1)*s:Nat):Int)=_;have:l=(lo:Int)+(s:Int)*(-(t:Int)):=by rw [BM,Z];exact ce (hH 0x200225a0024404203001120408004aa21 rfl V) (hH 0x880089680091203001120408004a821 rfl V)
  rw [this,nO _ (mS _),FM _ _ Y]
  push_cast
  rw [nX,nX,nX,kE,Int.mul_comm (t:Int),Z];exact ce (hH 0x20022400484700112d020421000908c0812020 rfl) (hH 0x4846040a0022400484700112d0204212020 rfl)
 .have:Nat.ble 512 lo=false:=by
   rw [kJ];intro q;exact W (fJ q)
  rw [this,aF (by exact fun R=>hH 0x1000a5010020020c3001120408004aa23 rfl V W R:¬0<=l)];show(((X-1)/s*s:Nat):Int)=_;have:h-1=((X-1:Nat):Int)+(s:Int)*(-(t:Int)):=by rw [BM,Z];exact ce (qf 0x40044b420488214810c404000842010a3001120408004aa22 rfl S (aA (Fy T))) (qf 0x429021900112d0812240400084201083001120408004a822 rfl S (aA (Fy T)))
  rw [this,nO _ (mS _),FM _ _ Y]
  push_cast
  rw [nX,kE,Int.mul_comm (t:Int),Z];exact ce (gW 0x20022600225a04084042020 rfl) (gW 0x880089800896810212020 rfl)
theorem qG{l h:Int}{lo Z s:Nat}(S:(lo:Int)=l+512)(T:(Z:Int)=h+512)(Q:1<=Z){t:Nat}(R:s*t=512)(k:Nat->Nat)(e:Nat):
  QN lo Z k s e=if l<bh l h s/\bh l h s<h then k (bh l h s+512).toNat else e:=by
 have Y:=NG S T Q R;unfold QN;rw [Co];show cond (Nat.blt lo (jT lo Z s)&&Nat.blt (jT lo Z s) Z) (k (jT lo Z s)) e=_;have U:(bh l h s+512).toNat=jT lo Z s:=by exact bB (qf 0x10003001120408204a83001120408004aa22 rfl Y (cG (hH 0x1001120408014a03001120408004a821 rfl Y))) (qf 0x4000003001120408204aa3001120408004a822 rfl Y (cG (hH 0x1001120408014a03001120408004a821 rfl Y)))
 rw [U]
 by_cases X:l<bh l h s/\bh l h s<h
 .rw [aC X]
  have V:Nat.blt lo (jT lo Z s)=true:=fX (by exact(Hw 0x802100040085004243001121408204aa3001120408004a823 rfl S Y X.1));have W:Nat.blt (jT lo Z s) Z=true:=fX (by exact(Hw 0x2108040081014243001121408204a83001120408004aa23 rfl T Y X.2));rw [V,W];rfl
 .rw [aF X]
  have:(Nat.blt lo (jT lo Z s)&&Nat.blt (jT lo Z s) Z)=false:=by
   rw [kJ];intro q;rw [cR]at q
   have V:lo<jT lo Z s:=fJ q.1;have W:jT lo Z s<Z:=fJ q.2;exact X (by exact(⟨Hw 0x140109084000043001121408204a83001120408004aa23 rfl S Y V,Hw 0x40509080010043001121408204aa3001120408004a823 rfl T Y W⟩))
  rw [this];rfl
theorem GN{l h:Int}{lo Y:Nat}(U:(lo:Int)=l+512)(V:(Y:Int)=h+512)(T:1<=Y)(k:Nat->Nat)(Z:yX lo Y k≠0):
  yX lo Y k=k (dJ l h+512).toNat/\l<dJ l h/\dJ l h<h:=by
 unfold yX at Z ⊢
 unfold dJ
 by_cases X:l<0/\0<h
 .have R:Nat.blt lo 512=true:=fX (by exact(hH 0x2002042000801005204243001120408004a822 rfl U X.1))
  have S:Nat.blt 512 Y=true:=fX (by exact(hH 0x860020801020014a43001120408004aa22 rfl V X.2));rw [R,S,aC X];exact⟨rfl,X.1,X.2⟩
 .have q:(Nat.blt lo 512&&Nat.blt 512 Y)=false:=by
   rw [kJ];intro q;rw [cR]at q
   have R:lo<512:=fJ q.1;have S:512<Y:=fJ q.2;exact X (by exact(⟨hH 0x2902121800800043001120408004aa22 rfl U R,hH 0x1000a521002002043001120408004a822 rfl V S⟩))
  rw [q,eM,qG U V T (t:=32) rfl,qG U V T (t:=64) rfl,qG U V T (t:=128) rfl,qG U V T (t:=256) rfl,qG U V T (t:=512) rfl]at Z ⊢
  rw [aF X];simp only [te,tz];have M:((16:Nat):Int)=16:=rfl;have I:((8:Nat):Int)=8:=rfl;have H:((4:Nat):Int)=4:=rfl;have G:((2:Nat):Int)=2:=rfl;have F:((1:Nat):Int)=1:=rfl;rw [M,I,H,G,F]at Z ⊢
  by_cases W:l<bh l h 16/\bh l h 16<h
  .simp only [aC W,rf];exact⟨trivial,W⟩
  simp only [aF W]at Z ⊢
  by_cases Q:l<bh l h 8/\bh l h 8<h
  .simp only [aC Q,rf];exact⟨trivial,Q⟩
  simp only [aF Q]at Z ⊢
  by_cases P:l<bh l h 4/\bh l h 4<h
  .simp only [aC P,rf];exact⟨trivial,P⟩
  simp only [aF P]at Z ⊢
  by_cases O:l<bh l h 2/\bh l h 2<h
  .simp only [aC O,rf];exact⟨trivial,O⟩
  simp only [aF O]at Z ⊢
  by_cases N:l<bh l h 1/\bh l h 1<h
  .simp only [aC N,rf];exact⟨trivial,N⟩
  rw [aF N]at Z
  exact absurd rfl Z
noncomputable def Oo(W:Nat)(Z:List Int):Prop:=W<2^(10*Z.length)/\∀i v,Z[i]?=some v->((W/2^(10*i)%1024:Nat):Int)=v+512/\-200<v/\v<200
theorem Oo.snoc{W:Nat}{Z:List Int}(h:Oo W Z){v:Int}(X:-200<v/\v<200):Oo (W+(v+512).toNat*2^(10*Z.length)) (Z++[v]):=by
 obtain⟨R,O⟩:=h;have Q:0<2^(10*Z.length):=zz (by decide);refine⟨?_,fun i u U=>?_⟩
 .rw [df,List.length_singleton,rT,jO]
  have:(v+512).toNat*2^(10*Z.length)+2^(10*Z.length)<=1024*2^(10*Z.length):=by
   rw [<-Nat.succ_mul];exact ku _ (by exact(hH 0x8005084001003001120408004a8264112042422 rfl X.2 (cG (Nn X.1))))
  have e:2^(10*Z.length)*2^(10*1)=1024*2^(10*Z.length):=by rw [cF]
  rw [e];exact gP 0x3008000082118020100400840000422 rfl R this
 .by_cases V:i<Z.length
  .rw [tm V]at U
   obtain⟨e,P⟩:=O i u U;refine⟨?_,P⟩;have T:0<2^(10*i):=zz (by decide);have N:2^(10*Z.length)=2^(10*i)*(1024*2^(10*(Z.length-i-1))):=by
    rw [show 1024=2^10 from rfl,<-jO,<-jO];congr 1;exact bB ((dP (1) (Z.length-i)).elim (fun Y=>gP 0x30286a0882050c42028600800108c02168400800010b42 rfl (aA (hV V)) (aA (Fy Y))) (fun Y=>gP 0x18143504410286210143004011805a1002000042d042000143 rfl Y (aA (hV V)) (eg (Hp Y)))) ((dP (1) (Z.length-i)).elim (fun Y=>gP 0x2028630286a0882050c400800108c02128400800010942 rfl (aA (hV V)) (aA (Fy Y))) (fun Y=>ci 0x40a1880a1a8220014310020088025040000542 rfl V (eg (Hp Y))))
   rw [N,GD,Nat.add_mul_div_left _ _ T,GD,Nat.add_mul_mod_self_left];exact e
  .have S:i=Z.length:=by
    have:=(ig.mp U).1;simp at this;exact bB (bb 0x8000004210804000421 rfl this) (pU V)
   subst S;simp at U
   subst U;refine⟨?_,X⟩;rw [Nat.add_mul_div_right _ _ Q,uF R,As,uG (by exact(hH 0x1000a00043001120408004a8264112042422 rfl X.2 (cG (Nn X.1))))];exact ce (hH 0x1001120408004a03001120408004a821 rfl (cG (Nn X.1))) (hH 0x2600224081203001120408004aa21 rfl (cG (Nn X.1)))
theorem me(a b:Nat):Builtin.bitAnd (a:Int) (b:Int)=((a&&&b:Nat):Int):=by
 unfold Builtin.bitAnd;have Y:decide (0<=(a:Int))=true:=dq (mS _);have Z:decide (0<=(b:Int))=true:=dq (mS _);rw [Y,Z];rfl
theorem Bj(a b:Nat):Builtin.bitAnd (a:Int) (Builtin.bitNot (b:Int))=((a-(a&&&b):Nat):Int):=by
 unfold Builtin.bitAnd;have W:decide (0<=(a:Int))=true:=dq (mS _);have X:decide (0<=Builtin.bitNot (b:Int))=false:=fh (by unfold Builtin.bitNot;exact fun Z=>aH 0x21480096b0014a021 rfl Z);rw [W,X];show(a:Int)-((a:Int).toNat&&&(Builtin.bitNot (Builtin.bitNot (b:Int))).toNat:Nat)=_;have Y:Builtin.bitNot (Builtin.bitNot (b:Int))=(b:Int):=by unfold Builtin.bitNot;exact ce (aH 0x9085210a4004b58d62020 rfl) (aH 0x42908520025ac6b0004a020 rfl)
 rw [Y,fp,fp];have:a&&&b<=a:=Gx;exact ce (ci 0x484091012c404400800010a21 rfl (aA (dY this))) (ci 0x204880960009404400800010821 rfl (aA (dY this)))
theorem fL{l:List Int}{i:Nat}{v:Int}(h:l[i]?=some v)(X:l.length<=1000):BP l (i:Int)=some v:=by
 have Z:=(ig.mp h).1;unfold BP;rw [aC (by exact(⟨aH 0x9010000000000000000e96a020 rfl,Rw X Z⟩))];have:seqIndex? (i:Int) l.length=some i:=by
  unfold seqIndex?;simp only;rw [show(if(i:Int)<0 then(i:Int)+(l.length:Int)else(i:Int))=(i:Int)from aF (by exact(fun Y=>xY Y)),aC (by simp;exact EW Z)];simp
 rw [this];exact h
theorem kl{masks sides R:List Int}{W mask x m s lo hi:Nat}{l h:Int}(f:Oo W R)(V:R.length=mask)(O:mask<=31)(g:masks[x]?=some (m:Int))(i:sides[x]?=some (s:Int))(w:masks.length<=1000)(C:sides.length<=1000)(I:m.testBit x=true)
  (S:(lo:Int)=l+512) (T:(hi:Int)=h+512) (E:-200<=l/\l<200) (F:-200<h/\h<=200) (k:Nat->Nat->Nat):
  Te fun Q M H G=>Qm (nz masks sides R mask x (l,h)=some (H,G)) (jU W mask x m s lo hi k=k Q M) (((Q:Nat):Int)=H+512) (((M:Nat):Int)=G+512) ((-200<=H/\H<200)) ((-200<G/\G<=200)):=by
 have r:Builtin.bitAnd (Int.fdiv (mask:Int) (2^((x:Int).toNat))) 1=((mask/2^x%2:Nat):Int):=by
  rw (occs:=.all) [fp,show(2:Int)^x=((2^x:Nat):Int)by push_cast;rfl,nf,show(1:Int)=((1:Nat):Int)from rfl,me,Nat.and_one_is_mod]
 unfold nz jU;rw (occs:=.all) [r]
 by_cases j:mask/2^x%2=0
 .rw (occs:=.all) [j,aF (by trivial)]
  exact⟨lo,hi,l,h,rfl,rfl,S,T,E,F⟩
 .have P:mask/2^x%2=1:=by exact bB (aH 0x1080000882000421 rfl (eU _ (y:=2) (by decide))) ((eF j).elim (fun Y=>(aH 0x2000421 rfl Y:False).elim) (fun Y=>KG Y))
  rw (occs:=.all) [P,aC (by decide)];have t:mask.testBit x=true:=by rw (occs:=.all) [Nat.testBit_eq_decide_div_mod_eq,P];rfl
  have z:mask&&&m≠0:=fun q=>by
   have:(mask&&&m).testBit x=true:=by rw (occs:=.all) [Ku,t,I];rfl
   rw [q]at this;simp at this
  have u:mask&&&m<=mask:=Gx;have N:mask-(mask&&&m)<R.length:=by exact(eF z).elim (fun Y=>(aH 0x2000421 rfl Y:False).elim) (fun Y=>gP 0x60084201006010822000210840000a23 rfl V Y (aA (dY u)))
  obtain⟨left,Z⟩:∃v,R[mask-(mask&&&m)]?=some v:=⟨_,fC N⟩;obtain⟨U,n,o⟩:=f.2 _ _ Z;rw (occs:=.all) [fL g w,iO,Bj,fL Z (by exact(bb 0xfa0800003f084000840000822 rfl V O)),iO,fL i C,iO];simp only [Co,show Nat.beq 1 0=false from rfl,eM];generalize e:W/2^(10*(mask-(mask&&&m)))%1024=L at U ⊢
  by_cases p:s=1
  .subst p
   rw (occs:=.all) [aC (show((1:Nat):Int)=1 from rfl)]
   by_cases X:left>l
   .have q:Nat.blt lo L=true:=fX (by exact(Hw 0x802100040085004243001121408204aa3001120408004a823 rfl S U X))
    refine⟨L,hi,left,h,by rw (occs:=.all) [aC X],?_,U,T,⟨by exact gW 0x1064112d40408320896a421 rfl n,o⟩,F⟩;show cond (Nat.blt lo L) _ _=_;rw (occs:=.all) [q];rfl
   .have q:Nat.blt lo L=false:=by
     rw (occs:=.all) [kJ];intro q;have:lo<L:=fJ q;exact Hw 0x100001085004303001121408204a83001120408004aa24 rfl S U X this
    refine⟨lo,hi,l,h,by rw (occs:=.all) [aF X],?_,S,T,E,F⟩;show cond (Nat.blt lo L) _ _=_;rw (occs:=.all) [q];rfl
  .have A:¬((s:Nat):Int)=1:=by exact fun Y=>(eF p).elim (fun D=>aH 0x420004210a4004aa22 rfl Y D) (fun D=>aH 0x1084210a4004a822 rfl Y D)
   have B:Nat.beq s 1=false:=by
    rw (occs:=.all) [kJ];intro q;exact p (ip q)
   rw (occs:=.all) [aF A,B]
   by_cases X:left<h
   .have q:Nat.blt L hi=true:=fX (by exact(Hw 0x2108040081014243001121408204a83001120408004aa23 rfl T U X))
    refine⟨lo,L,l,left,by rw (occs:=.all) [aC X],?_,S,U,E,⟨n,by exact gW 0x641120420264112042421 rfl o⟩⟩;show cond (Nat.blt L hi) _ _=_;rw (occs:=.all) [q];rfl
   .have q:Nat.blt L hi=false:=by
     rw (occs:=.all) [kJ];intro q;have:L<hi:=fJ q;exact Hw 0x401081014303001121408204aa3001120408004a824 rfl T U X this
    refine⟨lo,hi,l,h,by rw (occs:=.all) [aF X],?_,S,T,E,F⟩;show cond (Nat.blt L hi) _ _=_;rw (occs:=.all) [q];rfl
theorem DL{R S T U V M N O P Q:Nat}(k:(R.testBit 0&&S.testBit 1&&T.testBit 2&&U.testBit 3&&V.testBit 4)=true):∀(F:List Nat) (W:Nat) (H:List Int),Oo W H->(∀j m,F[j]?=some m->m=H.length+j/\m<=31)->vu R S T U V M N O P Q F W≠0->
  ∃I,oh [(R:Int),S,T,U,V] [(M:Int),N,O,P,Q] (List.map (fun m:Nat=>(m:Int)) F) H=some I/\Oo (vu R S T U V M N O P Q F W) I
 |[],W,H,h,_,_=>⟨H,rfl,h⟩
 |m::F,W,H,h,E,Z=>by
  simp only [cR]at k
  obtain⟨⟨⟨⟨p,q⟩,r⟩,t⟩,u⟩:=k;obtain⟨X,Y⟩:=E 0 m rfl;simp only [KO,Le]at Z ⊢
  obtain⟨a0,b0,l0,h0,d,d0,p0,q0,G,v0⟩:=kl (masks:=[(R:Int),S,T,U,V]) (sides:=[(M:Int),N,O,P,Q]) (mask:=m) (x:=0) (m:=R) (s:=M) (lo:=312) (hi:=712) (l:=-200) (h:=200) h (by exact(bB (Ef X) (EB X))) Y rfl rfl (by simp) (by simp) p rfl rfl (by exact(⟨uZ 0x64112d320896a020 rfl,uZ 0x32089320896a420 rfl⟩)) (by exact(⟨uZ 0x32089320896a420 rfl,uZ 0x1904499044a020 rfl⟩)) _;rw [d0]at Z ⊢
  obtain⟨a1,b1,l1,h1,e,d1,p1,q1,u1,v1⟩:=kl (masks:=[(R:Int),S,T,U,V]) (sides:=[(M:Int),N,O,P,Q]) (mask:=m) (x:=1) (m:=S) (s:=N) h (by exact(bB (Ef X) (EB X))) Y rfl rfl (by simp) (by simp) q p0 q0 G v0 _;rw [d1]at Z ⊢
  obtain⟨a2,b2,l2,h2,f,d2,p2,q2,u2,v2⟩:=kl (masks:=[(R:Int),S,T,U,V]) (sides:=[(M:Int),N,O,P,Q]) (mask:=m) (x:=2) (m:=T) (s:=O) h (by exact(bB (Ef X) (EB X))) Y rfl rfl (by simp) (by simp) r p1 q1 u1 v1 _;rw [d2]at Z ⊢
  obtain⟨a3,b3,l3,h3,g,d3,p3,q3,u3,v3⟩:=kl (masks:=[(R:Int),S,T,U,V]) (sides:=[(M:Int),N,O,P,Q]) (mask:=m) (x:=3) (m:=U) (s:=P) h (by exact(bB (Ef X) (EB X))) Y rfl rfl (by simp) (by simp) t p2 q2 u2 v2 _;rw [d3]at Z ⊢
  obtain⟨a4,b4,C,B,i,d4,p4,o,A,D⟩:=kl (masks:=[(R:Int),S,T,U,V]) (sides:=[(M:Int),N,O,P,Q]) (mask:=m) (x:=4) (m:=V) (s:=Q) h (by exact(bB (Ef X) (EB X))) Y rfl rfl (by simp) (by simp) u p3 q3 u3 v3 _;rw [d4]at Z ⊢
  obtain⟨es,k1,k2⟩:=GN p4 o (by exact(hH 0x2100408320896a43001120408004aa22 rfl o D.1)) _ Z;rw [es]at Z ⊢
  rw [Co]at Z ⊢
  have z:na [(R:Int),S,T,U,V] [(M:Int),N,O,P,Q] H (m:Int) [0,1,2,3,4] (-200,200)=some (C,B):=by
   have z0:((0:Nat):Int)=0:=rfl;have z1:((1:Nat):Int)=1:=rfl;have a:((2:Nat):Int)=2:=rfl;have b:((3:Nat):Int)=3:=rfl;have c:((4:Nat):Int)=4:=rfl;simp only [z0,z1,a,b,c]at d e f g i
   simp only [HO,Gy,d,e,f,g,i,iO]
  have n:=h.snoc (v:=dJ C B) ⟨by exact Tq 0x1419044b5210a00848408320896a022 rfl A.1 k1,by exact Tq 0x19044850908101424264112042022 rfl D.2 k2⟩;rw [show H.length=m by exact bB (Ef X) (EB X)]at n
  obtain⟨I,g1,g2⟩:=DL (by simp [p,q,r,t,u]) F _ _ n (fun j y hj=>by
   obtain⟨w,y2⟩:=E (j+1) y hj;exact⟨by simp;exact bB (ci 0x2004210084000021088020804000821 rfl w) (ci 0x8010840210021088020804000a21 rfl w),y2⟩) Z
  refine⟨I,?_,g2⟩;show(na _ _ H (m:Int) [0,1,2,3,4] (-200,200)).bind _=_;rw [z,iO,aC ⟨by show C.natAbs<=400;exact(kR 0 (C)).elim (fun G=>hH 0x320400001020004a8264112042422 rfl A.2 (fF (pJ G))) (fun G=>hH 0xc81000004086800950408320896a022 rfl A.1 (pC (Jq G))),by show B.natAbs<=400;exact(kR 0 (B)).elim (fun G=>hH 0x320400001020004a8264112042022 rfl D.2 (fF (pJ G))) (fun G=>hH 0xc81000004086800950408320896a422 rfl D.1 (pC (Jq G)))⟩];exact g1
noncomputable def sr(Z:List Nat):List PV:=Z.map fun c=>.str ⟨#[c]⟩
noncomputable def au(Z:List Nat):List PV:=Z.map fun n:Nat=>.int (n:Int)
theorem Cj(a b:List Nat):sr (a++b)=sr a++sr b:=lU ..
theorem nD(a b:List Nat):au (a++b)=au a++au b:=lU ..
theorem jw{k n:Nat}(h:k<n):seqIndex? (k:Int) n=some k:=by
 unfold seqIndex?;simp only;rw [show(if(k:Int)<0 then(k:Int)+(n:Int)else(k:Int))=(k:Int)from aF (by exact(fun Z=>xY Z)),aC (by simp;exact EW h)];simp
theorem uY{x:Str}{k:Nat}{c:Nat}{σ:AS}(h:x.cps[k]?=some c)(Y:x.length<=1000):aO (.str x) (.int (k:Int)) σ=some (.str ⟨#[c]⟩,σ):=by
 have Z:k<x.length:=(Bw.mp h).1;exact yP (g:=fun c=>PV.str ⟨#[c]⟩) ⟨by exact aH 0x9010000000000000000e96a020 rfl,by exact Rw Y Z⟩ (jw Z) h
noncomputable abbrev Cm:SR:=bC (aK "list" (aa 1) (ac (ae (ab (.str "ABCDE")) (aK "list" (aa 3) aj BD) aO) aj) aQ)
theorem JC{k:Nat}(h:k<5):(Str.ofString "ABCDE").cps[k]?=some (65+k):=by
 match k,h with
 |0,_=>rfl
 |1,_=>rfl
 |2,_=>rfl
 |3,_=>rfl
 |4,_=>rfl
theorem Ie{k:Nat}(h:k<5):(Str.ofString "abcde").cps[k]?=some (97+k):=by
 match k,h with
 |0,_=>rfl
 |1,_=>rfl
 |2,_=>rfl
 |3,_=>rfl
 |4,_=>rfl
theorem rY{st:List (Nat×AO)}{nx:Nat}{l0 l2 l4 l5 l6:Option PV}{cs ws:List Nat}{x:Nat}(V:st.lookup 1=some (.list (sr cs)))(W:st.lookup 3=some (.list (au (ws++[x]))))(U:x<5)(S:cs.length<=1000)(T:ws.length<=1000):
  Cm ⟨[l0,cL 1,l2,cL 3,l4,l5,l6],st,nx⟩=some (.next,⟨[l0,cL 1,l2,cL 3,l4,l5,l6],av (av st 3 (.list (au ws))) 1 (.list (sr (cs++[65+x]))),nx⟩):=by
 have Z:BD [.loc 3] ⟨[l0,cL 1,l2,cL 3,l4,l5,l6],st,nx⟩=some (.int (x:Int),⟨[l0,cL 1,l2,cL 3,l4,l5,l6],av st 3 (.list (au ws)),nx⟩):=by
  rw [show BD [.loc 3]=Ub [.loc 3]from aC rfl];show zJ 3 _ _=_;rw [mi W (by simp [au];exact aH 0x1ffffe500001fa08000021 rfl T)];simp [au]
 have Y:=uY (x:=Str.ofString "ABCDE") (σ:=⟨[l0,cL 1,l2,cL 3,l4,l5,l6],av st 3 (.list (au ws)),nx⟩) (JC U) (by decide);have X:=eH (i:=1) (p:=.str ⟨#[65+x]⟩) (σ:=⟨[l0,cL 1,l2,cL 3,l4,l5,l6],av st 3 (.list (au ws)),nx⟩) (ps:=sr cs) (by show(av st 3 _).lookup 1=_;rw [az (by decide)];exact V) (by simp [sr];exact aH 0x200000600001fa08000021 rfl S);rw [Cj];exact fV (ca (eS rfl) (gK V) (aw (g:=aj) (ak rfl (ca (eS rfl) (gK W) rfl Z) Y) rfl) X)
theorem Ec{ws:List Nat}{x d:Nat}(h:d<=ws.length):(ws++[x]).take d=ws.take d/\(ws++[x]).drop d=ws.drop d++[x]:=
 ⟨Jd h,JN h⟩
theorem Ha{nx d:Nat}{l0 l2 l4 l5:Option PV}:∀(N:Nat) (Z T:List Nat) (st:List (Nat×AO)),st.lookup 1=some (.list (sr T))->st.lookup 3=some (.list (au Z))->(∀x∈Z,x<5)->T.length+Z.length<=100->Z.length<N+d->d<=Z.length->
  ∃Y,sR (eE (aq (ae (aB cX (ac (aa 3) aj)) (aa 6) EU)) (ap Cm ah) ah N ⟨[l0,cL 1,l2,cL 3,l4,l5,cI (d:Int)],st,nx⟩=some (.next,⟨[l0,cL 1,l2,cL 3,l4,l5,cI (d:Int)],Y,nx⟩)) (Y.lookup 1=some (.list (sr (T++(Z.drop d).reverse.map (65+·))))) (Y.lookup 3=some (.list (au (Z.take d)))) (∀i,i≠1->i≠3->Y.lookup i=st.lookup i)
 |0,Z,T,st,_,_,_,_,h,z=>by exact(bb 0x20004200044000422 rfl h z:False).elim
 |N+1,Z,T,st,H,P,I,R,A,B=>by
  have S:Gz st (.loc 3)=some Z.length:=by
   show yy (st.lookup 3)=_;rw [P];simp [yy,au]
  have W:aq (ae (aB cX (ac (aa 3) aj)) (aa 6) EU) ⟨[l0,cL 1,l2,cL 3,l4,l5,cI (d:Int)],st,nx⟩=some (decide (d<Z.length),⟨[l0,cL 1,l2,cL 3,l4,l5,cI (d:Int)],st,nx⟩):=by
   have:Z.length<=2^30:=by exact bb 0x400000003040008c840800010021 rfl R
   rw [show decide (d<Z.length)=decide ((d:Int)<(Z.length:Int))from decide_eq_decide.mpr Int.ofNat_lt.symm];have Q:aB cX (ac (aa 3) aj) ⟨[l0,cL 1,l2,cL 3,l4,l5,cI (d:Int)],st,nx⟩=some (.int (Z.length:Int),⟨[l0,cL 1,l2,cL 3,l4,l5,cI (d:Int)],st,nx⟩):=by
    refine bN (ps:=[.loc 3]) (aw (g:=aj) (eS rfl) rfl) ?_
    show(Gz st (.loc 3)).bind _=_;rw [S];exact aC this
   exact aD (ak Q rfl rfl) rfl
  by_cases V:d<Z.length
  .obtain⟨w,x,rfl⟩:vS fun w x=>Z=w++[x]:=by
    rcases GP Z with h|⟨w,x,h⟩
    .subst h;simp at V
    .exact⟨w,x,by rw [h,Iv]⟩
   have X:(w++[x]).length=w.length+1:=by exact df
   have U:=rY (nx:=nx) (l0:=l0) (l2:=l2) (l4:=l4) (l5:=l5) (l6:=some (.int (d:Int))) H P (I x (by exact va _ oI)) (by exact(bb 0x3e82000008c840800010021 rfl R)) (by exact(ci 0x7d0410001084401040288c840800010022 rfl R X));obtain⟨Y,e,Q,D,E⟩:=Ha (nx:=nx) (d:=d) (l0:=l0) (l2:=l2) (l4:=l4) (l5:=l5) N w (T++[65+x]) (av (av st 3 (.list (au w))) 1 (.list (sr (T++[65+x])))) aM (by rw [az (by decide)];exact aM) (fun y C=>I y (uq _ C)) (by simp;exact ci 0x3210400840010801084401040288c840800010022 rfl R X) (by exact(gP 0x80100860084211804000a22004210084000422 rfl A X)) (by exact(ci 0x400000108440104020840000422 rfl V X));obtain⟨F,G⟩:=Ec (ws:=w) (x:=x) (d:=d) (by exact(ci 0x400000108440104020840000422 rfl V X));refine⟨Y,?_,?_,?_,fun i M O=>?_⟩
   .dsimp only [gX,gY]
    rw [W,dq V];dsimp only;rw [ad U];exact e
   .rw [Q,G];simp
   .rw [D,F]
   .rw [E i M O,az M,az O]
  .have v:Z.length=d:=by exact bB (pU V) (dY B)
   refine⟨st,?_,?_,?_,fun i _ _=>rfl⟩
   .dsimp only [gX,gY]
    rw [W,fh V];rfl
   .rw [H,qC (by exact(pU V))];simp
   .rw [P,rV (by exact(pU V))]
noncomputable def bT(a:List Nat×List Nat)(k d:Nat):List Nat×List Nat:=(a.1++(a.2.drop d).reverse.map (65+·)++[97+k],a.2.take d++[k])
noncomputable abbrev uW:SR:=(ap (ai (ae (ae (aa 0) (aa 5) aO) (aa 4) eu) (am 6))
 (ap (bC (aK "list" (aa 2) (ac (ae (ae (ae (aa 0) (aa 5) aO) (aa 4) de) (ab (.int 2)) eu) aj) aQ))
 (ap (eE (aq (ae (aB cX (ac (aa 3) aj)) (aa 6) EU)) (ap Cm ah) ah 100)
 (ap (bC (aK "list" (aa 1) (ac (ae (ab (.str "abcde")) (aa 5) aO) aj) aQ))
 (ap (bC (aK "list" (aa 3) (ac (aa 5) aj) aQ))
 (ap (ai (ae (aa 6) (ab (.int 2)) ba) (am 4))
 ah))))))
theorem cb{a i:Nat}{e:ER}{σ σ₁:AS}{ps₀ ps:List PV}{p:PV}(X:fB σ.loc a=some (.loc i))(V:σ.st.lookup i=some (.list ps₀))(Y:e σ=some (p,σ₁))(W:σ₁.st.lookup i=some (.list ps))(Z:ps.length<=1000000):
  bC (aK "list" (aa a) (ac e aj) aQ) σ=some (.next,{σ₁ with st:=av σ₁.st i (.list (ps++[p]))}):=
 fV (ca (eS X) (gK V) (aw (g:=aj) Y rfl) (eH W (bJ Z (by decide))))
theorem wc{st:List (Nat×AO)}{nx:Nat}{l6:Option PV}{Y:List Int}{cs ws sd:List Nat}{k room:Nat}{c:Int}(y:st.lookup 0=some (.list (Y.map .int)))(h:st.lookup 1=some (.list (sr cs)))(z:st.lookup 2=some (.list (au sd)))(j:st.lookup 3=some (.list (au ws)))
  (l:Y[k]?=some c) (G:Y.length<=1000) (m:k<5) (U:0<room/\room<=10) (X:ws.length+1=room) (q:∀x∈ws,x<5) (A:cs.length<=50) (o:sd.length<=100):
  ∃W,Ml (uW ⟨[cL 0,cL 1,cL 2,cL 3,cI (room:Int),cI (k:Int),l6],st,nx⟩=some (.next,⟨[cL 0,cL 1,cL 2,cL 3,cI (((Int.fmod c room).toNat+2:Nat):Int),cI (k:Int),cI ((Int.fmod c room).toNat:Int)],W,nx⟩)) (W.lookup 0=some (.list (Y.map .int))) (W.lookup 1=some (.list (sr (bT (cs,ws) k (Int.fmod c room).toNat).1))) (W.lookup 2=some (.list (au (sd++[(Int.fmod (Int.fdiv c room) 2).toNat])))) (W.lookup 3=some (.list (au (bT (cs,ws) k (Int.fmod c room).toNat).2))):=by
 have M:=kq c (show(0:Int)<room by exact Fr U.1);have N:=lH c (show(0:Int)<room by exact Fr U.1);have B:=kq (Int.fdiv c room) (show(0:Int)<2 by exact uZ 0x20a4014a420 rfl);obtain⟨d,S⟩:∃d:Nat,Int.fmod c room=d:=⟨(Int.fmod c room).toNat,by exact ce (sE (cG (pJ M))) (sM (cG (pJ M)))⟩;obtain⟨R,Q⟩:∃d:Nat,Int.fmod (Int.fdiv c room) 2=d:=⟨(Int.fmod (Int.fdiv c room) 2).toNat,by exact ce (sE (cG (pJ B))) (sM (cG (pJ B)))⟩;rw [S,Q];simp only [fp];have T:∀loc:List (Option PV),aO (.loc 0) (.int (k:Int)) ⟨loc,st,nx⟩=some (.int c,⟨loc,st,nx⟩):=fun loc=>gM (σ:=⟨loc,st,nx⟩) y (fL l G)
 have V:(room:Int)≠0:=by exact fun H=>aH 0x290012a0800008422 rfl U.1 H
 have I:room≠0:=by exact fun H=>GF U.1 H
 have s:ai (ae (ae (aa 0) (aa 5) aO) (aa 4) eu) (am 6) ⟨[cL 0,cL 1,cL 2,cL 3,cI (room:Int),cI (k:Int),l6],st,nx⟩=some (.next,⟨[cL 0,cL 1,cL 2,cL 3,cI (room:Int),cI (k:Int),cI (d:Int)],st,nx⟩):=by
  exact ax (ak (ak rfl rfl (T _)) rfl (dv (k:=yN) (show yN c room=some (d:Int)by unfold yN;rw [aC V,S]))) rfl
 have F:aQ [.loc 2,.int (R:Int)] ⟨[cL 0,cL 1,cL 2,cL 3,cI (room:Int),cI (k:Int),cI (d:Int)],st,nx⟩=some (.none,⟨[cL 0,cL 1,cL 2,cL 3,cI (room:Int),cI (k:Int),cI (d:Int)],av st 2 (.list (au (sd++[R]))),nx⟩):=by
  have:=eH (i:=2) (p:=.int (R:Int)) (σ:=⟨[cL 0,cL 1,cL 2,cL 3,cI (room:Int),cI (k:Int),cI (d:Int)],st,nx⟩) z (by simp [au];exact aH 0x2000006000011908000021 rfl o);rw [this,nD];rfl
 have t:bC (aK "list" (aa 2) (ac (ae (ae (ae (aa 0) (aa 5) aO) (aa 4) de) (ab (.int 2)) eu) aj) aQ) ⟨[cL 0,cL 1,cL 2,cL 3,cI (room:Int),cI (k:Int),cI (d:Int)],st,nx⟩=some (.next,⟨[cL 0,cL 1,cL 2,cL 3,cI (room:Int),cI (k:Int),cI (d:Int)],av st 2 (.list (au (sd++[R]))),nx⟩):=by
  have n:yN (Int.fdiv c room) 2=some (R:Int):=(aC (by decide)).trans (by rw [Q]);exact fV (ca (eS rfl) (gK z) (aw (g:=aj) (ak (ak (ak rfl rfl (T _)) rfl (r:=some (.int (Int.fdiv c room),_)) (dv (k:=lP) (jk V (by exact(bb 0x4000000030401080090812a0a82000022 rfl U.2 (fF (aH 0x9005280800008421 rfl U.1))))))) rfl (r:=some (.int (R:Int),_)) (dv (k:=yN) (n))) rfl) F)
 obtain⟨Z,O,D,w,E⟩:=Ha (nx:=nx) (d:=d) (l0:=some (.loc 0)) (l2:=some (.loc 2)) (l4:=some (.int (room:Int))) (l5:=some (.int (k:Int))) 100 ws cs (av st 2 (.list (au (sd++[R])))) (by rw [az (by decide)];exact h) (by rw [az (by decide)];exact j) q (by exact(ci 0x32102010040086441000100021080420a82000023 rfl U.2 X A)) (by exact(Vv 0x1006420820084404810a081000a50100021080420a82000024 rfl U.2 X M S)) (by exact(QE X N S));have P:=uY (x:=Str.ofString "abcde") (σ:=⟨[cL 0,cL 1,cL 2,cL 3,cI (room:Int),cI (k:Int),cI (d:Int)],Z,nx⟩) (Ie m) (by decide);have u:=cb (a:=1) (i:=1) (σ:=⟨[cL 0,cL 1,cL 2,cL 3,cI (room:Int),cI (k:Int),cI (d:Int)],Z,nx⟩) rfl D (ak (f₁:=ab (.str "abcde")) (f₂:=aa 5) rfl rfl P) D (by simp [sr];exact VP 0x3d0900a400802004201808010823024085040800528086441000100021080420a82000026 rfl U.2 X A M S (aA (QE X N S)));have C:(av Z 1 (.list (sr (cs++(ws.drop d).reverse.map (65+·))++[.str ⟨#[97+k]⟩]))).lookup 3=some (.list (au (ws.take d))):=by rw [az (by decide)];exact w
 have v:=cb (a:=3) (i:=3) (e:=aa 5) (σ:=⟨[cL 0,cL 1,cL 2,cL 3,cI (room:Int),cI (k:Int),cI (d:Int)],av Z 1 (.list (sr (cs++(ws.drop d).reverse.map (65+·))++[.str ⟨#[97+k]⟩])),nx⟩) rfl C rfl C (by simp [au];exact Vv 0xf42402880008402008210240854400481090a82000024 rfl U.2 N S (fM (QE X N S)));refine⟨av (av Z 1 (.list (sr (cs++(ws.drop d).reverse.map (65+·))++[.str ⟨#[97+k]⟩]))) 3 (.list (au (ws.take d)++[.int (k:Int)])),?_,?_,?_,?_,?_⟩
 .unfold uW
  rw [ad s,ad t,ad O,ad u,ad v];rw [show((d+2:Nat):Int)=(d:Int)+2 by push_cast;rfl];exact(ad (ax (ak rfl rfl rfl) rfl)).trans rfl
 .rw [az (by decide),az (by decide),E 0 (by decide) (by decide),az (by decide)];exact y
 .rw [az (by decide),aM];simp only [bT,Cj];rfl
 .rw [az (by decide),az (by decide),E 2 (by decide) (by decide),aM]
 .rw [aM];simp only [bT,nD];rfl
theorem rr:∀l:List Int,ee (l.map .int)=some (l.map .int)
 |[]=>rfl
 |x::l=>by
  show(match mm (.int x),ee (l.map .int)with|some d,some Z=>some (d::Z)|_,_=>none)=_;rw [rr l];rfl
theorem xo:∀l:List Int,PyData.canLayAll0 (l.map .int)=true/\PyData.depthAll (l.map .int)=0
 |[]=>⟨rfl,rfl⟩
 |x::l=>by
  obtain⟨Y,Z⟩:=xo l;refine⟨?_,?_⟩
  .trivial
  .trivial
theorem pe(l:List Int):SeqAt.shaped (.list (l.map .int))=true:=by
 obtain⟨Y,Z⟩:=xo l;unfold SeqAt.shaped;simp only [PyData.canLay0,PyData.depth,Y,Z];rfl
theorem xS:∀a c:List Int,PyData.eqvAll (a.map .int) (c.map .int)=decide (a=c)
 |[],[]=>rfl
 |[],_::_=>rfl
 |_::_,[]=>rfl
 |x::a,y::c=>by
  simp only [cP,PyData.eqvAll,PyData.eqv,xS a c]
  by_cases Y:x=y<;>by_cases Z:a=c<;>simp [Y,Z]
theorem yS{neg:Bool}{i j:Nat}{a c:List Int}{σ:AS}(X:σ.st.lookup i=some (.list (a.map .int)))(Y:σ.st.lookup j=some (.list (c.map .int))):fH neg (.loc i) (.loc j) σ=some (.bool (if neg then !decide (a=c)else decide (a=c)),σ):=by
 unfold fH;have t:∀k l,σ.st.lookup k=some (.list (List.map PV.int l))->oT σ.st (.loc k)=some (.list (l.map .int)):=fun k l h=>by
  show(match σ.st.lookup k with|some (.list Z)=>(ee Z).map PyData.list|_=>none)=_;rw [h];dsimp only;rw [rr];rfl
 rw [t i a X,t j c Y,iO,iO,pe,pe,aC (by rfl:(true&&true)=true)];show some (PV.bool (if neg=true then !PyData.eqvAll _ _ else PyData.eqvAll _ _),σ)=_;rw [xS]
theorem kh(l:List Nat):au l=(l.map fun n:Nat=>(n:Int)).map .int:=by simp [au]
theorem Ht{l0 l2 l4 l5 l6:Option PV}:∀(N:Nat) (Y T:List Nat) (st:List (Nat×AO)) (Z:Nat),st.lookup 1=some (.list (sr T))->st.lookup 3=some (.list (au Y))->(∀x∈Y,x<5)->T.length+Y.length<=100->Y.length<N->4<=Z->
  vS fun W U=>sR (eE (aq (ae (aa 3) (bD aj) mJ)) (ap Cm ah) ah N ⟨[l0,cL 1,l2,cL 3,l4,l5,l6],st,Z⟩=some (.next,⟨[l0,cL 1,l2,cL 3,l4,l5,l6],W,U⟩)) (W.lookup 1=some (.list (sr (T++Y.reverse.map (65+·))))) ((∀i,i<4->i≠1->i≠3->W.lookup i=st.lookup i)) (4<=U)
 |0,Y,T,st,Z,_,_,_,_,h,_=>by exact(aH 0x2000421 rfl h:False).elim
 |N+1,Y,T,st,Z,F,G,H,O,v,S=>by
  have V:aq (ae (aa 3) (bD aj) mJ) ⟨[l0,cL 1,l2,cL 3,l4,l5,l6],st,Z⟩=some (!decide (Y=[]),⟨[l0,cL 1,l2,cL 3,l4,l5,l6],(Z,.list [])::st,Z+1⟩):=by
   have z:=yS (neg:=true) (i:=3) (j:=Z) (a:=Y.map fun n:Nat=>(n:Int)) (c:=[]) (σ:=⟨[l0,cL 1,l2,cL 3,l4,l5,l6],(Z,.list [])::st,Z+1⟩) (by show((Z,AO.list [])::st).lookup 3=_;rw [bg (by exact(fun X=>aH 0xc228800408022 rfl S X)),G,kh]) cx;have A:ae (aa 3) (bD aj) mJ ⟨[l0,cL 1,l2,cL 3,l4,l5,l6],st,Z⟩=some (.bool (!decide (Y=[])),⟨[l0,cL 1,l2,cL 3,l4,l5,l6],(Z,.list [])::st,Z+1⟩):=by
    refine ak (p:=.loc 3) (q:=.loc Z) rfl rfl ?_
    show fH true (.loc 3) (.loc Z) _=_;rw [z]
    congr 3
    cases Y<;>rfl
   exact aD A rfl
  rcases GP Y with h|⟨w,x,h⟩
  .subst h
   refine⟨(Z,.list [])::st,Z+1,?_,?_,fun i P _ _=>bg (by exact(fun X=>bb 0x100a24084010800408023 rfl S P X)),by exact aH 0x8400110200800408021 rfl S⟩
   .dsimp only [gX,gY]
    rw [V];rfl
   .rw [bg (by exact(fun X=>aH 0x4228800408022 rfl S X)),F];simp
  .have u:Y=w++[x]:=by rw [h,Iv]
   subst u;have R:(w++[x]).length=w.length+1:=by exact df
   have Q:=rY (nx:=Z+1) (l0:=l0) (l2:=l2) (l4:=l4) (l5:=l5) (l6:=l6) (st:=(Z,.list [])::st) (cs:=T) (ws:=w) (x:=x) (by rw [bg (by exact(fun X=>aH 0x4228800408022 rfl S X))];exact F) (by rw [bg (by exact(fun X=>aH 0xc228800408022 rfl S X))];exact G) (H x (by exact va _ oI)) (by exact(bb 0x3e82000008c840800010021 rfl O)) (by exact(ci 0x7d0410001084401040288c840800010022 rfl O R));obtain⟨W,U,e,C,E,D⟩:=Ht (l0:=l0) (l2:=l2) (l4:=l4) (l5:=l5) (l6:=l6) N w (T++[65+x]) (av (av ((Z,.list [])::st) 3 (.list (au w))) 1 (.list (sr (T++[65+x])))) (Z+1) aM (by rw [az (by decide)];exact aM) (fun y B=>H y (uq _ B)) (by simp;exact ci 0x3210400840010801084401040288c840800010022 rfl O R) (by exact(ci 0x1008010842200800144210804000422 rfl v R)) (by exact(aH 0x8400110200800408021 rfl S));refine⟨W,U,?_,?_,fun i P I M=>?_,D⟩
   .dsimp only [gX,gY]
    rw [V];have:(!decide (w++[x]=[]))=true:=by simp
    rw [this];dsimp only;rw [ad Q];exact e
   .rw [C];simp
   .rw [E i P I M,az I,az M,bg (by exact(fun X=>bb 0x100a24084010800408023 rfl S P X))]
noncomputable def al(l:List Nat):Str:=⟨l.toArray⟩
theorem Fh(g:Str)(U:g.cps=#[]):∀(Z:List Str),Builtin.Str.glued g Z=al ((Z.map fun p=>p.cps.toList).flatten):=by
 have W:∀(X:List Str) (Y:Array Nat),X.foldl (fun Y p=>Y++g.cps++p.cps) Y=(Y.toList++(X.map fun p=>p.cps.toList).flatten).toArray:=by
  intro X
  induction X with
  |nil=>intro Y;simp
  |cons p X V=>intro Y;rw [Bg,V,U];simp
 intro Z;unfold Builtin.Str.glued al;cases Z with
 |nil=>rfl
 |cons p X=>rw [W];rfl
theorem HW(l:List (List Nat)):Txt.join (Str.ofString "") (l.map al)=al l.flatten:=by
 show Builtin.Str.glued _ _=_;rw [Fh (Str.ofString "") rfl]
 congr 1
 induction l with
 |nil=>rfl
 |cons x l Z=>simp only [cP,fy,Z];dsimp only [al]
theorem BF(l:List (List Nat))(h:l.flatten.length<=1000000):JoinOk (Str.ofString "") (l.map al)=true:=by
 unfold JoinOk;have Z:∀(l:List (List Nat)) (n:Nat),(l.map al).foldl (fun a x=>a+x.length+(Str.ofString "").length) n=n+l.flatten.length:=by
  intro l
  induction l with
  |nil=>intro n;rfl
  |cons x l X=>intro n;rw [cP,Bg,X,show(Str.ofString "").length=0 from rfl,fy,df,show(al x).length=x.length by rfl];exact bB (ci 0x400804000840004200004210020 rfl) (ci 0x400042000042108010080010020 rfl)
 rw [<-Array.foldl_toList];show(!Builtin.Str.tooLong (((l.map al).foldl (fun a x=>a+x.length+(Str.ofString "").length) 0)))=true;rw [Z];unfold Builtin.Str.tooLong;rw [sizeLine_eq,mW,vd];exact fun Y=>aH 0x220020000006087d0900a000022 rfl h Y
theorem rb:∀l:List Str,iV (l.map .str)=some l
 |[]=>rfl
 |x::l=>by simp [Ei,EF,rb l]
theorem pX{i:Nat}{l:List (List Nat)}{σ:AS}(h:σ.st.lookup i=some (.list ((l.map al).map .str)))(Z:l.flatten.length<=1000000):ia [.str "",.loc i] σ=some (.str (al l.flatten),σ):=by
 rw [wn,jE h];show(iV _).bind _=_;rw [rb];show(if _ then _ else _)=_;rw [BF l Z,aC rfl,HW]
noncomputable def dt(Z:List Int)(k Y:Nat):Nat:=(Int.fmod ((Z[k]?).getD 0) Y).toNat
noncomputable def oN(Z:List Int)(k Y:Nat):Nat:=(Int.fmod (Int.fdiv ((Z[k]?).getD 0) Y) 2).toNat
noncomputable def Bz(Z:List Int):List Nat->List Nat×List Nat->List Nat->Nat->(List Nat×List Nat)×List Nat
 |[],a,X,_=>(a,X)
 |k::W,a,X,Y=>Bz Z W (bT a k (dt Z k Y)) (X++[oN Z k Y]) (dt Z k Y+2)
theorem Pe(cells a sd w1_):Bz cells [] a sd w1_=((a,sd)):=rfl
theorem Pk(cells k ks a sd room):Bz cells (k::ks) a sd room=(Bz cells ks (bT a k (dt cells k room)) (sd++[oN cells k room]) (dt cells k room+2)):=rfl
theorem CA{cells:List Int}{nx:Nat}(H:cells.length<=1000):∀(Y:List Nat) (a:List Nat×List Nat) (W:List Nat) (Z:Nat) (st:List (Nat×AO)) (G Q:Option PV),(∀k∈Y,k<5/\k<cells.length)->
  st.lookup 0=some (.list (cells.map .int))->st.lookup 1=some (.list (sr a.1))->st.lookup 2=some (.list (au W))->st.lookup 3=some (.list (au a.2))->
  a.2.length+1=Z->(∀x∈a.2,x<5)->Z+Y.length<=10->a.1.length+a.2.length+2*Y.length<=20->W.length+Y.length<=20->
  Te fun X O P R=>Um (dZ (am 5) uW ah (au Y) ⟨[cL 0,cL 1,cL 2,cL 3,cI (Z:Int),G,Q],st,nx⟩=some (.next,⟨[cL 0,cL 1,cL 2,cL 3,O,P,R],X,nx⟩)) (X.lookup 0=some (.list (cells.map .int))) (X.lookup 1=some (.list (sr (Bz cells Y a W Z).1.1))) (X.lookup 2=some (.list (au (Bz cells Y a W Z).2))) (X.lookup 3=some (.list (au (Bz cells Y a W Z).1.2))) ((∀x∈(Bz cells Y a W Z).1.2,x<5)) ((Bz cells Y a W Z).1.1.length+(Bz cells Y a W Z).1.2.length=a.1.length+a.2.length+2*Y.length)
 |[],a,W,Z,st,G,Q,_,w,z,A,B,V,F,_,_,_=>⟨st,_,G,Q,rfl,w,z,A,B,F,by simp [Pe,Pk]⟩
 |k::Y,a,W,Z,st,G,Q,s,w,z,A,B,V,F,t,u,v=>by
  obtain⟨I,C⟩:=s k (.head _);have T:(k::Y).length=Y.length+1:=rfl;rw [T]at t u v
  have c:cells[k]?=some ((cells[k]?).getD 0):=by rw [fC C];rfl
  obtain⟨S,e,g,i,j,l⟩:=wc (nx:=nx) (l6:=Q) (cs:=a.1) (ws:=a.2) (sd:=W) (k:=k) (room:=Z) w z A B c H I ⟨by exact bb 0x8001084200840010821 rfl V,by exact bb 0x28200002a084210080010021 rfl t⟩ V F (by exact(ci 0x1910000068108440108610000210021 rfl u)) (by exact(bb 0x1908000034084210080010021 rfl v));have p1:=kq ((cells[k]?).getD 0) (show(0:Int)<Z by exact bb 0x2048029484200840010821 rfl V);have f:=lH ((cells[k]?).getD 0) (show(0:Int)<Z by exact bb 0x2048029484200840010821 rfl V);have N:dt cells k Z<Z:=by unfold dt;exact(kR 0 ((cells[k]?.getD 0).fmod ↑Z)).elim (fun E=>qf 0x40108101025410012042422 rfl f (cG (pJ E))) (fun E=>ci 0x201002100440104200840010822 rfl V (Bc (Jq E)))
  have U:(bT a k (dt cells k Z)).2.length=dt cells k Z+1:=by simp [bT];exact bB (bb 0x1000000840000821 rfl (fM (Je V N))) (JO (fM (Je V N)))
  have M:(bT a k (dt cells k Z)).1.length=a.1.length+(a.2.length-dt cells k Z)+1:=by simp [bT];exact bB (bb 0x42100002104210080010020 rfl) (bb 0x42100800104210000210020 rfl)
  obtain⟨X,O,P,R,b,m,n,o,p,q,r⟩:=CA (cells:=cells) (nx:=nx) H Y (bT a k (dt cells k Z)) (W++[oN cells k Z]) (dt cells k Z+2) S (some (.int (k:Int))) (some (.int (dt cells k Z:Int))) (fun y d=>s y (.tail _ d)) g i j l (by exact(bB (bb 0x410804108002004210804000821 rfl U) (bb 0x210004208402004210804000a21 rfl U))) (fun x D=>by
   rcases kQ.mp D with h|h
   .exact F x (GJ h)
   .rw [cJ.mp h];exact I) (by exact(ci 0x28210082200840080020042a084210080010022 rfl t N)) (by exact(UF 0x28110043180a010801080803004208426000021140208424008601068108440108610000210024 rfl u U M (aA (Je V N)))) (by simp;exact KY v)
  exact⟨X,O,P,R,(bj (σ₁:=⟨[cL 0,cL 1,cL 2,cL 3,cI (Z:Int),cI (k:Int),Q],st,nx⟩) rfl e).trans b,m,n,o,p,q,by rw [show(Bz cells (k::Y) a W Z)=Bz cells Y (bT a k (dt cells k Z)) (W++[oN cells k Z]) (dt cells k Z+2)from rfl,r,M,U,T];exact bB (nL 0x84801086200c021100218421008210006010842004400800010821 rfl (aA (Je V N))) (nL 0x20043084201042000c02108410900210c4018042004400800010a21 rfl (aA (Je V N)))⟩
noncomputable def md(Z:List Int):List Nat:=(Bz Z [0,1,2,3,4] ([],[]) [] 1).1.1++((Bz Z [0,1,2,3,4] ([],[]) [] 1).1.2.reverse.map (65+·))
noncomputable def wg(Z:List Int):List Nat:=(Bz Z [0,1,2,3,4] ([],[]) [] 1).2
noncomputable def Fi:bO:=cB Dd xB yM (fun _=>[]) [] (fun n=>Dk 100 n)
theorem Nt(a:AO):dw Dd xB yM ([.loc 0]++[]) ([a]++[])=⟨[cL 0,none,none,none,none,none,none],[(0,a)],1⟩:=by left
theorem QH(Z:List Nat):sr Z=((Z.map fun c=>[c]).map al).map .str:=by simp [sr,al]
theorem pf(Z:List Nat):(Z.map fun c=>[c]).flatten=Z:=by induction Z with|nil=>rfl|cons c Z Y=>simp [Y]
theorem QW{Z:List Int}(M:Z.length=7):Fi [.loc 0] [.list (Z.map .int)]=some (.tup [.str (al (md Z)),.loc 1],[.list (Z.map .int)],[.list (au (wg Z))]):=by
 unfold Fi;rw [cc (σ:=⟨[cL 0,none,none,none,none,none,none],[(0,.list (Z.map .int))],1⟩) rfl (Nt _)];unfold Dk;obtain⟨W,T,U,V,Q,D,E,F,G,H,P⟩:=CA (cells:=Z) (nx:=4) (by exact(MA M)) [0,1,2,3,4] ([],[]) [] 1 [(3,.list []),(2,.list []),(1,.list []),(0,.list (Z.map .int))] none none (by rw [M];decide) rfl rfl rfl rfl rfl (by trivial) (by decide) (by decide) (by decide);obtain⟨Y,X,R,I,O,C⟩:=Ht (l0:=some (.loc 0)) (l2:=some (.loc 2)) (l4:=T) (l5:=U) (l6:=V) 100 _ _ W 4 E G H (by rw [P];decide) (by rw [show(([],[]):List Nat×List Nat).1.length+(([],[]):List Nat×List Nat).2.length+2*[0,1,2,3,4].length=10 from rfl]at P;omega) (by decide);rw [ad (σ₁:=⟨[cL 0,cL 1,none,none,none,none,none],[(1,.list []),(0,.list (Z.map .int))],2⟩) rfl];rw [ad (σ₁:=⟨[cL 0,cL 1,cL 2,none,none,none,none],[(2,.list []),(1,.list []),(0,.list (Z.map .int))],3⟩) rfl];rw [ad (σ₁:=⟨[cL 0,cL 1,cL 2,cL 3,none,none,none],[(3,.list []),(2,.list []),(1,.list []),(0,.list (Z.map .int))],4⟩) rfl];rw [ad (σ₁:=⟨[cL 0,cL 1,cL 2,cL 3,cI 1,none,none],[(3,.list []),(2,.list []),(1,.list []),(0,.list (Z.map .int))],4⟩) rfl];rw [ad (σ₁:=⟨[cL 0,cL 1,cL 2,cL 3,T,U,V],W,4⟩) (by rw [bW (k:=.rng 0 5) (ps:=au [0,1,2,3,4]) rfl rfl (by decide)];exact Q)];rw [ad R];have N:=pX (σ:=⟨[cL 0,cL 1,cL 2,cL 3,T,U,V],Y,X⟩) (i:=1) (l:=(md Z).map fun c=>[c]) (by rw [<-QH];exact I) (by
  rw [pf];unfold md;simp only [df,cW,BK];rw [P];decide)
 rw [pf]at N
 have S:bF (ey (ac (aK "str" (ab (.str "")) (ac (aa 1) aj) ia) (ac (aa 2) aj))) ⟨[cL 0,cL 1,cL 2,cL 3,T,U,V],Y,X⟩=some (.ret (.tup [.str (al (md Z)),.loc 2]),⟨[cL 0,cL 1,cL 2,cL 3,T,U,V],Y,X⟩):=by
  exact cT (fN (aw (ca rfl jB rfl N) (aw (g:=aj) rfl rfl)) (by show 2<=2^20;decide))
 rw [aG S];show fb 1 (.tup [.str (al (md Z)),.loc 2]) ⟨_,Y,X⟩=_;exact dn (ids:=[0,2]) rfl (bM (by rw [O 0 (by decide) (by decide) (by decide)];exact D) (eW _) (bM (by rw [O 2 (by decide) (by decide) (by decide)];exact F) (by rw [kh];exact qS _) rfl)) rfl
noncomputable def iP:List Nat->List Nat->Bool
 |[],_=>true
 |_::_,[]=>false
 |x::Y,y::Z=>cond (Nat.beq x y) (iP Y Z) false
theorem qi(w1_):iP [] w1_=(true):=rfl
theorem qp(Z w2_):iP (Z::w2_) []=(false):=rfl
theorem qk(x xs y ys):iP (x::xs) (y::ys)=(cond (Nat.beq x y) (iP xs ys) false):=rfl
noncomputable def ka(b:List Nat)(X W:Nat):Nat->List Nat->Nat->Nat->Nat->List Nat
 |0,_,_,_,_=>[]
 |n+1,s,i,Z,Y=>cond (cond (Nat.beq Y 0) false (cond (Nat.ble Z i) (cond (Nat.ble (i+X) W) (iP b s) false) false)) (i::ka b X W n s.tail (i+1) (i+X) (Y-1)) (ka b X W n s.tail (i+1) Z Y)
theorem pZ(b bl hi w1_ w2_ w3_ w4_):ka b bl hi 0 w1_ w2_ w3_ w4_=([]):=rfl
theorem qa(b bl hi n s i free lim):ka b bl hi (n+1) s i free lim=(cond (cond (Nat.beq lim 0) false (cond (Nat.ble free i) (cond (Nat.ble (i+bl) hi) (iP b s) false) false)) (i::ka b bl hi n s.tail (i+1) (i+bl) (lim-1)) (ka b bl hi n s.tail (i+1) free lim)):=rfl
theorem nc:∀(b s:List Nat),iP b s=true↔s.take b.length=b
 |[],s=>by simp [qi,qp,qk]
 |x::Z,[]=>by simp [qi,qp,qk]
 |x::Z,y::Y=>by
  have X:=nc Z Y;dsimp only [qi,qp,qk];cases h:Nat.beq x y
  .simp only [eM,cm,It]
   have:x≠y:=fun e=>by rw [e,uu]at h;exact absurd h (by decide)
   simp;intro e;exact absurd e.symm this
  .have:=ip h
   subst this;simp [X]
theorem qW(a b:List Nat)(i:Nat):Builtin.Str.subAt (al a) (al b) i=iP b (a.drop i):=by
 have h:(Builtin.Str.subAt (al a) (al b) i=true)↔iP b (a.drop i)=true:=by
  rw [nc];unfold Builtin.Str.subAt al Str.length;simp only [iS,List.extract_toArray,uO];constructor
  .intro e
   have:=bv Array.toList e
   simpa [Bq]using this
  .intro e
   simp [Bq,e]
 cases Y:Builtin.Str.subAt (al a) (al b) i<;>cases Z:iP b (a.drop i)<;>simp_all
theorem zN(a b:List Nat)(X Z:Nat):∀(n i:Nat) (st:Array Nat×Nat),(forIn (m:=Id) (List.range' i n) st (StrLaws.occBody (al a) (al b) X Z)).run.fst.toList=st.1.toList++ka b b.length X n (a.drop i) i st.2 (Z-st.1.size)
 |0,i,st=>by simp [pZ,qa]
 |n+1,i,st=>by
  have P:(al b).length=b.length:=by rfl
  rw [Ke,qE];have O:(a.drop i).tail=a.drop (i+1):=by rw [IE]
  unfold StrLaws.occBody;rw [P,qW];dsimp only [pZ,qa];rw [O]
  by_cases U:((st.fst.size<Z/\st.snd<=i)/\i+b.length<=X)/\iP b (a.drop i)=true
  .rw [aC U]
   obtain⟨⟨⟨V,S⟩,T⟩,Q⟩:=U;have N:Nat.beq (Z-st.1.size) 0=false:=by
    cases h:Nat.beq (Z-st.1.size) 0
    .rfl
    .have:=ip h;exact(ci 0x200004010a20088020840000423 rfl V this (aA (hV V)):False).elim
   rw [N,fX S,fX T,Q];have R:=zN a b X Z n (i+1) (st.1.push i,i+b.length);simp only [fm,eM];show(forIn (m:=Id) (List.range' (i+1) n) (st.1.push i,i+b.length) (StrLaws.occBody (al a) (al b) X Z)).run.fst.toList=_;rw [R];simp only [IB,Array.size_push,iH,Jp];rw [show Z-(st.1.size+1)=Z-st.1.size-1 by exact bB ((dP (st.fst.size+1) (Z)).elim (fun Y=>(dP (1) (Z-st.fst.size)).elim (fun W=>nL 0x400c000800109002144400842010c02104400800010a23 rfl (aA (wj Y)) (aA (qj Y)) (aA (Fy W))) (fun W=>nL 0x20060004012005110021080430084110020000428842000024 rfl W (aA (wj Y)) (aA (qj Y)) (eg (Hp W)))) (fun Y=>bb 0x1000000802000821 rfl (eg (bb 0x42100800004210804000021 rfl Y)))) ((dP (1) (Z-st.fst.size)).elim (fun Y=>(dP (st.fst.size) (Z)).elim (fun W=>nL 0x400c000880108402200428800108c02104400800010823 rfl (aA (dY W)) (aA (Fy Y)) (aA (ci 0x2004210080110020000420800108022 rfl Y (aA (dY W))))) (fun W=>(aH 0x80020800108022 rfl Y (eg (dY W)):False).elim)) (fun Y=>bb 0x1000000802000821 rfl (eg (Hp Y))))]
  .rw [aF U]
   have R:=zN a b X Z n (i+1) (st.1,st.2);have e:(cond (Nat.beq (Z-st.1.size) 0) false (cond (Nat.ble st.2 i) (cond (Nat.ble (i+b.length) X) (iP b (a.drop i)) false) false))=false:=by
    by_cases V:st.fst.size<Z
    .by_cases S:st.snd<=i
     .by_cases T:i+b.length<=X
      .have Q:iP b (a.drop i)=false:=by
        cases h:iP b (a.drop i)
        .rfl
        .exact absurd ⟨⟨⟨V,S⟩,T⟩,h⟩ U
       rw [Q];cases Nat.beq (Z-st.1.size) 0<;>cases Nat.ble st.2 i<;>cases Nat.ble (i+b.length) X<;>rfl
      .have:Nat.ble (i+b.length) X=false:=by cases h:Nat.ble (i+b.length) X;rfl;exact absurd (fJ h) T
       rw [this];cases Nat.beq (Z-st.1.size) 0<;>cases Nat.ble st.2 i<;>rfl
     .have:Nat.ble st.2 i=false:=by cases h:Nat.ble st.2 i;rfl;exact absurd (fJ h) S
      rw [this];cases Nat.beq (Z-st.1.size) 0<;>rfl
    .have:Z-st.1.size=0:=by exact bB (aH 0x80000802000821 rfl (eg (pU V))) (aH 0x8020 rfl)
     rw [this];rfl
   rw [e,eM];exact R
theorem vF(a b:List Nat)(lo Y Z:Nat):Builtin.Str.occurrences (al a) (al b) lo Y Z=ka b b.length Y (Y+1-lo) (a.drop lo) lo lo Z:=by
 rw [StrLaws.occ_eq,zN];rfl
theorem bS(l:List Nat):(al l).length=l.length:=by rfl
theorem Db{a b:List Nat}:al a=al b↔a=b:=by
 constructor
 .intro h;have:=bv (fun x:Str=>x.cps.toList) h;simpa [al]using this
 .intro h;rw [h]
noncomputable def mV:List Nat->Bool|[]=>true|_::_=>false
noncomputable def eP(a b:List Nat):Bool:=cond (mV (ka b b.length a.length (a.length+1) a 0 0 1)) false true
theorem su(a b:List Nat):CC (al a) (al b)=eP a b:=by
 unfold CC eP;rw [bS,vF];rw [Nat.sub_zero,vK];cases ka b b.length a.length (a.length+1) a 0 0 1<;>rfl
noncomputable def nr(a b:List Nat):Bool:=iP b a
theorem Fb(a b:List Nat):Txt.startswith (al a) (al b)=nr a b:=by
 unfold Txt.startswith nr;rw [qW,bS,bS,vK];cases h:iP b a
 .simp
 .have:=(nc b a).mp h
  have:=bv List.length this;rw [oY]at this
  simp;exact ci 0x80100022000000840000a22 rfl this (Nat.min_le_right (b.length) (a.length))
noncomputable def ty(a b:List Nat):Bool:=cond (Nat.ble b.length a.length) (iP b (a.drop (a.length-b.length))) false
theorem Mi(a b:List Nat):Txt.endswith (al a) (al b)=ty a b:=by
 unfold Txt.endswith ty;rw [qW,bS,bS,As]
 by_cases h:b.length<=a.length
 .rw [fX h];simp [h]
 .have:Nat.ble b.length a.length=false:=by cases Z:Nat.ble b.length a.length;rfl;exact absurd (fJ Z) h
  rw [this];simp [h]
noncomputable def Uw:List Nat->Option Nat|[]=>none|k::_=>some k
noncomputable def xN(a b:List Nat)(lo Z:Nat):Option Nat:=Uw (ka b b.length Z (Z+1-lo) (a.drop lo) lo lo 1)
theorem LU(a b:List Nat){lo Y:Nat}(U:lo<=a.length)(X:Y<=a.length):tU (al a) (al b) lo Y=(match xN a b lo Y with|some k=>(k:Int)|none=>-1):=by
 unfold tU xN;have V:fromIndex (al a).length (lo:Int)=lo:=by
  unfold fromIndex;rw [bS,aF (by exact(fun Z=>xY Z))];exact bB ((kR 0 (max 0 ↑lo)).elim (fun Z=>qf 0x1000000840902141020004a822 rfl (cG (pJ Z)) (pw (sD))) (fun Z=>bb 0x1000000802000821 rfl (Bc (Jq Z)))) ((kR 0 (max 0 ↑lo)).elim (fun Z=>qf 0x4000840902151020004aa22 rfl (cG (pJ Z)) (pw (sD))) (fun Z=>qf 0x1000210240854401000510052042023 rfl Z (Bc (Jq Z)) (pw (sD))))
 have W:min (fromIndex (al a).length (Y:Int)) (al a).length=Y:=by
  unfold fromIndex;rw [bS,aF (by exact(fun Z=>xY Z)),pw (mS _),fp];exact fM X
 rw [W,V,vF];cases ka b b.length Y (Y+1-lo) (a.drop lo) lo lo 1<;>rfl
noncomputable def km(a:List Nat)(w:Nat):Nat->List Nat->List (List Nat)
 |i,[]=>[(a.drop i)]
 |i,c::Z=>((a.drop i).take (c-i))::km a w (c+w) Z
theorem tI(a w i):km a w i []=([(a.drop i)]):=rfl
theorem tK(a w i c cs):km a w i (c::cs)=(((a.drop i).take (c-i))::km a w (c+w) cs):=rfl
noncomputable def my(a b:List Nat):List (List Nat):=km a b.length 0 (ka b b.length a.length (a.length+1) a 0 0 (a.length+1))
theorem tu(a:List Nat)(i j:Nat):Builtin.Str.strSub (al a) i j=al ((a.drop i).take (j-i)):=by
 unfold Builtin.Str.strSub al;simp [Bq]
theorem yT(a:List Nat)(w:Nat):∀(Z:List Nat) (i:Nat),((i::Z.map (·+w)).zip (Z++[a.length])).map (fun(i,j)=>Builtin.Str.strSub (al a) i j)=(km a w i Z).map al
 |[],i=>by
  simp only [List.map_nil,pp,sk,List.zip_nil_right,cP,tI,tK,tu];rw [rV (by simp)]
 |c::Z,i=>by
  have Y:=yT a w Z (c+w);simp only [cP,oJ,sk,tI,tK,tu]at Y ⊢
  rw [<-Y]
theorem xc(a:List Nat)(Z:List Nat)(w:Nat):Builtin.Str.partsBetween (al a) Z w=(km a w 0 Z).map al:=by
 unfold Builtin.Str.partsBetween;rw [bS];exact yT a w Z 0
theorem qU(b:List Nat)(W:Nat):∀(n:Nat) (s:List Nat) (i Z Y:Nat),s.length<b.length->ka b b.length W n s i Z Y=[]
 |0,_,_,_,_,_=>rfl
 |n+1,s,i,Z,Y,h=>by
  have:iP b s=false:=by
   cases V:iP b s
   .rfl
   .have:=bv List.length ((nc b s).mp V);rw [oY]at this;exact(ci 0x200821008028840000423 rfl h this (mL (hV h)):False).elim
  dsimp only [pZ,qa];rw [this,qU b W n s.tail (i+1) Z Y (by simp;exact(dP (1) (s.length)).elim (fun X=>ci 0x201002100021100420840000422 rfl h (aA (Fy X))) (fun X=>ci 0x40200420088020840000422 rfl h (eg (Hp X))))];cases Nat.beq Y 0<;>cases Nat.ble Z i<;>cases Nat.ble (i+b.length) W<;>rfl
theorem Hi(a b:List Nat)(X:∀x∈b,x<256):Txt.split (al a) (al b)=(my a b).map al:=by
 unfold Txt.split my;rw [bS,bS,vF];rw [Nat.sub_zero,vK];have Y:(Builtin.Str.strKind (al a)<Builtin.Str.strKind (al b))=False:=by
  have:Builtin.Str.strKind (al b)=1:=by
   unfold Builtin.Str.strKind al;rw [aC]
   simpa using X
  rw [this];unfold Builtin.Str.strKind
  repeat' split
  all_goals simp
 simp only [Y,decide_false,Bool.or_false,gJ]
 by_cases Z:a.length<b.length
 .rw [aC Z,qU _ _ _ _ _ _ _ Z]
  rfl
 .rw [aF Z]
  cases W:ka b b.length a.length (a.length+1) a 0 0 (a.length+1)with
  |nil=>rfl
  |cons c V=>rw [aF (by exact(fun h=>mU h)),<-xc]
noncomputable abbrev bn:List Nat:=[46,46,46]
theorem yI:Str.ofString "..."=al bn:=by left
noncomputable def aE(l:List (List Nat)):List PV:=(l.map al).map .str
theorem dT(l:List (List Nat)):(aE l).length=l.length:=by simp [aE]
noncomputable def oW:List Nat->List Nat->Bool
 |[],[]=>true
 |x::Y,y::Z=>cond (Nat.beq x y) (oW Y Z) false
 |_,_=>false
theorem zY:oW [] []=(true):=rfl
theorem Pc(y:Nat)(Z:List Nat):oW [] (y::Z)=false:=rfl
theorem Pf(y:Nat)(Z:List Nat):oW (y::Z) []=false:=rfl
theorem AC(x xs y ys):oW (x::xs) (y::ys)=(cond (Nat.beq x y) (oW xs ys) false):=rfl
theorem jL:∀a b:List Nat,oW a b=true↔a=b
 |[],[]=>by trivial
 |[],_::_=>by simp [Pc]
 |_::_,[]=>by simp [Pf]
 |x::Y,y::Z=>by
  have X:=jL Y Z;dsimp only [zY,AC];cases h:Nat.beq x y
  .have:x≠y:=fun e=>by rw [e,uu]at h;exact absurd h (by decide)
   simp [this]
  .have:=ip h
   subst this;simp [X]
theorem jK(a b:List Nat):(al a==al b)=oW a b:=by
 have X:(al a==al b)=true↔oW a b=true:=by rw [jL,iS,Db]
 cases Y:(al a==al b)<;>cases Z:oW a b<;>simp_all
noncomputable def tv(Z:List Nat):List (List Nat)->Nat->Nat->Option Bool
 |[],_,_=>some true
 |w::Y,s,e=>match xN Z w s e with
  |none=>some false
  |some k=>cond (Nat.ble (k+w.length) e) (tv Z Y (k+w.length) e) none
theorem Gr(got w1_ w2_):tv got [] w1_ w2_=(some true):=rfl
theorem Ii(got w ws s e):tv got (w::ws) s e=(match xN got w s e with
  |none=>some false
  |some k=>cond (Nat.ble (k+w.length) e) (tv got ws (k+w.length) e) none):=rfl
noncomputable def vT(Z:List Nat)(Y:List (List Nat))(s e:Nat):Option Bool:=cond (Nat.ble s e) (tv Z Y s e) (some false)
noncomputable def pW(Z:List Nat)(Y:List (List Nat))(s:Nat):Option Bool:=
 match Y.getLast? with
 |none=>none
 |some w=>cond (mV w) (vT Z Y s Z.length) (cond (ty Z w) (vT Z Y.dropLast s (Z.length-w.length)) (some false))
noncomputable def nT(Z Y:List Nat):Option Bool:=
 cond (eP Z bn) (match my Z bn with
  |w::v::X=>cond (Nat.ble X.length 90) (cond (mV w) (pW Y (w::v::X) 0) (cond (nr Y w) (pW Y (v::X) w.length) (some false))) none
  |_=>none) (some (oW Z Y))
noncomputable def sX:bO:=cB Dt xf yr (fun _=>[]) [] (fun n=>xu 100 n)
theorem Na(a b:PV):dw Dt xf yr ([a,b]++[]) ([]++[])=⟨[some a,some b,none,none,none,none],[],0⟩:=by left
theorem xQ(st:List (Nat×AO)){a:List Nat}(h:a.length<=1000):jC st (.str (al a))=some (!mV a):=by
 unfold jC;dsimp only;rw [bS,aC (bJ h (by decide))];cases a with
 |nil=>rfl
 |cons x Y=>simp [mV];exact fun Z=>aH 0xa4214800912821 rfl Z
noncomputable abbrev Cc:SR:=(ap (ai (aK "str" (aa 1) (ac (aa 5) (ac (aa 3) (ac (aa 4) aj))) Ck) (am 3))
 (ap (di (aq (ae (aa 3) (ab (.int 0)) mQ)) (ap (bF (ab (.bool false))) ah) ah)
 (ap (fA (aa 3) (aB cX (ac (aa 5) aj)) jg (am 3))
 ah)))
theorem nK{p:PV}{Z:List PV}{σ:AS}{i j:Nat}(Y:σ.st.lookup i=some (.list Z))(X:Z[j]?=some p):gZ σ (.lst i j)=some (some (p,.lst i (j+1))):=by
 show(dN (σ.st.lookup i)).bind _=_;rw [Y];show some ((Z[j]?).map _)=_;rw [X];rfl
theorem nJ{Z:List PV}{σ:AS}{i j:Nat}(Y:σ.st.lookup i=some (.list Z))(X:Z[j]?=none):gZ σ (.lst i j)=some none:=by
 show(dN (σ.st.lookup i)).bind _=_;rw [Y];show some ((Z[j]?).map _)=_;rw [X];rfl
theorem zg{X:TR}{f o:SR}{p:PV}{W Y:List PV}{σ σ₁ Z:AS}{n i j:Nat}(V:σ.st.lookup i=some (.list W))(T:W.drop j=p::Y)(h:X p σ=some σ₁)(S:f σ₁=some (.next,Z)):iz X f o (n+1) (.lst i j) σ=iz X f o n (.lst i (j+1)) Z:=by
 have U:W[j]?=some p:=by
  have:=bv List.head? T
  rwa [lJ]at this
 show(match gZ σ (.lst i j)with|some (some (p,R))=>_|some none=>_|none=>_)=_;rw [nK V U];dsimp only;rw [h];dsimp only;rw [S]
theorem Lb{V:TR}{f o:SR}{p q:PV}{X Y:List PV}{σ σ₁ Z:AS}{n i j:Nat}(W:σ.st.lookup i=some (.list X))(T:X.drop j=p::Y)(h:V p σ=some σ₁)(S:f σ₁=some (.ret q,Z)):iz V f o (n+1) (.lst i j) σ=some (.ret q,Z):=by
 have U:X[j]?=some p:=by
  have:=bv List.head? T
  rwa [lJ]at this
 show(match gZ σ (.lst i j)with|some (some (p,R))=>_|some none=>_|none=>_)=_;rw [nK W U];dsimp only;rw [h];dsimp only;rw [S]
theorem Dq{X:TR}{f o:SR}{Z:List PV}{σ:AS}{n i j:Nat}(Y:σ.st.lookup i=some (.list Z))(V:Z.drop j=[]):iz X f o (n+1) (.lst i j) σ=o σ:=by
 have W:Z[j]?=none:=by
  have:=bv List.head? V
  rwa [lJ]at this
 show(match gZ σ (.lst i j)with|some (some (p,U))=>_|some none=>_|none=>_)=_;rw [nJ Y W]
theorem dH{Y:Type}{X Z:List Y}{j:Nat}{p:Y}(h:X.drop j=p::Z):X.drop (j+1)=Z:=by
 rw [<-IE,h];rfl
theorem rI{n:Nat}{e:ER}{tg:TR}{f o:SR}{Z σ₁:AS}{i:Nat}{ps:List PV}(h:e Z=some (.loc i,σ₁))(Y:σ₁.st.lookup i=some (.list ps)):dD n (dj e) tg f o Z=iz tg f o n (.lst i 0) σ₁:=by
 have X:dj e Z=some (.lst i 0,σ₁):=(aY h).trans (by show((dN (σ₁.st.lookup i)).bind _).bind _=_;rw [Y];rfl);unfold dD;rw [X]
theorem OF{Z:List Nat}(C:Z.length<=1000){l0 l2:Option PV}{st:List (Nat×AO)}{nx:Nat}{e:Nat}(N:e<=Z.length){r:Bool}{i:Nat}{M:List PV}(X:st.lookup i=some (.list M)):∀(V:List (List Nat)) (s:Nat) (S:Option PV) (j n:Nat),M.drop j=aE V->V.length<n->(∀w∈V,w.length<=1000)->s<=e->tv Z V s e=some r->
  ∃W,iz (am 5) Cc ah n (.lst i j) ⟨[l0,cS (al Z),l2,cI (s:Int),cI (e:Int),S],st,nx⟩=some (if r then .next else .ret (.bool false),W)
 |_,s,S,j,0,_,R,_,_,h=>absurd R (ix _)
 |[],s,S,j,n+1,U,R,_,_,h=>by obtain rfl:=aZ h;exact⟨_,Dq (σ:=⟨_,st,nx⟩) X U⟩
 |w::V,s,S,j,n+1,U,R,I,E,h=>by
  have Q:=I w (.head _);have Y:ai (aK "str" (aa 1) (ac (aa 5) (ac (aa 3) (ac (aa 4) aj))) Ck) (am 3) ⟨[l0,cS (al Z),l2,cI (s:Int),cI (e:Int),cS (al w)],st,nx⟩=some (.next,⟨[l0,cS (al Z),l2,cI (tU (al Z) (al w) s e),cI (e:Int),cS (al w)],st,nx⟩):=rfl;rw [LU Z w (bJ E N) N]at Y
  dsimp only [Gr,Ii]at h
  cases H:xN Z w s e with
  |none=>
   rw [H]at h Y
   obtain rfl:=aZ h;exact⟨⟨[l0,cS (al Z),l2,cI (-1),cI (e:Int),cS (al w)],st,nx⟩,Lb (σ:=⟨_,st,nx⟩) X U (σ₁:=⟨[l0,cS (al Z),l2,cI (s:Int),cI (e:Int),cS (al w)],st,nx⟩) rfl ((ad Y).trans rfl)⟩
  |some k=>
   rw [H]at h Y
   dsimp only at h Y
   by_cases O:k+w.length<=e
   .rw [fX O,fm]at h
    obtain⟨W,A⟩:=OF C (l0:=l0) (l2:=l2) (st:=st) (nx:=nx) N X V (k+w.length) (some (.str (al w))) (j+1) n (dH U) (AU R) (fun v F=>I v (.tail _ F)) O h;refine⟨W,(zg (σ:=⟨_,st,nx⟩) X U (σ₁:=⟨[l0,cS (al Z),l2,cI (s:Int),cI (e:Int),cS (al w)],st,nx⟩) rfl ?_).trans A⟩;refine(ad Y).trans ?_
    have P:aq (ae (aa 3) (ab (.int 0)) mQ) ⟨[l0,cS (al Z),l2,cI (k:Int),cI (e:Int),cS (al w)],st,nx⟩=some (false,⟨[l0,cS (al Z),l2,cI (k:Int),cI (e:Int),cS (al w)],st,nx⟩):=
     aD (ak rfl rfl rfl) (by show some (decide ((k:Int)<0))=_;rw [fh (by exact(fun G=>xY G))])
    refine(ad (bq P)).trans ?_
    have D:cX [.str (al w)] ⟨[l0,cS (al Z),l2,cI (k:Int),cI (e:Int),cS (al w)],st,nx⟩=some (.int (w.length:Int),⟨[l0,cS (al Z),l2,cI (k:Int),cI (e:Int),cS (al w)],st,nx⟩):=by
     show(if(al w).length<=2^30 then some (PV.int ((al w).length:Nat),_)else none)=_;rw [bS,aC (bJ Q (by decide))]
    have T:fA (aa 3) (aB cX (ac (aa 5) aj)) jg (am 3) ⟨[l0,cS (al Z),l2,cI (k:Int),cI (e:Int),cS (al w)],st,nx⟩=some (.next,⟨[l0,cS (al Z),l2,cI ((k+w.length:Nat):Int),cI (e:Int),cS (al w)],st,nx⟩):=by
     exact oy rfl (bN (aw (g:=aj) rfl rfl) D) rfl rfl
    exact ad T
   .have:Nat.ble (k+w.length) e=false:=by cases B:Nat.ble (k+w.length) e;rfl;exact absurd (fJ B) O
    rw [this]at h;exact aW h
theorem ut{a b:Nat}(h:¬a<=b):Nat.ble a b=false:=by cases Z:Nat.ble a b;rfl;exact absurd (fJ Z) h
theorem qP{a:List Nat}{Z:AS}(h:a.length<=1000):cX [.str (al a)] Z=some (.int (a.length:Int),Z):=by
 show(if(al a).length<=2^30 then some (PV.int ((al a).length:Nat),_)else none)=_;rw [bS,aC (bJ h (by decide))]
theorem qm{Z:List PV}{σ:AS}{i:Nat}(Y:σ.st.lookup i=some (.list Z))(h:Z.length<=1000):cX [.loc i] σ=some (.int (Z.length:Int),σ):=by
 show(yy (σ.st.lookup i)).bind _=_;rw [Y];exact aC (bJ h (by decide))
theorem lO{n:Nat}(h:0<n):seqIndex? (-1) n=some (n-1):=by
 unfold seqIndex?;have e:(if(-1:Int)<0 then(-1:Int)+n else -1)=-1+n:=aC (by decide);simp only [e];have:(decide ((0:Int)<=-1+(n:Int))&&decide (-1+(n:Int)<(n:Int)))=true:=by simp;exact⟨aH 0x1210a5a2005280800008421 rfl h,aH 0x480090852d12420 rfl⟩
 rw [aC this]
 congr 1;exact bB (ci 0x20000008401088021442048429688004a822 rfl (cG (aH 0x1210a5a2005280800008421 rfl h)) (aA (KG h))) (ci 0x200000084090852d10809544200840010822 rfl (aA (KG h)) (cG (aH 0x1210a5a2005280800008421 rfl h)))
theorem Gl{Z:List PV}{p:PV}{σ:AS}{i:Nat}(Y:σ.st.lookup i=some (.list Z))(h:Z.getLast?=some p):aO (.loc i) (.int (-1)) σ=some (p,σ):=by
 have X:0<Z.length:=by cases Z;exact aW h;exact mK _
 exact vO Y (by decide) (lO X) (by rw [<-JP];exact h)
theorem Hs{Z:List PV}{σ:AS}{i:Nat}(Y:σ.st.lookup i=some (.list Z))(X:0<Z.length)(W:Z.length<=1000):nH (.loc i) (.int (-1)) σ=some (.none,{σ with st:=av σ.st i (.list Z.dropLast)}):=by
 show zJ i _ σ=_;rw [mi Y (bJ W (by decide)),aC (by decide),lO X];show some _=_;rw [List.eraseIdx_eq_dropLast (by exact(bB (bb 0x40108002004200840010821 rfl (aA (KG X))) (bb 0x42000820004200840010a21 rfl (aA (KG X)))))]
theorem Ep{p:PV}{ps:List PV}{σ:AS}{i:Nat}(Z:σ.st.lookup i=some (.list (p::ps)))(Y:ps.length<1000):nH (.loc i) (.int 0) σ=some (.none,{σ with st:=av σ.st i (.list ps)}):=by
 show zJ i _ σ=_;rw [mi Z (bJ (show(p::ps).length<=1000 from Y) (by decide)),aC (by decide)];have:seqIndex? 0 (p::ps).length=some 0:=by
  unfold seqIndex?;simp only [cm];have:(decide ((0:Int)<=0)&&decide ((0:Int)<((ps.length+1:Nat):Int)))=true:=by simp;try omega
  simp [this];try omega
 rw [this];rfl
theorem Jy{fo V:ER}{W X Y Z:AS}{p q:PV}(S:fo W=some (p,X))(T:V X=some (q,Y))(U:nH p q Y=some (.none,Z)):ju fo V W=some (.next,Z):=by
 show fS fo _ W=_;rw [aY S,aY T,aY U]
noncomputable abbrev OA:SR:=(ap (di (aq (ae (aa 3) (aa 4) EU)) (ap (bF (ab (.bool false)))
 ah) ah)
 (ap (dD 100 (dj (aa 2)) (am 5) Cc ah)
 (ap (bF (ab (.bool true)))
 ah)))
noncomputable abbrev TS:SR:=(ap (ai (ae (aa 2) (cY (ab (.int 1)) im) aO) (am 5))
 (ap (di (aq (aa 5)) (ap (di (aq (aK "str" (aa 1) (ac (aa 5) aj) DM)) (ap (fA (aa 4) (aB cX (ac (aa 5) aj)) cO (am 4))
 (ap (ju (aa 2) (cY (ab (.int 1)) im))
 ah)) (ap (bF (ab (.bool false)))
 ah))
 ah) ah)
 OA))
theorem Hy{Z:List Nat}{W:List (List Nat)}{s e:Nat}{r:Bool}{l0 l5:Option PV}{st:List (Nat×AO)}{nx:Nat}(P:Z.length<=1000)(O:e<=Z.length)(X:st.lookup 0=some (.list (aE W)))(R:∀w∈W,w.length<=1000)(Q:W.length<100)(h:vT Z W s e=some r):
  ∃Y,OA ⟨[l0,cS (al Z),cL 0,cI (s:Int),cI (e:Int),l5],st,nx⟩=some (.ret (.bool r),Y):=by
 unfold vT at h
 have V:aq (ae (aa 3) (aa 4) EU) ⟨[l0,cS (al Z),cL 0,cI (s:Int),cI (e:Int),l5],st,nx⟩=some (decide ((e:Int)<(s:Int)),⟨[l0,cS (al Z),cL 0,cI (s:Int),cI (e:Int),l5],st,nx⟩):=aD (ak rfl rfl rfl) rfl
 by_cases U:s<=e
 .rw [fX U,fm]at h
  rw [fh (by exact(fun S=>bb 0x9081290840000022 rfl U S))]at V
  obtain⟨Y,T⟩:=OF P (l0:=l0) (l2:=some (.loc 0)) (nx:=nx) O X W s l5 0 100 rfl Q R U h;cases r with
  |true=>exact⟨Y,(ad (bq V)).trans ((ad ((rI (σ₁:=⟨_,st,nx⟩) rfl X).trans T)).trans rfl)⟩
  |false=>exact⟨Y,(ad (bq V)).trans (aG ((rI (σ₁:=⟨_,st,nx⟩) rfl X).trans T))⟩
 .rw [ut U]at h
  obtain rfl:=aZ h;rw [dq (by exact(bb 0x9081290840000c21 rfl U))]at V
  exact⟨_,aG ((bQ V).trans rfl)⟩
theorem Bi{Z:List (List Nat)}{w:List Nat}(h:Z.getLast?=some w):(aE Z).getLast?=some (.str (al w)):=by simp [aE,h]
theorem sw(Z:List (List Nat)):(aE Z).dropLast=aE Z.dropLast:=by simp [aE,List.map_dropLast]
theorem DF{Z:List Nat}{W:List (List Nat)}{s:Nat}{r:Bool}{l0 l5:Option PV}{st:List (Nat×AO)}{nx:Nat}(H:Z.length<=1000)(V:st.lookup 0=some (.list (aE W)))(O:∀w∈W,w.length<=1000)(N:W.length<100)(h:pW Z W s=some r):
  ∃Y,TS ⟨[l0,cS (al Z),cL 0,cI (s:Int),cI (Z.length:Int),l5],st,nx⟩=some (.ret (.bool r),Y):=by
 unfold pW at h
 cases R:W.getLast? with
 |none=>rw [R]at h;exact aW h
 |some w=>
  rw [R]at h
  dsimp only at h
  have U:=O w (List.mem_of_getLast? R);have F:0<W.length:=by cases W;exact aW R;exact mK _
  have M:ai (ae (aa 2) (cY (ab (.int 1)) im) aO) (am 5) ⟨[l0,cS (al Z),cL 0,cI (s:Int),cI (Z.length:Int),l5],st,nx⟩=some (.next,⟨[l0,cS (al Z),cL 0,cI (s:Int),cI (Z.length:Int),cS (al w)],st,nx⟩):=
   ax (ak rfl rfl (Gl (σ:=⟨_,st,nx⟩) V (Bi R))) rfl
  have Q:aq (aa 5) ⟨[l0,cS (al Z),cL 0,cI (s:Int),cI (Z.length:Int),cS (al w)],st,nx⟩=some (!mV w,⟨[l0,cS (al Z),cL 0,cI (s:Int),cI (Z.length:Int),cS (al w)],st,nx⟩):=aD rfl (xQ st U);cases T:mV w with
  |true=>
   rw [T]at h Q
   obtain⟨Y,I⟩:=Hy (l0:=l0) (l5:=some (.str (al w))) (nx:=nx) H (bZ _) V O N h;exact⟨Y,(ad M).trans ((ad (bq Q)).trans I)⟩
  |false=>
   rw [T]at h Q
   have P:aq (aK "str" (aa 1) (ac (aa 5) aj) DM) ⟨[l0,cS (al Z),cL 0,cI (s:Int),cI (Z.length:Int),cS (al w)],st,nx⟩=some (ty Z w,⟨[l0,cS (al Z),cL 0,cI (s:Int),cI (Z.length:Int),cS (al w)],st,nx⟩):=by
    rw [<-Mi];exact aD (ca rfl jB rfl rfl) rfl
   cases X:ty Z w with
   |false=>
    rw [X]at h P
    obtain rfl:=aZ h;exact⟨_,(ad M).trans (aG ((bQ Q).trans (aG ((bq P).trans rfl))))⟩
   |true=>
    rw [X]at h P
    simp only [fm,eM]at h
    have S:w.length<=Z.length:=by
     unfold ty at X
     cases G:Nat.ble w.length Z.length
     .rw [G]at X;exact mU X
     .exact fJ G
    have E:fA (aa 4) (aB cX (ac (aa 5) aj)) cO (am 4) ⟨[l0,cS (al Z),cL 0,cI (s:Int),cI (Z.length:Int),cS (al w)],st,nx⟩=some (.next,⟨[l0,cS (al Z),cL 0,cI (s:Int),cI ((Z.length:Int)-(w.length:Int)),cS (al w)],st,nx⟩):=
     oy rfl (bN rfl (qP U)) rfl rfl
    rw [show(Z.length:Int)-(w.length:Int)=((Z.length-w.length:Nat):Int)by exact ce (ci 0x484091012c404400800010a21 rfl (aA (dY S))) (ci 0x204880960009404400800010821 rfl (aA (dY S)))]at E
    have C:ju (aa 2) (cY (ab (.int 1)) im) ⟨[l0,cS (al Z),cL 0,cI (s:Int),cI ((Z.length-w.length:Nat):Int),cS (al w)],st,nx⟩=some (.next,⟨[l0,cS (al Z),cL 0,cI (s:Int),cI ((Z.length-w.length:Nat):Int),cS (al w)],av st 0 (.list (aE W.dropLast)),nx⟩):=by
     rw [<-sw];exact Jy rfl rfl (Hs (σ:=⟨_,st,nx⟩) V (by rw [dT];exact F) (by rw [dT];exact aH 0x7d04000011908000421 rfl N))
    obtain⟨Y,I⟩:=Hy (l0:=l0) (l5:=some (.str (al w))) (st:=av st 0 (.list (aE W.dropLast))) (nx:=nx) H (An _ _) aM (fun v D=>O v (List.dropLast_subset _ D)) (by rw [List.length_dropLast];exact bb 0x190810042000421008411908000422 rfl N (aA (KG F))) h;exact⟨Y,(ad M).trans ((ad ((bQ Q).trans ((ad ((bQ P).trans ((ad E).trans ((ad C).trans rfl)))).trans rfl))).trans I)⟩
theorem td(a:List Nat)(w:Nat):∀(W:List Nat) (i:Nat),∀v∈km a w i W,v.length<=a.length
 |[],i,v,h=>by rw [cJ.mp h,pg];exact(dP (i) (a.length)).elim (fun Z=>EH (aA (dY Z))) (fun Z=>bb 0x1000000802000821 rfl (eg (dY Z)))
 |c::W,i,v,h=>by
  rcases cN.mp h with h|h
  .rw [h,oY,pg];exact(dP (c-i) (a.length-i)).elim (fun Z=>(dP (i) (c)).elim (fun Y=>(dP (i) (a.length)).elim (fun X=>nL 0x18080004002004118040080420840000023 rfl Z (aA (dY X)) (fM (dY Z))) (fun X=>gP 0x3008000800200820084020840000023 rfl Z (eg (dY X)) (fM (dY Z)))) (fun Y=>ci 0x80100020004020802000822 rfl (eg (dY Y)) (fM (dY Z)))) (fun Z=>(dP (i) (a.length)).elim (fun Y=>gP 0x401800100060104400800010822 rfl (aA (dY Y)) (mL (dY Z))) (fun Y=>ci 0x80100020004020802000822 rfl (eg (dY Y)) (mL (dY Z))))
  .exact td a w W (c+w) v h
theorem uA{Z Y:List Nat}{r:Bool}(x:Z.length<=1000)(D:Y.length<=1000)(h:nT Z Y=some r):sX [.str (al Z),.str (al Y)] []=some (.bool r,[],[]):=by
 unfold sX;rw [cc (σ:=⟨[cS (al Z),cS (al Y),none,none,none,none],[],0⟩) rfl (Na _ _)]
 suffices q:∃V,xu 100 ([]++([]:List AO)).length ⟨[cS (al Z),cS (al Y),none,none,none,none],[],0⟩=some (.ret (.bool r),V)by
  obtain⟨V,e⟩:=q;rw [e];exact xC r V
 unfold xu;rw [yI];unfold nT at h
 have O:aq (ae (ab (.str (al bn))) (aa 0) nj) ⟨[cS (al Z),cS (al Y),none,none,none,none],[],0⟩=some (!eP Z bn,⟨[cS (al Z),cS (al Y),none,none,none,none],[],0⟩):=by
  rw [<-su];exact aD (ak rfl rfl rfl) rfl
 cases P:eP Z bn with
 |false=>
  rw [P]at h O
  obtain rfl:=aZ h;rw [<-jK];exact⟨_,aG ((bQ O).trans (aG (cT (ak rfl rfl rfl))))⟩
 |true=>
  rw [P,fm]at h
  rw [P]at O
  have W:∀v∈my Z bn,v.length<=1000:=fun v t=>bJ (td _ _ _ _ v t) x
  have M:=Hi Z bn (by decide);cases R:my Z bn with
  |nil=>rw [R]at h;exact aW h
  |cons w N=>
  cases N with
  |nil=>rw [R]at h;exact aW h
  |cons v X=>
  rw [R]at h W M
  dsimp only at h
  by_cases U:X.length<=90
  .rw [fX U,fm]at h
   have Q:(Builtin.Str.partsBetween (al Z) (Builtin.Str.occurrences (al Z) (al bn) 0 (al Z).length ((al Z).length+1)) (al bn).length).length<=2^20:=by
    rw [xc,bS,bS,vF];have:(my Z bn).length<=2^20:=by rw [R];simp;exact aH 0x1ffffc5000011688000021 rfl U
    simpa [my]using this
   have z:ai (aK "str" (aa 0) (ac (ab (.str (al bn))) aj) Aj) (am 2) ⟨[cS (al Z),cS (al Y),none,none,none,none],[],0⟩=some (.next,⟨[cS (al Z),cS (al Y),cL 0,none,none,none],[(0,.list (aE (w::v::X)))],1⟩):=by
    refine ax (σ₁:=⟨[cS (al Z),cS (al Y),none,none,none,none],[(0,.list (aE (w::v::X)))],1⟩) (ca rfl jB rfl ?_) rfl;show(if _ then _ else _)=_;rw [aC ⟨by rw [bS];rfl,by rw [bS];exact bJ x (by decide),Q⟩,M];rfl
   have S:([(0,AO.list (aE (w::v::X)))]:List (Nat×AO)).lookup 0=some (.list (aE (w::v::X))):=cx;have T:(aE (w::v::X)).length=X.length+2:=by rw [dT];rfl
   have A:ur (aq (ae (aB cX (ac (aa 2) aj)) (ab (.int 2)) Oq)) ⟨[cS (al Z),cS (al Y),cL 0,none,none,none],[(0,.list (aE (w::v::X)))],1⟩=some (.next,⟨[cS (al Z),cS (al Y),cL 0,none,none,none],[(0,.list (aE (w::v::X)))],1⟩):=by
    have:aq (ae (aB cX (ac (aa 2) aj)) (ab (.int 2)) Oq) ⟨[cS (al Z),cS (al Y),cL 0,none,none,none],[(0,.list (aE (w::v::X)))],1⟩=some (true,⟨[cS (al Z),cS (al Y),cL 0,none,none,none],[(0,.list (aE (w::v::X)))],1⟩):=by
     refine aD (p:=.bool true) (ak (bN rfl (qm (σ:=⟨_,_,_⟩) S (by rw [T];exact aH 0x3e820820008011688000021 rfl U))) rfl ?_) rfl;rw [T];show some (PV.bool (decide ((2:Int)<=((X.length+2:Nat):Int))),_)=_;rw [dq (by exact(aH 0x10400124414a020 rfl))]
    exact aY (g:=fun c F=>cond c (some (AF.next,F)) none) this
   have B:nB (ey (ac (ab (.int 0)) (ac (aB cX (ac (aa 1) aj)) aj))) 3 4 ⟨[cS (al Z),cS (al Y),cL 0,none,none,none],[(0,.list (aE (w::v::X)))],1⟩=some (.next,⟨[cS (al Z),cS (al Y),cL 0,cI ((0:Nat):Int),cI (Y.length:Int),none],[(0,.list (aE (w::v::X)))],1⟩):=by
    exact(ul (fN (ps:=[.int 0,.int (Y.length:Int)]) (aw (g:=ac (aB cX (ac (aa 1) aj)) aj) rfl (aw (g:=aj) (bN (aw (g:=aj) rfl rfl) (qP D)) rfl)) (by show 2<=2^20;decide))).trans rfl
   have C:ai (ae (aa 2) (ab (.int 0)) aO) (am 5) ⟨[cS (al Z),cS (al Y),cL 0,cI ((0:Nat):Int),cI (Y.length:Int),none],[(0,.list (aE (w::v::X)))],1⟩=some (.next,⟨[cS (al Z),cS (al Y),cL 0,cI ((0:Nat):Int),cI (Y.length:Int),cS (al w)],[(0,.list (aE (w::v::X)))],1⟩):=by
    refine ax (σ₁:=⟨[cS (al Z),cS (al Y),cL 0,cI ((0:Nat):Int),cI (Y.length:Int),none],[(0,.list (aE (w::v::X)))],1⟩) (p:=.str (al w)) (ak rfl rfl ?_) rfl;exact vO S (by decide) (jw (k:=0) (by rw [T];exact FE)) rfl
   have G:aq (aa 5) ⟨[cS (al Z),cS (al Y),cL 0,cI ((0:Nat):Int),cI (Y.length:Int),cS (al w)],[(0,.list (aE (w::v::X)))],1⟩=some (!mV w,⟨[cS (al Z),cS (al Y),cL 0,cI ((0:Nat):Int),cI (Y.length:Int),cS (al w)],[(0,.list (aE (w::v::X)))],1⟩):=aD rfl (xQ _ (W w (.head _)));cases H:mV w with
   |true=>
    rw [H]at h G
    obtain⟨V,y⟩:=DF (l0:=some (.str (al Z))) (l5:=some (.str (al w))) (nx:=1) D S W (by simp;exact aH 0x32102108400108211688000021 rfl U) h;exact⟨V,(ad (bq O)).trans ((ad z).trans ((ad A).trans ((ad B).trans ((ad C).trans ((ad (bq G)).trans y)))))⟩
   |false=>
    rw [H]at h G
    have E:aq (aK "str" (aa 1) (ac (aa 5) aj) uw) ⟨[cS (al Z),cS (al Y),cL 0,cI ((0:Nat):Int),cI (Y.length:Int),cS (al w)],[(0,.list (aE (w::v::X)))],1⟩=some (nr Y w,⟨[cS (al Z),cS (al Y),cL 0,cI ((0:Nat):Int),cI (Y.length:Int),cS (al w)],[(0,.list (aE (w::v::X)))],1⟩):=by
     rw [<-Fb];exact aD (ca rfl jB rfl rfl) rfl
    cases I:nr Y w with
    |false=>
     rw [I]at h E
     obtain rfl:=aZ h;exact⟨_,(ad (bq O)).trans ((ad z).trans ((ad A).trans ((ad B).trans ((ad C).trans (aG ((bQ G).trans (aG ((bq E).trans rfl))))))))⟩
    |true=>
     rw [I]at h E
     simp only [fm,eM]at h
     have n:ai (aB cX (ac (aa 5) aj)) (am 3) ⟨[cS (al Z),cS (al Y),cL 0,cI ((0:Nat):Int),cI (Y.length:Int),cS (al w)],[(0,.list (aE (w::v::X)))],1⟩=some (.next,⟨[cS (al Z),cS (al Y),cL 0,cI (w.length:Int),cI (Y.length:Int),cS (al w)],[(0,.list (aE (w::v::X)))],1⟩):=
      ax (bN rfl (qP (W w (.head _)))) rfl
     have o:ju (aa 2) (ab (.int 0)) ⟨[cS (al Z),cS (al Y),cL 0,cI (w.length:Int),cI (Y.length:Int),cS (al w)],[(0,.list (aE (w::v::X)))],1⟩=some (.next,⟨[cS (al Z),cS (al Y),cL 0,cI (w.length:Int),cI (Y.length:Int),cS (al w)],av [(0,.list (aE (w::v::X)))] 0 (.list (aE (v::X))),1⟩):=
      Jy rfl rfl (Ep (σ:=⟨_,_,_⟩) (p:=.str (al w)) (ps:=aE (v::X)) S (by rw [dT];simp;exact aH 0x3e820420008211688000021 rfl U))
     obtain⟨V,y⟩:=DF (l0:=some (.str (al Z))) (l5:=some (.str (al w))) (st:=av [(0,.list (aE (w::v::X)))] 0 (.list (aE (v::X)))) (nx:=1) D aM (fun u s=>W u (.tail _ s)) (by simp;exact aH 0x6420420008211688000021 rfl U) h;exact⟨V,(ad (bq O)).trans ((ad z).trans ((ad A).trans ((ad B).trans ((ad C).trans ((ad ((bQ G).trans ((ad ((bQ E).trans ((ad n).trans ((ad o).trans rfl)))).trans rfl))).trans y)))))⟩
  .rw [ut U]at h;exact aW h
theorem xg(a:List Nat){i j:Nat}(Z:i<=j)(Y:j<=a.length):Txt.slice (al a) (some (i:Int)) (some (j:Int))=al ((a.drop i).take (j-i)):=by
 have:=slice_closesL (x:=al a) (i:=(i:Int)) (j:=(j:Int)) (by exact(sD)) (by exact(yd Z)) (by rw [bS];exact yd Y);rw [iS]at this
 rw [this];unfold al;rw [show((j:Int)-(i:Int)).toNat=j-i by exact bB (gP 0x18000004201006010a22024204b0004a822 rfl (cG (bb 0x90812c005280840000021 rfl Z)) (aA (dY Z))) (gP 0x18000004204880960c09544400800010822 rfl (aA (dY Z)) (cG (bb 0x90812c005280840000021 rfl Z))),fp]
theorem gj(a:List Nat){i:Nat}(Z:i<=a.length):Txt.slice (al a) (some (i:Int)) none=al (a.drop i):=by
 have:=slice_closes_fromL (x:=al a) (i:=(i:Int)) (b:=(a.length:Int)) (by exact(sD)) (by rw [bS];exact yd Z) (by rw [bS]);rw [iS]at this
 rw [this];unfold al;have e:(⟨a.toArray⟩:Str).cps.toList=a:=rfl;rw [e,fp,rV (by rw [pg];exact gP 0x18000004204880960c09544400800010822 rfl (aA (dY Z)) (cG (bb 0x90812c005280840000021 rfl Z)))]
theorem pj(a:List Nat){j:Nat}(Z:j<=a.length):Txt.slice (al a) none (some (j:Int))=al (a.take j):=by
 have:=slice_closes_toL (x:=al a) (j:=(j:Int)) (by exact(sD)) (by rw [bS];exact yd Z);rw [iS]at this
 rw [this];unfold al;rfl
theorem ze{Y:Type}(Z:List Y)(a n:Nat)(h:a+n<=Z.length):((List.range n).map (a+·)).filterMap (Z[·]?)=(Z.drop a).take n:=by
 induction n generalizing a Z with
 |zero=>rfl
 |succ n X=>
  rw [List.range_succ,lU,List.filterMap_append,X Z a (by exact(ci 0x400800010022004210080010021 rfl h))];have:Z[a+n]?=some (Z[a+n]'(by exact(ci 0x400800010422004210080010021 rfl h))):=fC _
  simp only [cP,List.map_nil,zm,this,List.filterMap_nil];rw [Ki,List.getElem?_drop,this];rfl
theorem Jk(Y:List PV){i j:Nat}(X:i<=j)(Z:j<=Y.length):kF Y (some (i:Int)) (some (j:Int))=(Y.drop i).take (j-i):=by
 unfold kF sliceBounds;have U:(if((i:Nat):Int)<0 then((i:Nat):Int)+(Y.length:Int)else((i:Nat):Int))=i:=aF (by exact(fun W=>xY W));have V:(if((j:Nat):Int)<0 then((j:Nat):Int)+(Y.length:Int)else((j:Nat):Int))=j:=aF (by exact(fun W=>xY W));simp only [IP,U,V,show((1:Int)>0)=True from eq_true (by decide),ja];rw [show max (0:Int) (min (i:Int) (Y.length:Int))=(i:Int)by exact ce (FA 0x2428404080a1410012042822 rfl (pG (Lg X Z)) (pw (MS (pG (Lg X Z))))) (FA 0x140009404080a1510012042a22 rfl (pG (Lg X Z)) (pw (MS (pG (Lg X Z))))),show max (0:Int) (min (j:Int) (Y.length:Int))=(j:Int)by exact ce (FA 0x2428404080a1410012042822 rfl (pG (yd Z)) (pw (MS (pG (yd Z))))) (FA 0x140009404080a1510012042a22 rfl (pG (yd Z)) (pw (MS (pG (yd Z))))),Gd,ze Y i (j-i) (by exact(gP 0x1008030080100060100420840000022 rfl Z (aA (dY X))))]
structure SM where
 acc:List Nat
 seg:List Nat
 op:Option (List Nat)
noncomputable def fR(m:SM)(c:Nat):SM:={m with seg:=m.seg++[c]}
noncomputable def gO(m:SM):SM:=match m.op with
 |none=>{m with seg:=m.seg++[34],op:=some m.seg}
 |some o=>⟨m.acc++o,[],none⟩
noncomputable def iB:Bool->List Nat->SM->SM
 |_,[],m=>m
 |true,c::Z,m=>iB false Z (fR m c)
 |false,c::Z,m=>if c=92 then iB true Z (fR m 92)else if c=34 then iB false Z (gO m)else iB false Z (fR m c)
theorem qc(w1_ m):iB w1_ [] m=(m):=rfl
theorem pY(c cs m):iB true (c::cs) m=(iB false cs (fR m c)):=rfl
theorem qu(c cs m):iB false (c::cs) m=(if c=92 then iB true cs (fR m 92)else if c=34 then iB false cs (gO m)else iB false cs (fR m c)):=rfl
noncomputable def cq(Z:List Nat):List Nat:=(iB false Z ⟨[],[],none⟩).acc++(iB false Z ⟨[],[],none⟩).seg
noncomputable abbrev qK:SR:=(ap (di (aq (ae (aa 5) (ab (.str (al [34]))) jd)) (ap (di (aq (ae (aa 2) (ab .none) LD)) (ap (ai (aa 4) (am 2))
 ah) (ap (di (aq (ae (aa 1) (aa 2) mJ)) (ap (bC (aK "list" (aa 3) (ac (bI (aa 0) (bU (aa 1)) (bU (aa 2))) aj) aQ))
 ah) ah)
 (ap (ai (ae (aa 4) (ab (.int 1)) ba) (am 1))
 (ap (ai (ab .none) (am 2))
 ah))))
 ah) ah)
 ah)
noncomputable abbrev TK:TR:=(dK 2 (aT (am 4) (aT (am 5) cM)))
noncomputable def Ae:Option Nat->PV
 |none=>.none
 |some o=>.int (o:Int)
theorem kn{a:List Nat}{i s c:Nat}{V:List Nat}(h:a.drop i=c::V)(Y:s<=i):(a.take (i+1)).drop s=(a.take i).drop s++[c]:=by
 have X:i<a.length:=by
  have:=bv List.length h;simp at this;exact(dP (i) (a.length)).elim (fun Z=>gP 0x30080108c0200002104210804000a22 rfl this (aA (dY Z))) (fun Z=>(bb 0x400104210804000a22 rfl this (eg (dY Z)):False).elim)
 have W:a[i]?=some c:=by
  have:=bv List.head? h
  rwa [lJ]at this
 rw [Ki,W];exact JN (by rw [oY];exact ci 0x80000021008028840000022 rfl Y (fM (hV X)))
theorem GE{a:List Nat}{s:Nat}{Z:Option Nat}{p:PV}{x:List Nat}{st:List (Nat×AO)}{Y:Nat}(h:oW x [34]=false):
  qK ⟨[cS (al a),cI (s:Int),some (Ae Z),cL 0,some p,cS (al x)],st,Y⟩=some (.next,⟨[cS (al a),cI (s:Int),some (Ae Z),cL 0,some p,cS (al x)],st,Y⟩):=by
 have X:aq (ae (aa 5) (ab (.str (al [34]))) jd) ⟨[cS (al a),cI (s:Int),some (Ae Z),cL 0,some p,cS (al x)],st,Y⟩=some (false,⟨[cS (al a),cI (s:Int),some (Ae Z),cL 0,some p,cS (al x)],st,Y⟩):=by
  rw [<-h,<-jK];exact aD (ak rfl rfl rfl) rfl
 exact(ad (bq X)).trans rfl
theorem Ro{a:List Nat}{s i:Nat}{st:List (Nat×AO)}{Z:Nat}:
  qK ⟨[cS (al a),cI (s:Int),some .none,cL 0,cI (i:Int),cS (al [34])],st,Z⟩=some (.next,⟨[cS (al a),cI (s:Int),cI (i:Int),cL 0,cI (i:Int),cS (al [34])],st,Z⟩):=by
 have Y:aq (ae (aa 5) (ab (.str (al [34]))) jd) ⟨[cS (al a),cI (s:Int),some .none,cL 0,cI (i:Int),cS (al [34])],st,Z⟩=some (true,⟨[cS (al a),cI (s:Int),some .none,cL 0,cI (i:Int),cS (al [34])],st,Z⟩):=by
  rw [show true=oW [34] [34]from rfl,<-jK];exact aD (ak rfl rfl rfl) rfl
 exact(ad ((bQ Y).trans ((ad ((bQ rfl).trans rfl)).trans rfl))).trans rfl
theorem kS{x:List Nat}{lo Y:Option Int}{Z:AS}(h:x.length<=1000):vD (.str (al x)) lo Y Z=some (.str (Txt.slice (al x) lo Y),Z):=by
 show(if(al x).length<=2^20 then some (PV.str (Txt.slice (al x) lo Y),Z)else none)=_;rw [bS,aC (bJ h (by decide))]
theorem mz(l:List (List Nat))(w:List Nat):aE l++[.str (al w)]=aE (l++[w]):=by simp [aE]
theorem KI{a:List Nat}{s o i:Nat}{segs:List (List Nat)}{st:List (Nat×AO)}{nx:Nat}(P:a.length<=1000)(U:s<=o)(Q:o<=a.length)(Y:st.lookup 0=some (.list (aE segs)))(T:segs.length<=1000):
  vS fun X Z=>sR (qK ⟨[cS (al a),cI (s:Int),cI (o:Int),cL 0,cI (i:Int),cS (al [34])],st,nx⟩=some (.next,⟨[cS (al a),cI ((i+1:Nat):Int),some .none,cL 0,cI (i:Int),cS (al [34])],X,nx⟩)) (X.lookup 0=some (.list (aE Z))) (Z.flatten=segs.flatten++(a.take o).drop s) (Z.length<=segs.length+1):=by
 have R:aq (ae (aa 5) (ab (.str (al [34]))) jd) ⟨[cS (al a),cI (s:Int),cI (o:Int),cL 0,cI (i:Int),cS (al [34])],st,nx⟩=some (true,⟨[cS (al a),cI (s:Int),cI (o:Int),cL 0,cI (i:Int),cS (al [34])],st,nx⟩):=by
  rw [show true=oW [34] [34]from rfl,<-jK];exact aD (ak rfl rfl rfl) rfl
 have W:aq (ae (aa 1) (aa 2) mJ) ⟨[cS (al a),cI (s:Int),cI (o:Int),cL 0,cI (i:Int),cS (al [34])],st,nx⟩=some ((s:Int) != (o:Int),⟨[cS (al a),cI (s:Int),cI (o:Int),cL 0,cI (i:Int),cS (al [34])],st,nx⟩):=aD (ak rfl rfl rfl) rfl
 by_cases h:s=o
 .subst h
  rw [GH]at W
  refine⟨st,segs,(ad ((bQ R).trans ((ad ((bq rfl).trans ((ad (bq W)).trans ((ad rfl).trans ((ad rfl).trans rfl))))).trans rfl))).trans rfl,Y,?_,by exact vX⟩;rw [JB];simp
 .rw [show((s:Int) != (o:Int))=true by simp;exact fun S=>(eF h).elim (fun V=>bb 0x40000421024004aa22 rfl S V) (fun V=>bb 0x100421024004a822 rfl S V)]at W
  have O:bC (aK "list" (aa 3) (ac (bI (aa 0) (bU (aa 1)) (bU (aa 2))) aj) aQ) ⟨[cS (al a),cI (s:Int),cI (o:Int),cL 0,cI (i:Int),cS (al [34])],st,nx⟩=some (.next,⟨[cS (al a),cI (s:Int),cI (o:Int),cL 0,cI (i:Int),cS (al [34])],av st 0 (.list (aE (segs++[(a.take o).drop s]))),nx⟩):=by
   rw [<-mz];refine cb (σ:=⟨_,st,nx⟩) (σ₁:=⟨_,st,nx⟩) rfl Y (eX rfl rfl rfl ?_) Y (by rw [dT];exact aH 0x1e8480500001fa08000021 rfl T);rw [kS P,xg a U Q,JB]
  exact⟨av st 0 (.list (aE (segs++[(a.take o).drop s]))),segs++[(a.take o).drop s],(ad ((bQ R).trans ((ad ((bq rfl).trans ((ad ((bQ W).trans ((ad O).trans rfl))).trans ((ad rfl).trans ((ad rfl).trans rfl))))).trans rfl))).trans rfl,aM,by simp,by simp⟩
structure wA(a:List Nat)(i s:Nat)(op:Option Nat)(segs:List (List Nat))(m:SM):Prop where
 si:s<=i
 o1:∀o,op=some o->s<=o/\o<=i
 fl:segs.flatten.length<=s
 sl:segs.length<=i
 acc:m.acc=segs.flatten
 seg:m.seg=(a.take i).drop s
 op':m.op=op.map fun o=>(a.take o).drop s
theorem wA.take{a:List Nat}{i s c:Nat}{V:List Nat}{Y:Option Nat}{Z:List (List Nat)}{m:SM}(h:wA a i s Y Z m)(W:a.drop i=c::V):wA a (i+1) s Y Z (fR m c):=
 ⟨sf h.si,fun o X=>⟨(h.o1 o X).1,sf (h.o1 o X).2⟩,h.fl,sf h.sl,h.acc,by rw [kn W h.si,<-h.seg];rfl,h.op'⟩
theorem Da{a:List Nat}{i c:Nat}{X:List Nat}(Y:a.drop i=c::X):i<a.length:=by
 have:=bv List.length Y;simp at this;exact(dP (i) (a.length)).elim (fun Z=>gP 0x30080108c0200002104210804000a22 rfl this (aA (dY Z))) (fun Z=>(bb 0x400104210804000a22 rfl this (eg (dY Z)):False).elim)
theorem oR{a:List Nat}(G:a.length<=900):∀(M:List Nat) (i:Nat) (e:Bool) (s:Nat) (op:Option Nat) (Y:List (List Nat)) (st:List (Nat×AO)) (m:SM) (B C:Option PV),a.drop i=M->i<=a.length->st.lookup 0=some (.list (aE Y))->wA a i s op Y m->
  RQ fun(N:Nat) (W:Option Nat) (Z:List (List Nat)) (X:List (Nat×AO)) (T:Option PV) (U:Option PV)=>mA (dZ TK qK ah (ff i e M) ⟨[cS (al a),cI (s:Int),some (Ae op),cL 0,B,C],st,1⟩=some (.next,⟨[cS (al a),cI (N:Int),some (Ae W),cL 0,T,U],X,1⟩)) (X.lookup 0=some (.list (aE Z))) (wA a a.length N W Z (iB e M m))
 |[],i,e,s,op,Y,st,m,B,C,Q,y,S,V=>by
  have:i=a.length:=by have:=bv List.length Q;simp at this;exact bB (dY y) (ci 0x201000110020000428802000822 rfl this (aA (dY y)))
  subst this;refine⟨s,op,Y,st,B,C,?_,S,?_⟩
  .cases e<;>rfl
  .cases e<;>exact V
 |c::M,i,true,s,op,Y,st,m,B,C,Q,y,S,V=>by
  obtain⟨N,W,Z,X,T,U,D,E,F⟩:=oR G M (i+1) false s op Y st (fR m c) (some (.int (i:Int))) (some (.str (al [92,c]))) (dH Q) (Da Q) S (V.take Q);exact⟨N,W,Z,X,T,U,(bj (σ₁:=⟨[cS (al a),cI (s:Int),some (Ae op),cL 0,cI (i:Int),cS (al [92,c])],st,1⟩) rfl (GE rfl)).trans D,E,F⟩
 |c::M,i,false,s,op,Y,st,m,B,C,Q,y,S,V=>by
  have R:=Da Q;dsimp only [lp,li,lA];dsimp only [qc,pY,qu]
  by_cases O:c=92
  .rw [aC O,aC O]
   subst O;exact oR G M (i+1) true s op Y st (fR m 92) B C (dH Q) R S (V.take Q)
  .rw [aF O,aF O]
   by_cases I:c=34
   .rw [aC I]
    subst I;cases op with
    |none=>
     have t:m.op=none:=V.op';have v:gO m={m with seg:=m.seg++[34],op:=some m.seg}:=by unfold gO;rw [t]
     obtain⟨N,W,Z,X,T,U,D,E,F⟩:=oR G M (i+1) false s (some i) Y st (gO m) (some (.int (i:Int))) (some (.str (al [34]))) (dH Q) R S (by
      rw [v];exact⟨sf V.si,fun o u=>by obtain rfl:=aZ u;exact⟨V.si,jo _⟩,V.fl,sf V.sl,V.acc,by rw [kn Q V.si,<-V.seg],by rw [V.seg];rfl⟩)
     exact⟨N,W,Z,X,T,U,(bj (σ₁:=⟨[cS (al a),cI (s:Int),some .none,cL 0,cI (i:Int),cS (al [34])],st,1⟩) rfl Ro).trans D,E,F⟩
    |some o=>
     obtain⟨r,w⟩:=V.o1 o rfl;have A:=V.sl;have z:=V.fl;obtain⟨H,P,n,p,q,f4⟩:=KI (a:=a) (s:=s) (o:=o) (i:=i) (segs:=Y) (st:=st) (nx:=1) (by exact(aH 0x7d0400001e108000021 rfl G)) r (by exact(ci 0x40200020008000840000422 rfl R w)) S (by exact(ci 0x7d0410001080400040008021e108000023 rfl G R A));have t:m.op=some ((a.take o).drop s):=V.op';have v:gO m=⟨m.acc++(a.take o).drop s,[],none⟩:=by unfold gO;rw [t]
     obtain⟨N,W,Z,X,T,U,D,E,F⟩:=oR G M (i+1) false (i+1) none P H (gO m) (some (.int (i:Int))) (some (.str (al [34]))) (dH Q) R p (by
      rw [v];refine⟨bZ _,fun o u=>(nomatch u),?_,by exact ci 0x1084021000108400108000840000022 rfl A f4,by rw [q,V.acc],?_,rfl⟩
      .rw [q,df,pg,oY];exact(dP (s) (min o a.length)).elim (fun x=>FB 0x8420114020080120060280420800400023008000840000024 rfl w z (zA (o) (a.length)) (aA (dY x))) (fun x=>nL 0x1088022006010020090020800300022004000840000024 rfl r w z (eg (dY x)))
      .show([]:List Nat)=_
       rw [qC (by rw [oY];exact bb 0x42100800004210804000821 rfl (fM (bb 0x8021000400840000421 rfl R)))])
     exact⟨N,W,Z,X,T,U,(bj (σ₁:=⟨[cS (al a),cI (s:Int),cI (o:Int),cL 0,cI (i:Int),cS (al [34])],st,1⟩) rfl n).trans D,E,F⟩
   .rw [aF I]
    obtain⟨N,W,Z,X,T,U,D,E,F⟩:=oR G M (i+1) false s op Y st (fR m c) (some (.int (i:Int))) (some (.str (al [c]))) (dH Q) R S (V.take Q);refine⟨N,W,Z,X,T,U,(bj (σ₁:=⟨[cS (al a),cI (s:Int),some (Ae op),cL 0,cI (i:Int),cS (al [c])],st,1⟩) rfl (GE ?_)).trans D,E,F⟩;cases h:oW [c] [34]
    .rfl
    .have:=(jL _ _).mp h
     exact absurd (zI this).1 I
theorem jI:∀(Z:List Nat) (e:Bool) (m:SM),(∀c∈Z,c≠34)->m.op=none->(iB e Z m).acc=m.acc/\(iB e Z m).seg=m.seg++Z
 |[],e,m,_,_=>by cases e<;>simp [qc,pY,qu]
 |c::Z,true,m,h,U=>by
  obtain⟨V,W⟩:=jI Z false (fR m c) (fun x X=>h x (.tail _ X)) U;dsimp only [qc,pY,qu];exact⟨V,by rw [W];exact iH _ _ _⟩
 |c::Z,false,m,h,U=>by
  dsimp only [qc,pY,qu]
  by_cases Y:c=92
  .rw [aC Y]
   subst Y;obtain⟨V,W⟩:=jI Z true (fR m 92) (fun x X=>h x (.tail _ X)) U;exact⟨V,by rw [W];exact iH _ _ _⟩
  .rw [aF Y,aF (h c (.head _))]
   obtain⟨V,W⟩:=jI Z false (fR m c) (fun x X=>h x (.tail _ X)) U;exact⟨V,by rw [W];exact iH _ _ _⟩
theorem xX(c X:Nat):∀(n:Nat) (s:List Nat) (i Z:Nat),Z<=i->i+s.length<=X->s.length<=n->ka [c] 1 X n s i Z 1=[]->∀x∈s,x≠c
 |n,[],_,_,_,_,_,_,x,W=>by cases W
 |0,y::s,_,_,_,_,h,_,_,_=>by trivial
 |n+1,y::s,i,Z,T,V,U,h,x,W=>by
  simp only [cm]at V U
  dsimp only [pZ,qa]at h
  rw [fX T,fX (show i+1<=X by exact ci 0x400840010022004210080010021 rfl V)]at h
  simp only [fm,show Nat.beq 1 0=false from rfl,eM,List.tail_cons]at h
  cases Y:iP [c] (y::s)with
  |true=>rw [Y]at h;exact KC h
  |false=>
   rw [Y,eM]at h
   rcases cN.mp W with e|e
   .rintro rfl
    rw [e]at Y
    simp [qi,qp,qk]at Y
   .exact xX c X n s (i+1) Z (by exact(bb 0x8420100000840000021 rfl T)) (by exact(ci 0x2004010800210022004210080010021 rfl V)) (by exact(LG U)) h x e
theorem zw{a:List Nat}{c:Nat}(h:eP a [c]=false):∀x∈a,x≠c:=by
 unfold eP at h
 refine xX c a.length (a.length+1) a 0 0 (bZ _) (by exact(aH 0x110020 rfl)) (by exact(vX)) ?_
 show ka [c] [c].length a.length (a.length+1) a 0 0 1=[];cases Z:ka [c] [c].length a.length (a.length+1) a 0 0 1 with
 |nil=>rfl
 |cons x Y=>rw [Z]at h;cases h
noncomputable def RK:bO:=cB MM GB GW (fun _=>[]) [] (fun n=>HS 1000 n)
theorem QK(a:PV):dw MM GB GW ([a]++[]) ([]++[])=⟨[some a,none,none,none,none,none],[],0⟩:=by left
theorem Uk:Str.ofString "\""=al [34]:=by left
theorem kp:∀(Z:List Nat) (i:Nat) (e:Bool),(ff i e Z).length<=Z.length
 |[],i,e=>by cases e<;>exact bZ _
 |c::Z,i,true=>He (kp Z (i+1) false)
 |c::Z,i,false=>by
  dsimp only [lp,li,lA]
  split
  .exact sf (kp Z (i+1) true)
  .exact He (kp Z (i+1) false)
theorem SE{a:List Nat}(M:a.length<=900)(v:a.all (fun c=>decide (c<128))=true)(w:cE false a=false):RK [.str (al a)] []=some (.str (al (cq a)),[],[]):=by
 unfold RK;rw [cc (σ:=⟨[cS (al a),none,none,none,none,none],[],0⟩) rfl (QK _)]
 suffices z:∃O,HS 1000 ([]++([]:List AO)).length ⟨[cS (al a),none,none,none,none,none],[],0⟩=some (.ret (.str (al (cq a))),O)by
  obtain⟨O,e⟩:=z;rw [e];exact Lh _ O
 unfold HS;rw [Uk];have H:aq (ae (ab (.str (al [34]))) (aa 0) nj) ⟨[cS (al a),none,none,none,none,none],[],0⟩=some (!eP a [34],⟨[cS (al a),none,none,none,none,none],[],0⟩):=by
  rw [<-su];exact aD (ak rfl rfl rfl) rfl
 cases N:eP a [34]with
 |false=>
  rw [N]at H
  obtain⟨A,B⟩:=jI a false ⟨[],[],none⟩ (zw N) rfl;have:cq a=a:=by unfold cq;rw [A,B];simp
  rw [this];exact⟨_,aG ((bQ H).trans (aG rfl))⟩
 |true=>
  rw [N]at H
  obtain⟨X,W,Z,Y,U,V,t,g1,g2⟩:=oR M a 0 false 0 none [] [(0,.list [])] ⟨[],[],none⟩ none none rfl (jy _) rfl ⟨bZ _,fun o y=>(nomatch y),bZ _,bZ _,rfl,rfl,rfl⟩;have R:dD 1000 (sm (ac (aa 0) aj)) TK qK ah ⟨[cS (al a),cI 0,some .none,cL 0,none,none],[(0,.list [])],1⟩=some (.next,⟨[cS (al a),cI (X:Int),some (Ae W),cL 0,U,V],Y,1⟩):=by
   refine(bW (k:=.its (ff 0 false a)) (ps:=ff 0 false a) (σ₁:=⟨[cS (al a),cI 0,some .none,cL 0,none,none],[(0,.list [])],1⟩) ?_ rfl (by have:=kp a 0 false;exact bb 0x1f410200840008001e108000022 rfl M this)).trans t;have:(ui (al a)&&!cE false (al a).cps.toList)=true:=by
    show(a.all (fun c=>decide (c<128))&&!cE false a)=true;rw [v,w];rfl
   refine(aY (aw (g:=aj) (p:=.str (al a)) (ps:=[]) (σ₁:=⟨[cS (al a),cI 0,some .none,cL 0,none,none],[(0,.list [])],1⟩) rfl rfl)).trans ?_
   exact(aC this).trans rfl
  have G:aq (ae (aa 1) (aB cX (ac (aa 0) aj)) mQ) ⟨[cS (al a),cI (X:Int),some (Ae W),cL 0,U,V],Y,1⟩=some (decide ((X:Int)<(a.length:Int)),⟨[cS (al a),cI (X:Int),some (Ae W),cL 0,U,V],Y,1⟩):=
   aD (ak rfl (bN rfl (qP (by exact(aH 0x7d0400001e108000021 rfl M)))) rfl) rfl
  have E:=g2.sl;have I:=g2.fl;have D:=g2.si;have P:cq a=Z.flatten++a.drop X:=by
   unfold cq;rw [g2.acc,g2.seg,GL]
  have Q:∀(T:List (List Nat)) (st:List (Nat×AO)),T.flatten.length<=1000000->st.lookup 0=some (.list (aE T))->bF (aK "str" (ab (.str "")) (ac (aa 3) aj) ia) ⟨[cS (al a),cI (X:Int),some (Ae W),cL 0,U,V],st,1⟩=some (.ret (.str (al T.flatten)),⟨[cS (al a),cI (X:Int),some (Ae W),cL 0,U,V],st,1⟩):=fun T st x F=>
   cT (ca rfl jB rfl (pX (σ:=⟨_,st,1⟩) F x))
  by_cases S:X<a.length
  .rw [dq (by exact(bb 0x409001290840000421 rfl S))]at G
   have u:bC (aK "list" (aa 3) (ac (bI (aa 0) (bU (aa 1)) cr) aj) aQ) ⟨[cS (al a),cI (X:Int),some (Ae W),cL 0,U,V],Y,1⟩=some (.next,⟨[cS (al a),cI (X:Int),some (Ae W),cL 0,U,V],av Y 0 (.list (aE (Z++[a.drop X]))),1⟩):=by
    rw [<-mz];refine cb (σ:=⟨_,Y,1⟩) (σ₁:=⟨_,Y,1⟩) rfl g1 (eX rfl rfl rfl ?_) g1 (by rw [dT];exact bb 0x7a12014200040008001e108000022 rfl M E);rw [kS (by exact(aH 0x7d0400001e108000021 rfl M)),gj a (by exact(hV S))]
   have:=Q (Z++[a.drop X]) (av Y 0 (.list (aE (Z++[a.drop X])))) (by rw [Bn,df,fy,List.flatten_nil,lT,pg];exact gP 0x7a1201460080400800200c021044008001e108000023 rfl M I (aA (hV S))) aM;rw [P,show Z.flatten++a.drop X=(Z++[a.drop X]).flatten by simp];exact⟨_,(ad (bq H)).trans ((ad rfl).trans ((ad rfl).trans ((ad rfl).trans ((ad R).trans ((ad ((bQ G).trans ((ad u).trans rfl))).trans (aG this))))))⟩
  .rw [fh (by exact(fun C=>bb 0x409001290840001022 rfl S C))]at G
   have:=Q Z Y (by exact(ci 0x1e8480508001000400044008001e108000023 rfl M I D)) g1;rw [P,qC (by exact(pU S)),lT];exact⟨_,(ad (bq H)).trans ((ad rfl).trans ((ad rfl).trans ((ad rfl).trans ((ad R).trans ((ad (bq G)).trans (aG this))))))⟩
noncomputable def gN:Bool->Nat->List Nat->Option Nat
 |_,n,[]=>some n
 |true,n,c::Z=>gN false n Z
 |false,n,c::Z=>if c=92 then gN true n Z else if c=40 then gN false (n+1) Z else if c=41 then(match n with|0=>none|n+1=>gN false n Z)else gN false n Z
theorem Lo(w1_ n):gN w1_ n []=(some n):=rfl
theorem Ms(n c cs):gN true n (c::cs)=(gN false n cs):=rfl
theorem My(n c cs):gN false n (c::cs)=(if c=92 then gN true n cs else if c=40 then gN false (n+1) cs else if c=41 then(match n with|0=>none|n+1=>gN false n cs)else gN false n cs):=rfl
noncomputable def KV:Option Nat->Bool
 |some 0=>true
 |_=>false
noncomputable def Kz(a:List Nat):Bool:=KV (gN false 0 (cq a))
noncomputable abbrev ow:SR:=(ap (di (aq (ae (aa 3) (ab (.str (al [40]))) jd)) (ap (fA (aa 1) (ab (.int 1)) jg (am 1))
 ah) (ap (di (aq (ae (aa 3) (ab (.str (al [41]))) jd)) (ap (fA (aa 1) (ab (.int 1)) cO (am 1))
 (ap (di (aq (ae (aa 1) (ab (.int 0)) mQ)) (ap (bF (ab (.bool false)))
 ah) ah)
 ah)) ah)
 ah))
 ah)
noncomputable abbrev Sr:TR:=(dK 2 (aT (am 2) (aT (am 3) cM)))
theorem Ps{a b:List Nat}(h:a≠b):oW a b=false:=by
 cases Z:oW a b
 .rfl
 .exact absurd ((jL _ _).mp Z) h
theorem GZ{Z:Option PV}{n:Nat}{p:PV}{x:List Nat}(V:x≠[40])(W:x≠[41]):
  ow ⟨[Z,cI (n:Int),some p,cS (al x)],[],0⟩=some (.next,⟨[Z,cI (n:Int),some p,cS (al x)],[],0⟩):=by
 have Y:∀y,x≠y->aq (ae (aa 3) (ab (.str (al y))) jd) ⟨[Z,cI (n:Int),some p,cS (al x)],[],0⟩=some (false,⟨[Z,cI (n:Int),some p,cS (al x)],[],0⟩):=fun y X=>by
  rw [<-Ps X,<-jK];exact aD (ak rfl rfl rfl) rfl
 exact(ad ((bq (Y _ V)).trans ((ad (bq (Y _ W))).trans rfl))).trans rfl
theorem Rl{Z:Option PV}{n:Nat}{p:PV}:
  ow ⟨[Z,cI (n:Int),some p,cS (al [40])],[],0⟩=some (.next,⟨[Z,cI ((n+1:Nat):Int),some p,cS (al [40])],[],0⟩):=by
 have Y:aq (ae (aa 3) (ab (.str (al [40]))) jd) ⟨[Z,cI (n:Int),some p,cS (al [40])],[],0⟩=some (true,⟨[Z,cI (n:Int),some p,cS (al [40])],[],0⟩):=by
  rw [show true=oW [40] [40]from rfl,<-jK];exact aD (ak rfl rfl rfl) rfl
 exact(ad ((bQ Y).trans ((ad rfl).trans rfl))).trans rfl
theorem NN{Z:Option PV}{n:Int}{p:PV}:aq (ae (aa 3) (ab (.str (al [40]))) jd) ⟨[Z,cI n,some p,cS (al [41])],[],0⟩=some (false,⟨[Z,cI n,some p,cS (al [41])],[],0⟩) /\
  aq (ae (aa 3) (ab (.str (al [41]))) jd) ⟨[Z,cI n,some p,cS (al [41])],[],0⟩=some (true,⟨[Z,cI n,some p,cS (al [41])],[],0⟩):=by
 constructor
 .rw [show false=oW [41] [40]from rfl,<-jK];exact aD (ak rfl rfl rfl) rfl
 .rw [show true=oW [41] [41]from rfl,<-jK];exact aD (ak rfl rfl rfl) rfl
theorem Np{Z:Option PV}{n:Nat}{p:PV}:
  ow ⟨[Z,cI ((n+1:Nat):Int),some p,cS (al [41])],[],0⟩=some (.next,⟨[Z,cI (n:Int),some p,cS (al [41])],[],0⟩):=by
 have W:fA (aa 1) (ab (.int 1)) cO (am 1) ⟨[Z,cI ((n+1:Nat):Int),some p,cS (al [41])],[],0⟩=some (.next,⟨[Z,cI (n:Int),some p,cS (al [41])],[],0⟩):=by
  have:fA (aa 1) (ab (.int 1)) cO (am 1) ⟨[Z,cI ((n+1:Nat):Int),some p,cS (al [41])],[],0⟩=some (.next,⟨[Z,cI (((n+1:Nat):Int)-1),some p,cS (al [41])],[],0⟩):=rfl;rw [this,show((n+1:Nat):Int)-1=(n:Int)by exact ce (KH) (KN)]
 have X:aq (ae (aa 1) (ab (.int 0)) mQ) ⟨[Z,cI (n:Int),some p,cS (al [41])],[],0⟩=some (false,⟨[Z,cI (n:Int),some p,cS (al [41])],[],0⟩):=by
  rw [show false=decide ((n:Int)<0)from(fh (by exact(fun Y=>xY Y))).symm];exact aD (ak rfl rfl rfl) rfl
 exact(ad ((bq NN.1).trans ((ad ((bQ NN.2).trans ((ad W).trans ((ad (bq X)).trans rfl)))).trans rfl))).trans rfl
theorem PC{l0:Option PV}{p:PV}:∃Z,ow ⟨[l0,cI ((0:Nat):Int),some p,cS (al [41])],[],0⟩=some (.ret (.bool false),Z):=
 ⟨_,aG ((bq NN.1).trans (aG ((bQ NN.2).trans ((ad rfl).trans (aG ((bQ rfl).trans (aG rfl)))))))⟩
theorem oV{l0:Option PV}:∀(Y:List Nat) (i:Nat) (e:Bool) (n:Nat) (W X:Option PV),
  ∃Z,dZ Sr ow ah (ff i e Y) ⟨[l0,cI (n:Int),W,X],[],0⟩=(match gN e n Y with|none=>some (.ret (.bool false),Z)|some m=>some (.next,Z))/\∀m,gN e n Y=some m->vS fun W X=>Z=⟨[l0,cI (m:Int),W,X],[],0⟩
 |[],i,e,n,W,X=>⟨⟨[l0,cI (n:Int),W,X],[],0⟩,by cases e<;>rfl,fun m h=>⟨W,X,by cases e<;>(obtain rfl:=aZ h;rfl)⟩⟩
 |c::Y,i,true,n,W,X=>by
  obtain⟨Z,S,h⟩:=oV (l0:=l0) Y (i+1) false n (some (.int (i:Int))) (some (.str (al [92,c])));exact⟨Z,(bj (σ₁:=⟨[l0,cI (n:Int),cI (i:Int),cS (al [92,c])],[],0⟩) rfl (GZ (by simp) (by simp))).trans S,h⟩
 |c::Y,i,false,n,W,X=>by
  dsimp only [lp,li,lA];dsimp only [Lo,Ms,My]
  by_cases V:c=92
  .rw [aC V,aC V]
   exact oV (l0:=l0) Y (i+1) true n W X
  .rw [aF V,aF V]
   by_cases T:c=40
   .rw [aC T]
    subst T;obtain⟨Z,S,h⟩:=oV (l0:=l0) Y (i+1) false (n+1) (some (.int (i:Int))) (some (.str (al [40])));exact⟨Z,(bj (σ₁:=⟨[l0,cI (n:Int),cI (i:Int),cS (al [40])],[],0⟩) rfl Rl).trans S,h⟩
   .rw [aF T]
    by_cases U:c=41
    .rw [aC U]
     subst U;cases n with
     |zero=>
      obtain⟨Z,S⟩:=PC (l0:=l0) (p:=.int (i:Int));exact⟨Z,xi (σ₁:=⟨[l0,cI ((0:Nat):Int),cI (i:Int),cS (al [41])],[],0⟩) rfl S,fun m h=>(nomatch h)⟩
     |succ n=>
      obtain⟨Z,S,h⟩:=oV (l0:=l0) Y (i+1) false n (some (.int (i:Int))) (some (.str (al [41])));exact⟨Z,(bj (σ₁:=⟨[l0,cI ((n+1:Nat):Int),cI (i:Int),cS (al [41])],[],0⟩) rfl Np).trans S,h⟩
    .rw [aF U]
     obtain⟨Z,S,h⟩:=oV (l0:=l0) Y (i+1) false n (some (.int (i:Int))) (some (.str (al [c])));exact⟨Z,(bj (σ₁:=⟨[l0,cI (n:Int),cI (i:Int),cS (al [c])],[],0⟩) rfl (GZ (by simpa using T) (by simpa using U))).trans S,h⟩
noncomputable def Br:bO:=cB Mj FK Hg (fun _=>[]) [] (fun n=>HB RK 1000 n)
theorem QM(a:PV):dw Mj FK Hg ([a]++[]) ([]++[])=⟨[some a,none,none,none],[],0⟩:=by left
theorem JI:Str.ofString "("=al [40]:=by left
theorem JH:Str.ofString ")"=al [41]:=by left
structure ON(a:List Nat):Prop where
 len:a.length<=900
 asc:a.all (fun c=>decide (c<128))=true
 fin:cE false a=false
theorem Ot{a:List Nat}(V:ON a)(W:ON (cq a)):Br [.str (al a)] []=some (.bool (Kz a),[],[]):=by
 unfold Br;rw [cc (σ:=⟨[cS (al a),none,none,none],[],0⟩) rfl (QM _)]
 suffices Q:∃Y,HB RK 1000 ([]++([]:List AO)).length ⟨[cS (al a),none,none,none],[],0⟩=some (.ret (.bool (Kz a)),Y)by
  obtain⟨Y,e⟩:=Q;rw [e];exact xC _ Y
 unfold HB;rw [JI,JH];have S:ai (bc RK (ac (aa 0) aj)) (am 0) ⟨[cS (al a),none,none,none],[],0⟩=some (.next,⟨[cS (al (cq a)),none,none,none],[],0⟩):=
  ax (bp (ps:=[.str (al a)]) (σ₁:=⟨[cS (al a),none,none,none],[],0⟩) rfl rfl rfl (SE V.len V.asc V.fin)) rfl
 obtain⟨Y,O,h⟩:=oV (l0:=some (.str (al (cq a)))) (cq a) 0 false 0 none none;have Z:dD 1000 (sm (ac (aa 0) aj)) Sr ow ah ⟨[cS (al (cq a)),cI 0,none,none],[],0⟩=(match gN false 0 (cq a)with|none=>some (.ret (.bool false),Y)|some m=>some (.next,Y)):=by
  refine(bW (k:=.its (ff 0 false (cq a))) (ps:=ff 0 false (cq a)) (σ₁:=⟨[cS (al (cq a)),cI 0,none,none],[],0⟩) ?_ rfl (by have:=kp (cq a) 0 false;have:=W.len;omega)).trans O;have:(ui (al (cq a))&&!cE false (al (cq a)).cps.toList)=true:=by
   show((cq a).all (fun c=>decide (c<128))&&!cE false (cq a))=true;rw [W.asc,W.fin];rfl
  refine(aY (aw (g:=aj) (p:=.str (al (cq a))) (ps:=[]) (σ₁:=⟨[cS (al (cq a)),cI 0,none,none],[],0⟩) rfl rfl)).trans ?_
  exact(aC this).trans rfl
 unfold Kz;cases X:gN false 0 (cq a)with
 |none=>
  rw [X]at Z
  exact⟨_,(ad S).trans ((ad rfl).trans (aG Z))⟩
 |some m=>
  rw [X]at Z
  obtain⟨T,U,rfl⟩:=h m X;have P:bF (ae (aa 1) (ab (.int 0)) jd) ⟨[cS (al (cq a)),cI (m:Int),T,U],[],0⟩=some (.ret (.bool (KV (some m))),⟨[cS (al (cq a)),cI (m:Int),T,U],[],0⟩):=by
   refine cT (ak rfl rfl ?_);show some (PV.bool ((m:Int)==0),_)=_;cases m with
   |zero=>rfl
   |succ m=>rw [show(((m+1:Nat):Int)==0)=false by simp;exact fun R=>aH 0xa4214800912821 rfl R];rfl
  exact⟨_,(ad S).trans ((ad rfl).trans ((ad Z).trans (aG P)))⟩
noncomputable def toks:List (List Nat):=[[40],[41],[],[92,41],[34,40,34],[92,92],[34,92,34,41,34]]
noncomputable def dW:List Nat->List Nat
 |34::_=>[]
 |t=>t
theorem Ee(w1_):dW (34::w1_)=([]):=rfl
noncomputable def Fo(n:Nat)(t:List Nat):Option Nat:=if t=[40]then some (n+1)else if t=[41]then(match n with|0=>none|n+1=>some n)else some n
noncomputable def lB:Nat->List (List Nat)->Option Nat
 |n,[]=>some n
 |n,t::Z=>(Fo n t).bind fun m=>lB m Z
theorem LM(n):lB n []=(some n):=rfl
theorem LI(n t ts):lB n (t::ts)=((Fo n t).bind fun m=>lB m ts):=rfl
theorem jn{t:List Nat}{p:List Nat->Prop}(h:t∈toks)(T:p [40])(U:p [41])(V:p [])(W:p [92,41])(X:p [34,40,34])(Y:p [92,92])(Z:p [34,92,34,41,34]):p t:=by
 simp only [toks,cN,lM,iY]at h
 rcases h with rfl|rfl|rfl|rfl|rfl|rfl|rfl<;>assumption
theorem PH{t:List Nat}(h:t∈toks)(X V W:List Nat):vS fun Y Z=>iB false (t++X) ⟨V,W,none⟩=iB false X ⟨Y,Z,none⟩/\Y++Z=V++W++dW t:=by
 refine jn (p:=fun t=>vS fun Y Z=>iB false (t++X) ⟨V,W,none⟩=iB false X ⟨Y,Z,none⟩/\Y++Z=V++W++dW t) h ?_ ?_ ?_ ?_ ?_ ?_ ?_<;>exact⟨_,_,rfl,by simp [Ee,fR,gO]<;>rfl⟩
theorem LZ{t:List Nat}(h:t∈toks)(Z:List Nat):cE false (t++Z)=cE false Z:=by
 refine jn (p:=fun t=>cE false (t++Z)=cE false Z) h ?_ ?_ ?_ ?_ ?_ ?_ ?_<;>rfl
theorem Hu{t:List Nat}(h:t∈toks)(Z:List Nat):cE false (dW t++Z)=cE false Z:=by
 refine jn (p:=fun t=>cE false (dW t++Z)=cE false Z) h ?_ ?_ ?_ ?_ ?_ ?_ ?_<;>rfl
theorem QY{t:List Nat}(h:t∈toks)(n:Nat)(Z:List Nat):gN false n (dW t++Z)=(Fo n t).bind fun m=>gN false m Z:=by
 refine jn (p:=fun t=>gN false n (dW t++Z)=(Fo n t).bind fun m=>gN false m Z) h ?_ ?_ ?_ ?_ ?_ ?_ ?_<;>first|rfl|(cases n<;>rfl)
theorem Ce{t:List Nat}(h:t∈toks):(∀c∈t,c<128)/\t.length<=5/\(∀c∈dW t,c<128)/\(dW t).length<=4:=by
 refine jn (p:=fun t=>(∀c∈t,c<128)/\t.length<=5/\(∀c∈dW t,c<128)/\(dW t).length<=4) h ?_ ?_ ?_ ?_ ?_ ?_ ?_<;>decide
theorem vg:∀(U:List (List Nat)),(∀t∈U,t∈toks)->∀(Z X Y:List Nat),vS fun V W=>iB false (U.flatten++Z) ⟨X,Y,none⟩=iB false Z ⟨V,W,none⟩/\V++W=X++Y++(U.map dW).flatten
 |[],_,Z,X,Y=>⟨X,Y,rfl,by simp⟩
 |t::U,h,Z,X,Y=>by
  obtain⟨I,S,N,P⟩:=PH (h t (.head _)) (U.flatten++Z) X Y;obtain⟨M,T,O,Q⟩:=vg U (fun x R=>h x (.tail _ R)) Z I S;refine⟨M,T,?_,?_⟩
  .rw [fy,iH,N,O]
  .rw [Q,P];exact iH _ _ _
theorem sB:∀(Y:List (List Nat)),(∀t∈Y,t∈toks)->∀Z,cE false (Y.flatten++Z)=cE false Z/\cE false ((Y.map dW).flatten++Z)=cE false Z
 |[],_,Z=>⟨rfl,rfl⟩
 |t::Y,h,Z=>by
  obtain⟨V,W⟩:=sB Y (fun x X=>h x (.tail _ X)) Z;constructor
  .rw [fy,iH,LZ (h t (.head _)),V]
  .rw [cP,fy,iH,Hu (h t (.head _)),W]
theorem vW:∀(Y:List (List Nat)),(∀t∈Y,t∈toks)->∀(n:Nat) (Z:List Nat),gN false n ((Y.map dW).flatten++Z)=(lB n Y).bind fun m=>gN false m Z
 |[],_,n,Z=>rfl
 |t::Y,h,n,Z=>by
  rw [cP,fy,iH,QY (h t (.head _))];dsimp only [LM,LI];cases Fo n t with
  |none=>rfl
  |some m=>exact vW Y (fun x X=>h x (.tail _ X)) m Z
theorem kf:∀(Z:List (List Nat)),(∀t∈Z,t∈toks)->(∀c∈Z.flatten,c<128)/\Z.flatten.length<=5*Z.length/\(∀c∈(Z.map dW).flatten,c<128)/\(Z.map dW).flatten.length<=4*Z.length
 |[],_=>by decide
 |t::Z,h=>by
  obtain⟨P,Q,R,S⟩:=Ce (h t (.head _));obtain⟨T,U,V,W⟩:=kf Z (fun x X=>h x (.tail _ X));refine⟨fun c Y=>?_,?_,fun c Y=>?_,?_⟩
  .rw [fy]at Y
   rcases kQ.mp Y with h|h
   .exact P c h
   .exact T c h
  .rw [fy,df,cm];exact ci 0x10880228c200004008805184000942000022 rfl Q U
  .rw [cP,fy]at Y
   rcases kQ.mp Y with h|h
   .exact R c h
   .exact V c h
  .rw [cP,fy,df,cm];exact ci 0x10880220c200004008804184000902000022 rfl S W
theorem sj{l:List Nat}(h:∀c∈l,c<128):l.all (fun c=>decide (c<128))=true:=dl.mpr fun c Z=>dq (h c Z)
theorem xj{ts:List (List Nat)}(h:∀t∈ts,t∈toks)(Y:ts.length<=150):Br [.str (al ts.flatten)] []=some (.bool (KV (lB 0 ts)),[],[]):=by
 obtain⟨S,T,U,V⟩:=kf ts h;obtain⟨W,X⟩:=sB ts h [];obtain⟨a,s,e,f⟩:=vg ts h [] [] [];rw [lT]at W X e
 have Z:cq ts.flatten=(ts.map dW).flatten:=by unfold cq;rw [e];exact f
 have:=Ot (a:=ts.flatten) ⟨by exact bb 0x708408001000a30800125880000a2 rfl Y T,sj S,W⟩ (by rw [Z];exact⟨by exact bb 0x70840800100083080012588000082 rfl Y V,sj U,X⟩);rw [this];unfold Kz;rw [Z];have:=vW ts h 0 [];rw [lT]at this
 rw [this];cases lB 0 ts<;>rfl
noncomputable def Dg:Nat->Option Nat
 |0=>none
 |n+1=>some n
theorem DP{Z:List (List Nat)}(h:∀t∈Z,t∈toks)(Y:Z.length<=150):Br [.str (al (Z.flatten++[34,41]))] []=some (.bool (KV ((lB 0 Z).bind Dg)),[],[]):=by
 obtain⟨O,P,Q,R⟩:=kf Z h;obtain⟨S,T⟩:=sB Z h [34,41];obtain⟨a,s,e,f⟩:=vg Z h [34,41] [] [];have W:cq (Z.flatten++[34,41])=(Z.map dW).flatten++[34,41]:=by
  unfold cq;rw [e];show a++(s++[34]++[41])=_;rw [iH,<-iH,f];rfl
 have V:∀l:List Nat,(∀c∈l,c<128)->∀c∈l++[34,41],c<128:=fun l Y c U=>by
  rcases kQ.mp U with h|h
  .exact Y c h
  .simp at h;exact h.elim (fun X=>aH 0x1004000210888000821 rfl X) (fun X=>aH 0x1004000210a48000821 rfl X)
 have:=Ot (a:=Z.flatten++[34,41]) ⟨by rw [df];simp only [cm,fG];exact bb 0x3842082100801000a30800125880000a2 rfl Y P,sj (V _ O),S⟩ (by rw [W];exact⟨by rw [df];simp only [cm,fG];exact bb 0x384208210080100083080012588000082 rfl Y R,sj (V _ Q),T⟩);rw [this];unfold Kz;rw [W,vW Z h 0 [34,41]];cases lB 0 Z with
 |none=>rfl
 |some m=>cases m<;>rfl
noncomputable def bX:List (List Nat):=[[],[92,41],[34,40,34],[92,92],[34,92,34,41,34]]
noncomputable def CV(Y Z:List Nat)(c:Nat):List (List Nat):=if c<=69 then [[41]]else if eP Y [c]then [[40],Z]else [[40]]
noncomputable def bal:Nat->List Nat->Option Nat
 |n,[]=>some n
 |n,c::Z=>if c<=69 then(Dg n).bind fun m=>bal m Z else bal (n+1) Z
theorem Fv{p:List Nat}(h:p∈bX)(n:Nat):Fo n p=some n:=by
 simp only [bX,cN,lM,iY]at h
 rcases h with rfl|rfl|rfl|rfl|rfl<;>rfl
theorem tq{p:List Nat}(h:p∈bX):p∈toks:=by
 simp only [bX,cN,lM,iY]at h
 rcases h with rfl|rfl|rfl|rfl|rfl<;>decide
theorem rk:∀(a b:List (List Nat)) (n:Nat),lB n (a++b)=(lB n a).bind fun m=>lB m b
 |[],b,n=>rfl
 |t::a,b,n=>by
  show(Fo n t).bind _=((Fo n t).bind _).bind _;cases Fo n t with
  |none=>rfl
  |some m=>exact rk a b m
theorem ng{W Z:List Nat}(Y:Z∈bX):∀(w:List Nat) (n:Nat),lB n (w.map (CV W Z)).flatten=bal n w
 |[],n=>rfl
 |c::w,n=>by
  rw [cP,fy,rk];unfold bal CV
  by_cases h:c<=69
  .rw [aC h,aC h]
   show((Fo n [41]).bind _).bind _=_;have:Fo n [41]=Dg n:=by cases n<;>rfl
   rw [this];cases Dg n with
   |none=>rfl
   |some m=>exact ng Y w m
  .rw [aF h,aF h]
   by_cases X:eP W [c]=true
   .rw [aC X]
    show((Fo n [40]).bind _).bind _=_;show((Fo (n+1) Z).bind _).bind _=_;rw [Fv Y];exact ng Y w (n+1)
   .rw [aF X]
    exact ng Y w (n+1)
theorem IC{V Z:List Nat}(X:Z∈bX)(w:List Nat):∀t∈(w.map (CV V Z)).flatten,t∈toks:=by
 intro t Y;obtain⟨l,W,h⟩:=List.mem_flatten.mp Y;obtain⟨c,_,rfl⟩:=iq.mp W;unfold CV at h
 split at h
 .rw [cJ.mp h];decide
 .split at h
  .rcases cN.mp h with h|h
   .rw [h];decide
   .rw [cJ.mp h];exact tq X
  .rw [cJ.mp h];decide
theorem Bs(Y Z:List Nat):∀w:List Nat,((w.map (CV Y Z)).flatten).length<=2*w.length
 |[]=>bZ _
 |c::w=>by
  have X:=Bs Y Z w;have:(CV Y Z c).length<=2:=by
   unfold CV
   split
   .exact jo 1
   .split
    .exact bZ 2
    .exact jo 1
  rw [cP,fy,df,cm];exact ci 0x10840210c001004008822000210086000022 rfl X this
noncomputable def eN(Y Z:List Nat)(c:Nat):List Nat:=(CV Y Z c).flatten
theorem jl(Y Z:List Nat):∀w:List Nat,(w.map (eN Y Z)).flatten=((w.map (CV Y Z)).flatten).flatten
 |[]=>rfl
 |c::w=>by
  rw [cP,fy,jl Y Z w,cP,fy,Bn];rfl
noncomputable def Fq:bO:=cB DC yZ zd (fun _=>[]) [] (fun n=>wC Br 1000 n)
theorem LN(a b:PV):dw DC yZ zd ([a,b]++[]) ([]++[])=⟨[some a,some b,none,none,none,none,none,none,none,none,none,none],[],0⟩:=by left
theorem RZ:Str.ofString ""=al []:=by left
theorem Qy:Str.ofString "\\)"=al [92,41]:=by left
theorem PI:Str.ofString "\"(\""=al [34,40,34]:=by left
theorem Ru:Str.ofString "\\\\"=al [92,92]:=by left
theorem QC:Str.ofString "\"\\\")\""=al [34,92,34,41,34]:=by left
theorem Qs:Str.ofString "\")"=al [34,41]:=by left
theorem zZ:Str.ofString "ABCDE"=al [65,66,67,68,69]:=by left
theorem zr:Str.ofString "abcde"=al [97,98,99,100,101]:=by left
theorem MF:Str.ofString "abcdea"=al [97,98,99,100,101,97]:=by left
noncomputable def MQ:List Nat:=[65,66,67,68,69]
noncomputable def MV:List Nat:=[97,98,99,100,101]
noncomputable abbrev FY:SR:=(ap (di (aq (ae (aa 5) (ab (.str (al [65,66,67,68,69]))) Dh)) (ap (bC (aK "list" (aa 4) (ac (ab (.str (al [41]))) aj) aQ))
 ah) (ap (di (aq (ae (aa 5) (aa 3) Dh)) (ap (bC (aK "list" (aa 4) (ac (ae (ab (.str (al [40]))) (ae (aa 2) (ae (aa 1) (ab (.int 5)) eu) aO) ba) aj) aQ))
 ah) (ap (bC (aK "list" (aa 4) (ac (ab (.str (al [40]))) aj) aQ))
 ah))
 ah))
 ah)
theorem BU{c:Nat}(h:c∈MQ++MV):eP [65,66,67,68,69] [c]=decide (c<=69)/\eP [97,98,99,100,101] [c]=!decide (c<=69)/\c<128:=by
 simp only [MQ,MV,oJ,pp,cN,lM,iY]at h
 rcases h with rfl|rfl|rfl|rfl|rfl|rfl|rfl|rfl|rfl|rfl<;>decide
theorem rB{x y:List Nat}{Z:AS}:Dh (.str (al y)) (.str (al x)) Z=some (.bool (eP x y),Z):=by
 rw [<-su];rfl
theorem lj{ps:List PV}{p:PV}{σ:AS}{i k:Nat}(Y:σ.st.lookup i=some (.list ps))(h:ps[k]?=some p)(X:ps.length<=1000):aO (.loc i) (.int (k:Int)) σ=some (p,σ):=by
 have Z:k<ps.length:=(ig.mp h).1;exact vO Y ⟨by exact aH 0x9010000000000000000e96a020 rfl,by exact Rw X Z⟩ (jw Z) h
theorem add_str{x y:List Nat}{Z:AS}(h:x.length+y.length<=2000):ba (.str (al x)) (.str (al y)) Z=some (.str (al (x++y)),Z):=by
 show Iw (al x) (al y) Z=_;unfold Iw;rw [bS,bS,aC (bJ h (by decide))];show some (PV.str ⟨x.toArray++y.toArray⟩,Z)=_;rw [List.append_toArray];rfl
theorem Ek{i:Nat}{p:List Nat}(h:bX[i]?=some p):(aE bX)[i]?=some (.str (al p)):=by
 unfold aE;rw [jS,jS,h];rfl
theorem KM{w:PV}{d:Int}{dr Z:List Nat}{i:Nat}{c:Nat}{Y:List (List Nat)}{l6 l7 l8 l9 l10 l11:Option PV}{st:List (Nat×AO)}{nx:Nat}(P:st.lookup 0=some (.list (aE bX)))(V:st.lookup 1=some (.list (aE Y)))(H:c∈MQ++MV)
  (I:Int.fmod d 5=(i:Int)) (R:bX[i]?=some Z) (M:Y.length<=1000):
  ∃X,mA (FY ⟨[some w,cI d,cL 0,cS (al dr),cL 1,cS (al [c]),l6,l7,l8,l9,l10,l11],st,nx⟩=some (.next,⟨[some w,cI d,cL 0,cS (al dr),cL 1,cS (al [c]),l6,l7,l8,l9,l10,l11],X,nx⟩)) (X.lookup 0=some (.list (aE bX))) (X.lookup 1=some (.list (aE (Y++[eN dr Z c])))):=by
 obtain⟨O,_,_⟩:=BU H;refine⟨av st 1 (.list (aE (Y++[eN dr Z c]))),?_,by rw [az (by decide)];exact P,aM⟩;have W:(aE Y).length<=1000000:=by rw [dT];exact aH 0x1e8480500001fa08000021 rfl M
 have T:aq (ae (aa 5) (ab (.str (al [65,66,67,68,69]))) Dh) ⟨[some w,cI d,cL 0,cS (al dr),cL 1,cS (al [c]),l6,l7,l8,l9,l10,l11],st,nx⟩=some (decide (c<=69),⟨[some w,cI d,cL 0,cS (al dr),cL 1,cS (al [c]),l6,l7,l8,l9,l10,l11],st,nx⟩):=by
  rw [<-O];exact aD (ak rfl rfl rB) rfl
 rw [<-mz];unfold eN CV
 by_cases h:c<=69
 .rw [dq h]at T
  rw [aC h];exact(ad ((bQ T).trans ((ad (cb (σ:=⟨_,st,nx⟩) (σ₁:=⟨_,st,nx⟩) rfl V rfl V W)).trans rfl))).trans rfl
 .rw [fh h]at T
  rw [aF h];have S:aq (ae (aa 5) (aa 3) Dh) ⟨[some w,cI d,cL 0,cS (al dr),cL 1,cS (al [c]),l6,l7,l8,l9,l10,l11],st,nx⟩=some (eP dr [c],⟨[some w,cI d,cL 0,cS (al dr),cL 1,cS (al [c]),l6,l7,l8,l9,l10,l11],st,nx⟩):=
   aD (ak rfl rfl rB) rfl
  cases Q:eP dr [c]with
  |true=>
   rw [Q]at S
   rw [aC rfl];have U:Z.length<=5:=by
    have:=ic R;exact(Ce (tq this)).2.1
   have G:ae (ab (.str (al [40]))) (ae (aa 2) (ae (aa 1) (ab (.int 5)) eu) aO) ba ⟨[some w,cI d,cL 0,cS (al dr),cL 1,cS (al [c]),l6,l7,l8,l9,l10,l11],st,nx⟩=some (.str (al ([[40],Z].flatten)),⟨[some w,cI d,cL 0,cS (al dr),cL 1,cS (al [c]),l6,l7,l8,l9,l10,l11],st,nx⟩):=by
    have N:ae (aa 1) (ab (.int 5)) eu ⟨[some w,cI d,cL 0,cS (al dr),cL 1,cS (al [c]),l6,l7,l8,l9,l10,l11],st,nx⟩=some (.int (i:Int),⟨[some w,cI d,cL 0,cS (al dr),cL 1,cS (al [c]),l6,l7,l8,l9,l10,l11],st,nx⟩):=by
     rw [<-I];exact ak rfl rfl rfl
    refine ak rfl (ak rfl N (lj (σ:=⟨_,st,nx⟩) P (Ek R) (by rw [dT];decide))) ?_
    rw [add_str (by simp;exact aH 0x3e81400084400942000021 rfl U)];simp
   exact(ad ((bq T).trans ((ad ((bQ S).trans ((ad (cb (σ:=⟨_,st,nx⟩) (σ₁:=⟨_,st,nx⟩) rfl V G V W)).trans rfl))).trans rfl))).trans rfl
  |false=>
   rw [Q]at S
   rw [aF (by decide)];exact(ad ((bq T).trans ((ad ((bq S).trans ((ad (cb (σ:=⟨_,st,nx⟩) (σ₁:=⟨_,st,nx⟩) rfl V rfl V W)).trans rfl))).trans rfl))).trans rfl
theorem yY{w:PV}{d:Int}{dr Y:List Nat}{i:Nat}{l6 l7 l8 l9 l10 l11:Option PV}{nx:Nat}(P:Int.fmod d 5=(i:Int))(Q:bX[i]?=some Y):∀(U:List Nat) (Z:List (List Nat)) (st:List (Nat×AO)) (T:Option PV),(∀c∈U,c∈MQ++MV)->Z.length+U.length<=900->st.lookup 0=some (.list (aE bX))->st.lookup 1=some (.list (aE Z))->
  vS fun V X=>dZ (am 5) FY ah (U.map fun c=>.str ⟨#[c]⟩) ⟨[some w,cI d,cL 0,cS (al dr),cL 1,T,l6,l7,l8,l9,l10,l11],st,nx⟩=some (.next,⟨[some w,cI d,cL 0,cS (al dr),cL 1,V,l6,l7,l8,l9,l10,l11],X,nx⟩)/\X.lookup 1=some (.list (aE (Z++U.map (eN dr Y))))
 |[],Z,st,T,_,_,N,R=>⟨T,st,rfl,by simpa using R⟩
 |c::U,Z,st,T,O,S,N,R=>by
  simp only [cm]at S
  obtain⟨W,G,I,g1⟩:=KM (w:=w) (dr:=dr) (l6:=l6) (l7:=l7) (l8:=l8) (l9:=l9) (l10:=l10) (l11:=l11) (nx:=nx) N R (O c (.head _)) P Q (by exact(bb 0x1f4100000784204210080010021 rfl S));obtain⟨V,X,H,g2⟩:=yY (w:=w) (dr:=dr) (l6:=l6) (l7:=l7) (l8:=l8) (l9:=l9) (l10:=l10) (l11:=l11) (nx:=nx) P Q U (Z++[eN dr Y c]) W (some (.str (al [c]))) (fun x M=>O x (.tail _ M)) (by rw [df];simp only [cm,fG];exact bb 0x7084080210004200784204210080010021 rfl S) I g1;refine⟨V,X,(bj (σ₁:=⟨[some w,cI d,cL 0,cS (al dr),cL 1,cS (al [c]),l6,l7,l8,l9,l10,l11],st,nx⟩) rfl G).trans H,?_⟩;rw [g2];simp
noncomputable abbrev Jn:SR:=(ap (di (aq (ae (ae (aa 0) (aa 10) aO) (ab (.str (al [65,66,67,68,69]))) Dh)) (ap (ai (bc Br (ac (aK "str" (ab (.str "")) (ac (bI (aa 4) (bU (aa 9)) (bU (ae (aa 10) (ab (.int 1)) ba))) aj) ia) aj)) (am 11))
 (ap (di (aq (ae (aa 11) (ab (.bool true)) LD)) (ap (bC (aK "list" (aa 8) (ac (aa 10) aj) aQ))
 (ap Rr
 ah)) ah)
 (ap (di (aq (ae (aa 11) (ab (.bool false)) cK)) (ap (bF (bD aj))
 ah) ah)
 ah))) ah)
 ah)
noncomputable abbrev ik(w:List Nat)(d:PV)(S:PV)(T U V W:Option PV)(f:Nat)(Y Z:Option PV)(st:List (Nat×AO))(X:Nat):AS:=
 ⟨[cS (al w),some d,cL 0,some S,cL 1,T,U,V,W,cI (f:Int),Y,Z],st,X⟩
theorem fK{w:List Nat}{k c:Nat}{Z:AS}(h:w[k]?=some c)(Y:w.length<=1000):aO (.str (al w)) (.int (k:Int)) Z=some (.str (al [c]),Z):=by
 refine uY (x:=al w) (c:=c) ?_ (by rw [bS];exact Y)
 simpa [al]using h
noncomputable def lC(w:List Nat)(f l:Nat):List Nat:=(w.drop f).take (l+1-f)
noncomputable def Im(w:List Nat)(f l:Nat):Bool:=cond (Nat.ble (w.getD l 0) 69) (KV (bal 0 (lC w f l))) false
noncomputable def lW(w:List Nat)(f:Nat):List Nat->Option Nat
 |[]=>none
 |l::Z=>cond (Im w f l) (some l) (lW w f Z)
theorem xd(w f):lW w f []=(none):=rfl
theorem yg(w f l ls):lW w f (l::ls)=(cond (Im w f l) (some l) (lW w f ls)):=rfl
theorem EI(l:List (List Nat))(i n:Nat):((aE l).drop i).take n=aE ((l.drop i).take n):=by simp [aE,List.map_drop,List.map_take]
section
variable {w:List Nat}{d:PV}{drL piece:List Nat}{l5 l6 l7:Option PV}
theorem NE(T:piece∈bX)(W:w.length=10){f l:Nat}(Z:f<l)(V:l<10){l11:Option PV}{st:List (Nat×AO)}{nx:Nat}(P:st.lookup 1=some (.list (aE (w.map (eN drL piece))))):
  ai (bc Br (ac (aK "str" (ab (.str "")) (ac (bI (aa 4) (bU (aa 9)) (bU (ae (aa 10) (ab (.int 1)) ba))) aj) ia) aj)) (am 11) (ik w d (.str (al drL)) l5 l6 l7 (some (.loc 2)) f (some (.int (l:Int))) l11 st nx)
   = some (.next,ik w d (.str (al drL)) l5 l6 l7 (some (.loc 2)) f (some (.int (l:Int))) (some (.bool (KV (bal 0 (lC w f l))))) ((nx,.list (aE ((lC w f l).map (eN drL piece))))::st) (nx+1)):=by
 have S:(lC w f l).length<=10:=by unfold lC;rw [oY,pg];exact gP 0x28230002100c020842000840080420a82000423 rfl V (aA (bb 0x8420100000840000421 rfl Z)) (fM (nL 0x20040004001808010a2108402180401082a084010a82000a24 rfl W V (aA (bb 0x8420100000840000421 rfl Z)) (aA (ci 0x4000a82200422004010a82000a23 rfl W Z V))))
 have Q:bI (aa 4) (bU (aa 9)) (bU (ae (aa 10) (ab (.int 1)) ba)) (ik w d (.str (al drL)) l5 l6 l7 (some (.loc 2)) f (some (.int (l:Int))) l11 st nx)
   = some (.loc nx,ik w d (.str (al drL)) l5 l6 l7 (some (.loc 2)) f (some (.int (l:Int))) l11 ((nx,.list (aE ((lC w f l).map (eN drL piece))))::st) (nx+1)):=by
  refine eX rfl rfl rfl ?_
  rw [BC,jE (σ:=ik w d (.str (al drL)) l5 l6 l7 (some (.loc 2)) f (some (.int (l:Int))) l11 st nx) P];show(if(aE _).length<=2^20 then some (PV.loc nx,({loc:=_,st:=(nx,.list (kF _ (some (f:Int)) (some ((l+1:Nat):Int))))::st,nx:=nx+1}:AS))else none)=_;rw [dT,cW,W,aC (by decide),Jk _ (by exact(bb 0x8420100000840000421 rfl Z)) (by rw [dT,cW];exact bb 0x84201002a084010a82000a22 rfl W V),EI,<-List.map_drop,<-List.map_take];rfl
 have U:∀t∈(((lC w f l).map (CV drL piece)).flatten),t∈toks:=IC T _;have Y:=Bs drL piece (lC w f l);have R:=xj U (by exact(bb 0x962040008002184000a82000042 rfl S Y));rw [ng T,<-jl]at R
 have X:((lC w f l).map (eN drL piece)).flatten.length<=1000000:=by
  rw [jl];have:=(kf _ U).2.1;exact ci 0xf424028800084051880008002184002a82000143 rfl S Y this
 exact ax (bp (aw (g:=aj) (ca rfl jB (aw (g:=aj) Q rfl) (pX (σ:=⟨_,(nx,.list (aE ((lC w f l).map (eN drL piece))))::st,nx+1⟩) cx X)) rfl) rfl rfl R) rfl
theorem rK(y:piece∈bX)(M:w.length=10)(t:∀c∈w,c∈MQ++MV){f:Nat}{ends:List Nat}(P:ends.length<=20):∀(O:List Nat),(∀l∈O,f<l/\l<10)->∀(S Y:Option PV) (st:List (Nat×AO)) (X:Nat),3<=X->st.lookup 1=some (.list (aE (w.map (eN drL piece))))->st.lookup 2=some (.list (au ends))->
  Te fun V W U T=>sR (dZ (am 10) Jn ah (au O) (ik w d (.str (al drL)) l5 l6 l7 (some (.loc 2)) f S Y st X)=some (.next,ik w d (.str (al drL)) l5 l6 l7 (some (.loc 2)) f V W U T)) (3<=T) (U.lookup 1=some (.list (aE (w.map (eN drL piece))))) (U.lookup 2=some (.list (au (ends++(lW w f O).toList))))
 |[],_,S,Y,st,X,R,N,F=>⟨S,Y,st,X,rfl,R,N,by simpa [xd,yg]using F⟩
 |l::O,v,S,Y,st,X,R,N,F=>by
  obtain⟨n,q⟩:=v l (.head _);have I:l<w.length:=by exact bb 0x10042a084010a82000a22 rfl M q
  have H:w[l]?=some w[l]:=fC I
  have p:=t _ (pB I);have u:w.getD l 0=w[l]:=by rw [gv,H];rfl
  have E:aq (ae (ae (aa 0) (aa 10) aO) (ab (.str (al [65,66,67,68,69]))) Dh) (ik w d (.str (al drL)) l5 l6 l7 (some (.loc 2)) f (some (.int (l:Int))) Y st X)=some (decide (w[l]<=69),ik w d (.str (al drL)) l5 l6 l7 (some (.loc 2)) f (some (.int (l:Int))) Y st X):=by
   rw [<-(BU p).1];exact aD (ak (ak rfl rfl (fK H (by exact(EC M)))) rfl rB) rfl
  dsimp only [xd,yg];unfold Im;rw [u]
  by_cases C:w[l]<=69
  .rw [dq C]at E
   rw [fX C,fm];have B:=NE (d:=d) (l5:=l5) (l6:=l6) (l7:=l7) (l11:=Y) (nx:=X) y M n q N;cases r:KV (bal 0 (lC w f l))with
   |true=>
    rw [r]at B
    rw [fm];have G:((X,AO.list (aE ((lC w f l).map (eN drL piece))))::st).lookup 2=some (.list (au ends)):=by rw [bg (by exact(fun Q=>aH 0x8228800308022 rfl R Q))];exact F
    have o:=cb (a:=8) (i:=2) (e:=aa 10) (σ:=ik w d (.str (al drL)) l5 l6 l7 (some (.loc 2)) f (some (.int (l:Int))) (some (.bool true)) ((X,.list (aE ((lC w f l).map (eN drL piece))))::st) (X+1)) (σ₁:=ik w d (.str (al drL)) l5 l6 l7 (some (.loc 2)) f (some (.int (l:Int))) (some (.bool true)) ((X,.list (aE ((lC w f l).map (eN drL piece))))::st) (X+1)) rfl G rfl G (by simp [au];exact aH 0xf4240280000d02000021 rfl P);refine⟨some (.int (l:Int)),some (.bool true),av ((X,.list (aE ((lC w f l).map (eN drL piece))))::st) 2 (.list (au ends++[.int (l:Int)])),X+1,?_,by exact aH 0x840010c200800308021 rfl R,by rw [az (by decide),bg (by exact(fun Q=>aH 0x4228800308022 rfl R Q))];exact N,?_⟩
    .refine HC (σ₁:=ik w d (.str (al drL)) l5 l6 l7 (some (.loc 2)) f (some (.int (l:Int))) Y st X) rfl ?_
     have:∀{f g:SR} {D Z:AS},f D=some (.brk,Z)->ap f g D=some (.brk,Z):=fun{f g D Z} h=>aY (g:=Fu g) h
     exact this ((bQ E).trans ((ad B).trans (this ((bQ (aD (ak rfl rfl rfl) rfl)).trans ((ad o).trans (this rfl))))))
    .rw [aM,show(some l:Option Nat).toList=[l]from rfl,nD];rfl
   |false=>
    rw [r]at B
    rw [eM];obtain⟨V,W,U,T,s,A,g1,g2⟩:=rK y M t (f:=f) P O (fun x z=>v x (.tail _ z)) (some (.int (l:Int))) (some (.bool false)) ((X,.list (aE ((lC w f l).map (eN drL piece))))::st) (X+1) (by exact(aH 0x840010c200800308021 rfl R)) (by rw [bg (by exact(fun Q=>aH 0x4228800308022 rfl R Q))];exact N) (by rw [bg (by exact(fun Q=>aH 0x8228800308022 rfl R Q))];exact F);refine⟨V,W,U,T,(bj (σ₁:=ik w d (.str (al drL)) l5 l6 l7 (some (.loc 2)) f (some (.int (l:Int))) Y st X) rfl ?_).trans s,A,g1,g2⟩;exact(ad ((bQ E).trans ((ad B).trans ((ad (bq (aD (ak rfl rfl rfl) rfl))).trans ((ad (bq (aD (ak rfl rfl rfl) rfl))).trans rfl))))).trans rfl
  .rw [fh C]at E
   rw [ut C,eM,eM];obtain⟨V,W,U,T,s,A,g1,g2⟩:=rK y M t (f:=f) P O (fun x z=>v x (.tail _ z)) (some (.int (l:Int))) Y st X R N F;exact⟨V,W,U,T,(bj (σ₁:=ik w d (.str (al drL)) l5 l6 l7 (some (.loc 2)) f (some (.int (l:Int))) Y st X) rfl ((ad (bq E)).trans rfl)).trans s,A,g1,g2⟩
end
theorem ot:∀(n k:Nat),pN (k:Int) n=au (List.range' k n)
 |0,k=>rfl
 |n+1,k=>by
  have:=ot n (k+1);rw [Ke];show PV.int (k:Int)::pN ((k:Int)+1) n=PV.int (k:Int)::au (List.range' (k+1) n);rw [<-this];rfl
theorem jq{e:ER}{Y Z:AS}{p:PV}{k:IK}(h:e Y=some (p,Z))(X:yO p Z=some k):dj e Y=some (k,Z):=by
 show fS e _ Y=_;rw [aY h,X];rfl
theorem mT{u v:Int}{Z:AS}(h:-1000000<=u/\u<=1000000/\-1000000<=v/\v<=1000000):yO (.rng u v) Z=some (.rng u (v-u).toNat):=by
 unfold yO;dsimp only;rw [aC ⟨by exact gW 0x400800000000000000074b501023d0900a96a021 rfl h.1,by exact gW 0x80000000000000007481090fa120152042021 rfl h.2.1,by exact gW 0x400800000000000000074b501023d0900a96a021 rfl h.2.2.1,by exact gW 0x80000000000000007481090fa120152042021 rfl h.2.2.2⟩]
noncomputable abbrev Op:SR:=(ap (di (aq (ae (ae (aa 0) (aa 9) aO) (ab (.str (al [97,98,99,100,101]))) Dh)) (ap (dD 1000 (dj (aB dm (ac (ae (aa 9) (ab (.int 1)) ba) (ac (ab (.int 10)) aj)))) (am 10) Jn ah)
 ah) ah)
 ah)
noncomputable def oO(w:List Nat):List Nat->List Nat
 |[]=>[]
 |f::Z=>cond (Nat.ble (w.getD f 0) 69) [] (lW w f (List.range' (f+1) (9-f))).toList++oO w Z
theorem ta(w):oO w []=([]):=rfl
theorem uc(w f fs):oO w (f::fs)=(cond (Nat.ble (w.getD f 0) 69) [] (lW w f (List.range' (f+1) (9-f))).toList++oO w fs):=rfl
noncomputable def Di(w:List Nat):List Nat:=oO w (List.range' 0 10)
section
variable {w:List Nat}{d:PV}{drL piece:List Nat}{l5 l6 l7:Option PV}
theorem sA(A:piece∈bX)(I:w.length=10)(E:∀c∈w,c∈MQ++MV):∀(O:List Nat),(∀f∈O,f<10)->∀(Z:List Nat) (B X Y:Option PV) (st:List (Nat×AO)) (U:Nat),Z.length+O.length<=20->3<=U->st.lookup 1=some (.list (aE (w.map (eN drL piece))))->st.lookup 2=some (.list (au Z))->
  ∃V,mA (dZ (am 9) Op ah (au O) ⟨[cS (al w),some d,cL 0,cS (al drL),cL 1,l5,l6,l7,cL 2,B,X,Y],st,U⟩=some (.next,V)) (fB V.loc 8=some (.loc 2)) (V.st.lookup 2=some (.list (au (Z++oO w O))))
 |[],_,Z,B,X,Y,st,U,_,z,t,D=>⟨_,rfl,rfl,by simpa [ta,uc]using D⟩
 |f::O,u,Z,B,X,Y,st,U,T,z,t,D=>by
  have W:=u f (.head _);simp only [cm]at T
  have H:f<w.length:=by exact bb 0x10042a084010a82000a22 rfl I W
  have G:w[f]?=some w[f]:=fC H
  have n:=E _ (pB H);have y:w.getD f 0=w[f]:=by rw [gv,G];rfl
  have C:aq (ae (ae (aa 0) (aa 9) aO) (ab (.str (al [97,98,99,100,101]))) Dh) (ik w d (.str (al drL)) l5 l6 l7 (some (.loc 2)) f X Y st U)=some (!decide (w[f]<=69),ik w d (.str (al drL)) l5 l6 l7 (some (.loc 2)) f X Y st U):=by
   rw [<-(BU n).2.1];exact aD (ak (ak rfl rfl (fK G (by exact(EC I)))) rfl rB) rfl
  dsimp only [ta,uc];rw [y]
  by_cases F:w[f]<=69
  .rw [dq F]at C
   rw [fX F,fm,pp];obtain⟨V,s,g1,g2⟩:=sA A I E O (fun x Q=>u x (.tail _ Q)) Z (some (.int (f:Int))) X Y st U (by exact(bb 0x2810800010034084210080010021 rfl T)) z t D;exact⟨V,(bj (σ₁:=ik w d (.str (al drL)) l5 l6 l7 (some (.loc 2)) f X Y st U) rfl ((ad (bq C)).trans rfl)).trans s,g1,g2⟩
  .rw [fh F]at C
   rw [ut F,eM];obtain⟨R,S,N,M,m,r,p,q⟩:=rK (d:=d) (l5:=l5) (l6:=l6) (l7:=l7) (drL:=drL) A I E (f:=f) (ends:=Z) (by exact(bb 0x502000034084210080010021 rfl T)) (List.range' (f+1) (9-f)) (fun x Q=>by rw [Gs]at Q;exact⟨vB Q.1,ci 0x50400085210804010822004210084000422 rfl Q.2 (aA (aH 0x9080000a82000421 rfl W))⟩) X Y st U z t D;have v:(lW w f (List.range' (f+1) (9-f))).toList.length<=1:=by cases lW w f (List.range' (f+1) (9-f))<;>simp
   obtain⟨V,s,g1,g2⟩:=sA A I E O (fun x Q=>u x (.tail _ Q)) (Z++(lW w f (List.range' (f+1) (9-f))).toList) (some (.int (f:Int))) R S N M (by rw [df];exact ci 0x502100800008400842200034084210080010022 rfl T v) r p q;have P:dD 1000 (dj (aB dm (ac (ae (aa 9) (ab (.int 1)) ba) (ac (ab (.int 10)) aj)))) (am 10) Jn ah (ik w d (.str (al drL)) l5 l6 l7 (some (.loc 2)) f X Y st U)=some (.next,ik w d (.str (al drL)) l5 l6 l7 (some (.loc 2)) f R S N M):=by
    refine(bW (k:=.rng ((f+1:Nat):Int) (9-f)) (ps:=au (List.range' (f+1) (9-f))) (σ₁:=ik w d (.str (al drL)) l5 l6 l7 (some (.loc 2)) f X Y st U) ?_ (by show some (pN ((f+1:Nat):Int) (9-f))=_;rw [ot]) (by simp [au];exact bb 0x1f41000085210800010821 rfl (aA (aH 0x9080000a82000421 rfl W)))).trans m;have o:aB dm (ac (ae (aa 9) (ab (.int 1)) ba) (ac (ab (.int 10)) aj)) (ik w d (.str (al drL)) l5 l6 l7 (some (.loc 2)) f X Y st U)=some (.rng ((f:Int)+1) 10,ik w d (.str (al drL)) l5 l6 l7 (some (.loc 2)) f X Y st U):=bN (aw (g:=ac (ab (.int 10)) aj) (ak rfl rfl rfl) rfl) rfl;refine jq o ?_
    rw [mT ⟨by exact aH 0x10a40048bd0900a96a020 rfl,by exact aH 0x3d0900a908520024480a82000421 rfl W,by exact uZ 0xa0a7d0900a96a020 rfl,by exact uZ 0xf42402a5414a020 rfl⟩,show((10:Int)-((f:Int)+1)).toNat=9-f by exact bB (ci 0x10000005210804010a210a420489414b0004a822 rfl (cG (aH 0x429001225052c005280a82000421 rfl W)) (aA (aH 0x9080000a82000421 rfl W))) (ci 0x1000000421484091282960809545210800010822 rfl (aA (aH 0x9080000a82000421 rfl W)) (cG (aH 0x429001225052c005280a82000421 rfl W)))];rfl
   refine⟨V,(bj (σ₁:=ik w d (.str (al drL)) l5 l6 l7 (some (.loc 2)) f X Y st U) rfl ((ad ((bQ C).trans ((ad P).trans rfl))).trans rfl)).trans s,g1,?_⟩;rw [g2,iH]
end
noncomputable def nI(j:Nat):List Nat:=(([97,98,99,100,101,97]:List Nat).drop j).take 2
theorem cZ(l:List Nat):eK (.list (au l))=[]:=by rw [kh];exact qS _
noncomputable abbrev Gw:SR:=(ap (di (aq (ae (bc Br (ac (aa 7) aj)) (ab (.bool false)) cK)) (ap (bF (bD aj))
 ah) ah)
 ah)
theorem PY{w:List Nat}{d:Int}(O:w.length=10)(B:∀c∈w,c∈MQ++MV){f:Nat}{b:List Nat}(G:w=f::b)(h0:69<f)(hb:bal 0 w=some 0):Fq [.str (al w),.int d] []=some (.loc 0,[],[.list (au (Di w))]):=by
 obtain⟨i,n⟩:∃i:Nat,Int.fmod d 5=i:=⟨(Int.fmod d 5).toNat,by have:=kq d (show(0:Int)<5 by decide);exact ce (sE (cG (pJ this))) (sM (cG (pJ this)))⟩;obtain⟨j,o⟩:∃j:Nat,Int.fmod (Int.fdiv d 5) 5=j:=⟨(Int.fmod (Int.fdiv d 5) 5).toNat,by have:=kq (Int.fdiv d 5) (show(0:Int)<5 by decide);exact ce (sE (cG (pJ this))) (sM (cG (pJ this)))⟩;have I:i<5:=by have:=lH d (show(0:Int)<5 by decide);exact hH 0x50800109429021210012042a22 rfl n this
 have P:j<5:=by have:=lH (Int.fdiv d 5) (show(0:Int)<5 by decide);exact hH 0x50800109429021210012042a22 rfl o this
 obtain⟨W,M⟩:∃p,bX[i]?=some p:=⟨bX[i]'(I),fC (show i<bX.length from I)⟩;have D:W∈bX:=ic M;unfold Fq;rw [cc (σ:=⟨[cS (al w),cI d,none,none,none,none,none,none,none,none,none,none],[],0⟩) rfl (LN _ _)]
 suffices hs:∃V,wC Br 1000 ([]++([]:List AO)).length ⟨[cS (al w),cI d,none,none,none,none,none,none,none,none,none,none],[],0⟩=some (.ret (.loc 2),V)/\V.st.lookup 2=some (.list (au (Di w)))by
  obtain⟨V,e,g⟩:=hs;rw [e];exact dn (ids:=[2]) rfl (bM g (cZ _) rfl) rfl
 unfold wC;rw [Qy,PI,Ru,QC,Qs,zZ,zr,MF,JI,JH];have e2:ai (bI (bI (ab (.str (al [97,98,99,100,101,97]))) (bU (ae (ae (aa 1) (ab (.int 5)) de) (ab (.int 5)) eu)) cr) cr (bU (ab (.int 2)))) (am 3) ⟨[cS (al w),cI d,cL 0,none,none,none,none,none,none,none,none,none],[(0,.list (aE bX))],1⟩
   = some (.next,⟨[cS (al w),cI d,cL 0,cS (al (nI j)),none,none,none,none,none,none,none,none],[(0,.list (aE bX))],1⟩):=by
  have hq:ae (ae (aa 1) (ab (.int 5)) de) (ab (.int 5)) eu ⟨[cS (al w),cI d,cL 0,none,none,none,none,none,none,none,none,none],[(0,.list (aE bX))],1⟩=some (.int (j:Int),⟨[cS (al w),cI d,cL 0,none,none,none,none,none,none,none,none,none],[(0,.list (aE bX))],1⟩):=by
   rw [<-o];refine ak (ak rfl rfl (r:=some (.int (Int.fdiv d 5),_)) ?_) rfl rfl;refine dv (k:=lP) ?_
   rw [jk (by decide) (by decide)]
  have E:bU (ae (ae (aa 1) (ab (.int 5)) de) (ab (.int 5)) eu) ⟨[cS (al w),cI d,cL 0,none,none,none,none,none,none,none,none,none],[(0,.list (aE bX))],1⟩=some (some (j:Int),⟨[cS (al w),cI d,cL 0,none,none,none,none,none,none,none,none,none],[(0,.list (aE bX))],1⟩):=by
   exact aY (g:=Un) hq
  have Q:bI (ab (.str (al [97,98,99,100,101,97]))) (bU (ae (ae (aa 1) (ab (.int 5)) de) (ab (.int 5)) eu)) cr ⟨[cS (al w),cI d,cL 0,none,none,none,none,none,none,none,none,none],[(0,.list (aE bX))],1⟩=some (.str (al (([97,98,99,100,101,97]:List Nat).drop j)),⟨[cS (al w),cI d,cL 0,none,none,none,none,none,none,none,none,none],[(0,.list (aE bX))],1⟩):=by
   refine eX rfl E rfl ?_
   rw [kS (by decide),gj _ (show j<=[97,98,99,100,101,97].length by simp;exact aH 0x6080000942000421 rfl P)]
  have F:bI (bI (ab (.str (al [97,98,99,100,101,97]))) (bU (ae (ae (aa 1) (ab (.int 5)) de) (ab (.int 5)) eu)) cr) cr (bU (ab (.int 2))) ⟨[cS (al w),cI d,cL 0,none,none,none,none,none,none,none,none,none],[(0,.list (aE bX))],1⟩=some (.str (al (nI j)),⟨[cS (al w),cI d,cL 0,none,none,none,none,none,none,none,none,none],[(0,.list (aE bX))],1⟩):=by
   refine eX Q rfl rfl ?_
   rw [kS (by rw [pg];exact bJ (An _ _) (by decide))];have:=pj (([97,98,99,100,101,97]:List Nat).drop j) (j:=2) (by simp;exact bb 0x201040130400080428942000422 rfl P (aA (aH 0x6080000942000421 rfl P)));show some (PV.str (Txt.slice _ none (some ((2:Nat):Int))),_)=_;rw [this];rfl
  exact ax F rfl
 obtain⟨Y,Z,e4,g4⟩:=yY (w:=.str (al w)) (d:=d) (dr:=nI j) (l6:=none) (l7:=none) (l8:=none) (l9:=none) (l10:=none) (l11:=none) (nx:=2) n M w [] [(1,.list (aE [])),(0,.list (aE bX))] none B (by simp;exact aH 0x384200000a82000821 rfl O) rfl rfl;rw [pp]at g4
 have q:dD 1000 (dj (aa 0)) (am 5) FY ah ⟨[cS (al w),cI d,cL 0,cS (al (nI j)),cL 1,none,none,none,none,none,none,none],[(1,.list (aE [])),(0,.list (aE bX))],2⟩=some (.next,⟨[cS (al w),cI d,cL 0,cS (al (nI j)),cL 1,Y,none,none,none,none,none,none],Z,2⟩):=by
  refine(bW (k:=.sgn w) (ps:=w.map fun c=>.str ⟨#[c]⟩) (σ₁:=⟨[cS (al w),cI d,cL 0,cS (al (nI j)),cL 1,none,none,none,none,none,none,none],[(1,.list (aE [])),(0,.list (aE bX))],2⟩) ?_ rfl (by simp;exact aH 0x3e8200010a82000821 rfl O)).trans e4;exact jq (p:=.str (al w)) (eS rfl) ((aC (by simp only [al,List.all_toArray];exact sj fun c C=>(BU (B c C)).2.2)).trans rfl)
 have S:∀t∈((w.map (CV (nI j) W)).flatten),t∈toks:=IC D w;have T:=Bs (nI j) W w;have U:(w.map (eN (nI j) W)).flatten.length<=500:=by
  rw [jl];have:=(kf _ S).2.1;exact ci 0x1f420800084051880008002184002a82000943 rfl O T this
 have l:ai (aK "str" (ab (.str "")) (ac (aa 4) aj) ia) (am 6) ⟨[cS (al w),cI d,cL 0,cS (al (nI j)),cL 1,Y,none,none,none,none,none,none],Z,2⟩
   = some (.next,⟨[cS (al w),cI d,cL 0,cS (al (nI j)),cL 1,Y,cS (al (w.map (eN (nI j) W)).flatten),none,none,none,none,none],Z,2⟩):=
  ax (ca rfl jB rfl (pX (σ:=⟨_,Z,2⟩) g4 (by exact(aH 0x1e84805000017d08000021 rfl U)))) rfl
 obtain⟨X,H⟩:∃X,(w.map (CV (nI j) W)).flatten=[40]::X:=by
  rw [G,cP,fy];unfold CV;rw [aF (by exact(fun a=>aH 0x8a4000010004520422 rfl h0 a))]
  split
  .exact⟨_,rfl⟩
  .exact⟨_,rfl⟩
 have R:(w.map (eN (nI j) W)).flatten=40::X.flatten:=by rw [jl,H];rfl
 have v:∀t∈X,t∈toks:=fun t N=>S t (by rw [H];exact .tail _ N)
 have A:X.length<=20:=by rw [H,cm]at T;exact bb 0xa04200040010c21080400a82000842 rfl O T
 have r1:Br [.str (al (X.flatten++[40]))] []=some (.bool false,[],[]):=by
  have:=xj (ts:=X++[[40]]) (fun t N=>by
   rcases kQ.mp N with h|h
   .exact v t h
   .rw [cJ.mp h];decide) (by rw [df];simp only [cm,fG];exact aH 0x4b1021000400d02000021 rfl A)
  rw [Bn,rk]at this
  have e:KV ((lB 0 X).bind fun m=>lB m [[40]])=false:=by cases lB 0 X<;>rfl
  rw [e]at this
  simpa using this
 have r2:Br [.str (al ((40::X.flatten)++[34,41]))] []=some (.bool false,[],[]):=by
  have:=DP S (by exact(bb 0x962040008002184000a82000842 rfl O T));rw [ng D,hb,H]at this
  exact this
 rw [R]at U l
 simp only [cm]at U
 have e6:∀x y:List Nat,Br [.str (al x)] []=some (.bool false,[],[])->Br [.str (al y)] []=some (.bool false,[],[])->dZ (am 7) Gw ah [.str (al x),.str (al y)] ⟨[cS (al w),cI d,cL 0,cS (al (nI j)),cL 1,Y,cS (al (40::X.flatten)),none,none,none,none,none],Z,2⟩
   = some (.next,⟨[cS (al w),cI d,cL 0,cS (al (nI j)),cL 1,Y,cS (al (40::X.flatten)),cS (al y),none,none,none,none],Z,2⟩):=by
  intro x y hx hy;have turn:∀(z:List Nat),Br [.str (al z)] []=some (.bool false,[],[])->Gw ⟨[cS (al w),cI d,cL 0,cS (al (nI j)),cL 1,Y,cS (al (40::X.flatten)),cS (al z),none,none,none,none],Z,2⟩=some (.next,⟨[cS (al w),cI d,cL 0,cS (al (nI j)),cL 1,Y,cS (al (40::X.flatten)),cS (al z),none,none,none,none],Z,2⟩):=fun z hz=>
   (ad (bq (aD (ak (bp (ps:=[.str (al z)]) (σ₁:=⟨[cS (al w),cI d,cL 0,cS (al (nI j)),cL 1,Y,cS (al (40::X.flatten)),cS (al z),none,none,none,none],Z,2⟩) rfl rfl rfl hz) rfl rfl) rfl))).trans rfl
  exact(bj (σ₁:=⟨[cS (al w),cI d,cL 0,cS (al (nI j)),cL 1,Y,cS (al (40::X.flatten)),cS (al x),none,none,none,none],Z,2⟩) rfl (turn x hx)).trans ((bj (σ₁:=⟨[cS (al w),cI d,cL 0,cS (al (nI j)),cL 1,Y,cS (al (40::X.flatten)),cS (al y),none,none,none,none],Z,2⟩) rfl (turn y hy)).trans rfl)
 have s:dD 1000 (dj (ey (ac (ae (bI (aa 6) (bU (ab (.int 1))) cr) (ab (.str (al [40]))) ba) (ac (ae (aa 6) (ab (.str (al [34,41]))) ba) aj)))) (am 7) Gw ah ⟨[cS (al w),cI d,cL 0,cS (al (nI j)),cL 1,Y,cS (al (40::X.flatten)),none,none,none,none,none],Z,2⟩
   = some (.next,⟨[cS (al w),cI d,cL 0,cS (al (nI j)),cL 1,Y,cS (al (40::X.flatten)),cS (al ((40::X.flatten)++[34,41])),none,none,none,none],Z,2⟩):=by
  have Q:bI (aa 6) (bU (ab (.int 1))) cr ⟨[cS (al w),cI d,cL 0,cS (al (nI j)),cL 1,Y,cS (al (40::X.flatten)),none,none,none,none,none],Z,2⟩=some (.str (al X.flatten),⟨[cS (al w),cI d,cL 0,cS (al (nI j)),cL 1,Y,cS (al (40::X.flatten)),none,none,none,none,none],Z,2⟩):=by
   refine eX rfl rfl rfl ?_
   rw [kS (by rw [cm];exact aH 0x1f41021000400be840840010021 rfl U)];have:=gj (40::X.flatten) (i:=1) (by rw [cm];exact aH 0x210004108020 rfl);show some (PV.str (Txt.slice _ (some ((1:Nat):Int)) none),_)=_;rw [this];rfl
  have N:ey (ac (ae (bI (aa 6) (bU (ab (.int 1))) cr) (ab (.str (al [40]))) ba) (ac (ae (aa 6) (ab (.str (al [34,41]))) ba) aj)) ⟨[cS (al w),cI d,cL 0,cS (al (nI j)),cL 1,Y,cS (al (40::X.flatten)),none,none,none,none,none],Z,2⟩
    = some (.tup [.str (al (X.flatten++[40])),.str (al ((40::X.flatten)++[34,41]))],⟨[cS (al w),cI d,cL 0,cS (al (nI j)),cL 1,Y,cS (al (40::X.flatten)),none,none,none,none,none],Z,2⟩):=
   fN (aw (g:=ac (ae (aa 6) (ab (.str (al [34,41]))) ba) aj) (ak Q rfl (add_str (by simp only [cm,fG];exact aH 0x3e81421000400be840840010021 rfl U))) (aw (g:=aj) (ak rfl rfl (add_str (by simp only [cm,fG];exact aH 0x1f40a208420008400be840840010021 rfl U))) rfl)) (by show 2<=2^20;decide)
  exact(bW (k:=.tup [.str (al (X.flatten++[40])),.str (al ((40::X.flatten)++[34,41]))]) (ps:=[.str (al (X.flatten++[40])),.str (al ((40::X.flatten)++[34,41]))]) (jq N rfl) rfl (show 2<1000 by decide)).trans (e6 _ _ r1 r2)
 obtain⟨V,e8,k8,k2⟩:=sA (d:=.int d) (drL:=nI j) (l5:=Y) (l6:=some (.str (al (40::X.flatten)))) (l7:=some (.str (al ((40::X.flatten)++[34,41])))) D O B (List.range' 0 10) (by decide) [] none none none ((2,.list [])::Z) 3 (by decide) (bZ _) (by rw [bg (by decide)];exact g4) cx;have u:dD 1000 (dj (aB dm (ac (ab (.int 10)) aj))) (am 9) Op ah ⟨[cS (al w),cI d,cL 0,cS (al (nI j)),cL 1,Y,cS (al (40::X.flatten)),cS (al ((40::X.flatten)++[34,41])),cL 2,none,none,none],(2,.list [])::Z,3⟩=some (.next,V):=by
  refine(bW (k:=.rng 0 10) (ps:=au (List.range' 0 10)) (jq (p:=.rng 0 10) rfl ?_) rfl (by decide)).trans e8;rw [mT (by decide)];rfl
 refine⟨V,?_,k2⟩;exact(ad rfl).trans ((ad e2).trans ((ad rfl).trans ((ad q).trans ((ad l).trans ((ad s).trans ((ad rfl).trans ((ad u).trans (aG (cT (eS k8))))))))))
theorem pV{a n:Nat}{σ:AS}(Z:n<=50000)(Y:a<2^50000):eI (.int (a:Int)) (.int (n:Int)) σ=some (.int ((a*2^n:Nat):Int),σ):=by
 refine dv (k:=Ra) ?_
 unfold Ra;rw [aC ⟨by exact sD,by exact aH 0x30d4054800940430d40a000021 rfl Z,lr (n:=50000) (by decide) (by simpa using Y)⟩,fp];rfl
theorem uy{a n:Nat}{Z:AS}:eQ (.int (a:Int)) (.int (n:Int)) Z=some (.int ((a/2^n:Nat):Int),Z):=by
 refine dv (k:=NC) ?_
 unfold NC;rw [aC (by exact(sD)),fp,show(2:Int)^n=((2^n:Nat):Int)by push_cast;rfl,nf]
theorem Nl{a h:Nat}{Z:AS}:iA (.int (a:Int)) (.int ((2^h-1:Nat):Int)) Z=some (.int ((a%2^h:Nat):Int),Z):=by
 refine dv (k:=QO) ?_
 unfold QO;rw [me,Nat.and_two_pow_sub_one_eq_mod]
theorem oH(a b:Nat):Builtin.bitOr (a:Int) (b:Int)=((a|||b:Nat):Int):=by
 unfold Builtin.bitOr Builtin.bitAnd;have W:decide (0<=Builtin.bitNot (a:Int))=false:=fh (by unfold Builtin.bitNot;exact fun Z=>aH 0x21480096b0014a021 rfl Z);have X:decide (0<=Builtin.bitNot (b:Int))=false:=fh (by unfold Builtin.bitNot;exact fun Z=>aH 0x21480096b0014a021 rfl Z);rw [W,X];have Y:∀c:Int,Builtin.bitNot (Builtin.bitNot c)=c:=fun c=>by unfold Builtin.bitNot;exact ce (gW 0x40429085204358d62020 rfl) (gW 0x10a4214810d6358042020 rfl)
 simp only [Y,fp]
theorem VN{q r h:Nat}{Z:AS}(Y:r<2^h):KA (.int ((q*2^h:Nat):Int)) (.int (r:Int)) Z=some (.int ((q*2^h+r:Nat):Int),Z):=by
 refine dv (k:=Vy) ?_
 unfold Vy;rw [oH,cF,<-Ij Y]
theorem UU{x s:Nat}{Y:AS}:Me (.int (x:Int)) (.int ((x/2^s*2^s:Nat):Int)) Y=some (.int ((x%2^s:Nat):Int),Y):=by
 refine dv (k:=Qi) ?_
 unfold Qi Builtin.bitXor;rw [oH,me];have W:x%2^s<2^s:=eU _ (jh s);have X:x=2^s*(x/2^s)|||x%2^s:=by rw [<-Ij W,dF]
 have Z:=dF x (2^s);rw [cF (x/2^s)];generalize x/2^s=q at *
 generalize x%2^s=r at *
 generalize 2^s*q=y at *
 have U:x|||y=x:=by
  rw [X];apply Ig;intro i;simp only [Gv];cases y.testBit i<;>cases r.testBit i<;>rfl
 have V:x&&&y=y:=by
  rw [X];apply Ig;intro i;simp only [Gv,Ku];cases y.testBit i<;>cases r.testBit i<;>rfl
 rw [U,V];show some ((x:Int)-(y:Int))=_;rw [show(x:Int)-(y:Int)=(r:Int)by exact ce (ci 0x20480091012c404400800010a21 rfl Z) (ci 0x4880960409404400800010821 rfl Z)]
theorem Pr{a b:Nat}{Z:AS}(X:a<2^50000)(Y:b<2^50000):cz (.int (a:Int)) (.int (b:Int)) Z=some (.int ((a*b:Nat):Int),Z):=by
 refine dv (k:=vG) ?_
 unfold vG;rw [lr (n:=50000) (by decide) (by simpa using X),lr (n:=50000) (by decide) (by simpa using Y)];rfl
theorem Ev{a b:Nat}{Z:AS}(h:b<=a):cO (.int (a:Int)) (.int (b:Int)) Z=some (.int ((a-b:Nat):Int),Z):=by
 show some (PV.int ((a:Int)-(b:Int)),Z)=_;rw [show(a:Int)-(b:Int)=((a-b:Nat):Int)by exact ce (ci 0x484091012c404400800010a21 rfl (aA (dY h))) (ci 0x204880960009404400800010821 rfl (aA (dY h)))]
theorem UY{q r:Int}{A b:Nat}(Y:0<=r)(Z:r<b)(h:q*b+r=A):q=((A/b:Nat):Int)/\r=((A%b:Nat):Int):=by
 have W:(0:Int)<b:=by exact hH 0x9005290800902121020014a022 rfl Y Z
 have U:(A:Int)/b=q:=by
  rw [<-h,Ad,Int.add_mul_ediv_right _ _ (by exact(fun X=>aH 0xa4004a820024014a422 rfl W X)),Int.ediv_eq_zero_of_lt Y Z,Int.zero_add]
 have V:(A:Int)%b=r:=by
  rw [<-h,Ad,Int.add_mul_emod_self_right,Int.emod_eq_of_lt Y Z]
 exact⟨by rw [<-U];rfl,by rw [<-V];rfl⟩
noncomputable abbrev Ui:SR:=(ap (fA (aa 6) (ab (.int 1)) cO (am 6))
 (ap (fA (aa 7) (aa 2) jg (am 7))
 ah))
noncomputable abbrev QX(V W X Y Z:Option PV)(b:Nat)(q r:Int):AS:=⟨[V,W,cI (b:Int),X,Y,Z,cI q,cI r],[],0⟩
theorem BT{l0 l1 l3 l4 l5:Option PV}{b:Nat}:∀(k N:Nat) (q r:Int),k<N->-((k*b:Nat):Int)<=r->r<b->
  vS fun W Y=>sR (eE (aq (ae (aa 7) (ab (.int 0)) mQ)) Ui ah N (QX l0 l1 l3 l4 l5 b q r)=some (.next,QX l0 l1 l3 l4 l5 b W Y)) (0<=Y) (Y<b) (W*b+Y=q*b+r)
 |_,0,_,_,h,_,_=>absurd h (ix _)
 |k,N+1,q,r,T,U,S=>by
  have V:aq (ae (aa 7) (ab (.int 0)) mQ) (QX l0 l1 l3 l4 l5 b q r)=some (decide (r<0),QX l0 l1 l3 l4 l5 b q r):=aD (ak rfl rfl rfl) rfl;dsimp only [gX,gY]
  by_cases X:r<0
  .rw [dq X]at V
   rw [V];dsimp only;have Z:Ui (QX l0 l1 l3 l4 l5 b q r)=some (.next,QX l0 l1 l3 l4 l5 b (q-1) (r+b)):=rfl;rw [Z];dsimp only;cases k with
   |zero=>simp at U;exact(gW 0x1000a5010052042422 rfl X U:False).elim
   |succ k=>
    rw [Nat.succ_mul]at U
    obtain⟨W,Y,e,g1,g2,g3⟩:=BT (l0:=l0) (l1:=l1) (l3:=l3) (l4:=l4) (l5:=l5) (b:=b) k N (q-1) (r+b) (by exact(DV T)) (by exact(qf 0x8120408004b50102020000496a021 rfl U)) (by exact(hH 0x900120409210052042421 rfl X));exact⟨W,Y,e,g1,g2,by rw [g3,Int.sub_mul];exact ce (FA 0x5004080048502001211810c12020 rfl) (FA 0x90a04002423021820a00812020 rfl)⟩
  .rw [fh X]at V
   rw [V];exact⟨q,r,rfl,by exact gW 0x1000a5010052043021 rfl X,S,rfl⟩
noncomputable def Lk(Z:bO):bO:=cB Lr IH Jo (fun _=>[]) [] (fun n=>LP Z 100 n)
noncomputable def DG(Z:bO):bO:=cB IW Fk En (fun _=>[]) [] (fun n=>Fa Z 100 n)
theorem Qo(a b c d e f:PV):dw Lr IH Jo ([a,b,c,d,e,f]++[]) ([]++[])=⟨[some a,some b,some c,some d,some e,some f,none,none],[],0⟩:=by left
theorem Hn(a b c:PV):dw IW Fk En ([a,b,c]++[]) ([]++[])=⟨[some a,some b,some c,none,none,none,none,none,none,none,none],[],0⟩:=by left
theorem gA(q r:Int)(Z:AS):ie ([]:List AO).length (some (.ret (.tup [.int q,.int r]),Z))=some (.tup [.int q,.int r],[],[]):=rfl
noncomputable def Sm(k a:Nat):Prop:=a<2^k
theorem Sm.lt{k a:Nat}(h:Sm k a):a<2^k:=h
theorem Sm.mono{k m a:Nat}(h:Sm k a)(Z:k<=m):Sm m a:=fj h (rF (by decide) Z)
theorem Sm.le{k a b:Nat}(h:Sm k a)(Z:b<=a):Sm k b:=rN Z h
theorem Sm.mul{k m a b:Nat}(h:Sm k a)(Z:Sm m b):Sm (k+m) (a*b):=by
 unfold Sm at *
 rw [jO];exact Nat.mul_lt_mul_of_lt_of_le h (iR Z) (rN (jy _) Z)
theorem Sm.add{k a b:Nat}(h:Sm k a)(Z:Sm k b):Sm (k+1) (a+b):=by
 unfold Sm at *
 rw [ky];exact gP 0x6010000104210086300a21008010840000423 rfl h Z (cF _ 2)
theorem Sm.pow{k h:Nat}(Z:h<k):Sm k (2^h):=zM (by decide) Z
theorem IM{Y:bO}{a b n:Nat}(h:Builtin.Int.intBits (a:Int)<=n+4000)(X:0<b)(Z:b<2^8900):DG Y [.int (a:Int),.int (b:Int),.int (n:Int)] []=some (.tup [.int ((a/b:Nat):Int),.int ((a%b:Nat):Int)],[],[]):=by
 unfold DG;rw [cc (σ:=⟨[cI (a:Int),cI (b:Int),cI (n:Int),none,none,none,none,none,none,none,none],[],0⟩) rfl (Hn _ _ _)];unfold Fa;have U:aq (ae (ae (aK "int" (aa 0) aj gT) (aa 2) cO) (ab (.int 4000)) PL) ⟨[cI (a:Int),cI (b:Int),cI (n:Int),none,none,none,none,none,none,none,none],[],0⟩=some (true,⟨[cI (a:Int),cI (b:Int),cI (n:Int),none,none,none,none,none,none,none,none],[],0⟩):=by
  rw [show true=decide (((Builtin.Int.intBits (a:Int):Nat):Int)-(n:Int)<=4000)from(dq (by exact(bb 0xfa02a42048009620201f4050804000021 rfl h))).symm];exact aD (ak (ak (ca rfl rfl rfl rfl) rfl rfl) rfl rfl) rfl
 have V:bF (aB vh (ac (aa 0) (ac (aa 1) aj))) ⟨[cI (a:Int),cI (b:Int),cI (n:Int),none,none,none,none,none,none,none,none],[],0⟩=some (.ret (.tup [.int ((a/b:Nat):Int),.int ((a%b:Nat):Int)]),⟨[cI (a:Int),cI (b:Int),cI (n:Int),none,none,none,none,none,none,none,none],[],0⟩):=by
  refine cT (bN (ps:=[.int (a:Int),.int (b:Int)]) rfl ?_);show(if _ then _ else _)=_;rw [aC ⟨by exact fun W=>aH 0x290012a0800008422 rfl X W,oS (n:=8900) (by decide) (by simpa using Z)⟩,nf,ub _ (by exact(aH 0x9005280800008421 rfl X))];rfl
 rw [aG ((bQ U).trans (aG V))];exact gA _ _ _
theorem UD{C88:bO}{a12 a3 b1 b2 h:Nat}(j:a12<b1*2^h->C88 [.int (a12:Int),.int (b1:Int),.int (h:Int)] []=some (.tup [.int ((a12/b1:Nat):Int),.int ((a12%b1:Nat):Int)],[],[]))
  (I:1<=h/\h<=4000) (A:a3<2^h) (V:b2<2^h) (N:b1<2^h) (u:2^h<=2*b1) (B:a12<b1*2^h+b2):
  Lk C88 [.int (a12:Int),.int (a3:Int),.int ((b1*2^h+b2:Nat):Int),.int (b1:Int),.int (b2:Int),.int (h:Int)] []=some (.tup [.int (((a12*2^h+a3)/(b1*2^h+b2):Nat):Int),.int (((a12*2^h+a3)%(b1*2^h+b2):Nat):Int)],[],[]):=by
 have W:0<2^h:=jh h;have M:0<b1:=by exact bb 0x2108002184000840000422 rfl N u
 have Y:Sm 4001 (2^h):=Sm.pow (by exact(aH 0x7d0940008403e80a000021 rfl I.2));have X:Sm 4001 b1:=Y.le (by exact(hV N));have S:Sm 4001 b2:=Y.le (by exact(hV V));have x:Sm 9000 a12:=((X.mul Y).add ((S.mono (by decide)))).mono (by decide) |>.le (by exact(ci 0x80100800004400804000421 rfl B))
 unfold Lk;rw [cc (σ:=⟨[cI (a12:Int),cI (a3:Int),cI ((b1*2^h+b2:Nat):Int),cI (b1:Int),cI (b2:Int),cI (h:Int),none,none],[],0⟩) rfl (Qo _ _ _ _ _ _)];unfold LP;have R:eI (.int 1) (.int (h:Int))=fun T=>some (.int ((2^h:Nat):Int),T):=by
  funext T
  have:=pV (a:=1) (n:=h) (σ:=T) (by exact(FR I.2)) (uD (by decide));rw [gm]at this
  exact this
 have G:aq (ae (ae (aa 0) (aa 5) eQ) (aa 3) jd) ⟨[cI (a12:Int),cI (a3:Int),cI ((b1*2^h+b2:Nat):Int),cI (b1:Int),cI (b2:Int),cI (h:Int),none,none],[],0⟩=some (((a12/2^h:Nat):Int)==(b1:Int),⟨[cI (a12:Int),cI (a3:Int),cI ((b1*2^h+b2:Nat):Int),cI (b1:Int),cI (b2:Int),cI (h:Int),none,none],[],0⟩):=
  aD (ak (ak rfl rfl uy) rfl rfl) rfl
 have U:vS fun(q:Nat) (r:Nat)=>Ml ((di (aq (ae (ae (aa 0) (aa 5) eQ) (aa 3) jd)) (ap (nB (ey (ac (ae (ae (ab (.int 1)) (aa 5) eI) (ab (.int 1)) cO) (ac (ae (ae (aa 0) (ae (aa 3) (aa 5) eI) cO) (aa 3) ba) aj))) 6 7)
 ah) (ap (ai (bc C88 (ac (aa 0) (ac (aa 3) (ac (aa 5) aj)))) (dK 2 (aT (am 6) (aT (am 7) cM))))
 ah)) ⟨[cI (a12:Int),cI (a3:Int),cI ((b1*2^h+b2:Nat):Int),cI (b1:Int),cI (b2:Int),cI (h:Int),none,none],[],0⟩=some (.next,⟨[cI (a12:Int),cI (a3:Int),cI ((b1*2^h+b2:Nat):Int),cI (b1:Int),cI (b2:Int),cI (h:Int),cI (q:Int),cI (r:Int)],[],0⟩)) (a12=q*b1+r) (q<2^h) (r*2^h+a3<q*b2+(b1*2^h+b2)) (Sm 20000 r):=by
  by_cases H:a12/2^h=b1
  .have Z:=dF a12 (2^h)
   have t:=eU a12 W;rw [H]at Z
   generalize a12%2^h=lo at *
   rw [cF (2^h)]at Z
   have C:b1*2^h<=a12:=by exact EH Z
   refine⟨2^h-1,a12-b1*2^h+b1,?_,?_,by exact bb 0x8000084200840010821 rfl (aA (KG W)),?_,(((x.le (An _ _)).add (X.mono (by decide))).mono (by decide))⟩
   .rw [show(((a12/2^h:Nat):Int)==(b1:Int))=true by simp [H]]at G
    refine(bQ G).trans ((ad ?_).trans rfl);exact(ul (fN (ps:=[.int ((2^h-1:Nat):Int),.int ((a12-b1*2^h+b1:Nat):Int)]) (aw (g:=ac (ae (ae (aa 0) (ae (aa 3) (aa 5) eI) cO) (aa 3) ba) aj)
     (ak (ak rfl rfl (by rw [R])) rfl (Ev (b:=1) (by exact(KG W))))
     (aw (g:=aj) (ak (ak rfl (ak rfl rfl (pV (by exact(FR I.2)) (X.mono (by decide)).lt)) (Ev C)) rfl rfl) rfl)) (by show 2<=2^20;decide))).trans rfl
   .rw [Nat.sub_mul,gm,cF (2^h)]
    have:b1<=b1*2^h:=zT _ W;exact bB (nL 0x40300800110000900200c02144400800010a22 rfl (aA (dY this)) (aA (EH Z))) (nL 0x100100c02000400900200c02104400800010822 rfl (aA (dY this)) (aA (EH Z)))
   .have z:a12-b1*2^h=lo:=by exact bB (gP 0x100c000880000c02104400800010a22 rfl Z (aA (EH Z))) (gP 0x3004000880000c02144400800010822 rfl Z (aA (EH Z)))
    rw [z,Nat.sub_mul,gm,hO];have P:(lo+1)*2^h<=b2*2^h:=ku _ (by exact(gP 0x10021180400800300402104400804000422 rfl B Z));rw [hO,gm]at P
    rw [cF (2^h) b2];have:b2<=b2*2^h:=zT _ W;exact UF 0x140600880100060080210423014040085118020100400840000423 rfl A P (aA (dY this))
  .have Q:a12<b1*2^h:=by
    have i:a12/2^h<b1+1:=by
     rw [mZ W,hO,gm];exact gP 0x100c021002100060108010840000422 rfl V B
    have:a12/2^h<b1:=by exact(eF H).elim (fun E=>EW E) (fun E=>(bb 0x20084210804000422 rfl i E:False).elim)
    rwa [mZ W]at this
   have Z:=dF a12 b1;have t:=eU a12 M;have k:a12/b1<2^h:=by rw [mZ M,cF];exact Q
   refine⟨a12/b1,a12%b1,?_,by rw [cF];exact bB (ci 0x40000840004400800010a21 rfl Z) (ci 0x80100002004400800010821 rfl Z),k,?_,(x.le (Nat.mod_le _ _)).mono (by decide)⟩
   .rw [show(((a12/2^h:Nat):Int)==(b1:Int))=false from gp.mpr (fun e=>H (Int.natCast_inj.mp e))]at G
    exact(bq G).trans ((ad (ax (bp (ps:=[.int (a12:Int),.int (b1:Int),.int (h:Int)]) rfl rfl rfl (j Q)) rfl)).trans rfl)
   .have:(a12%b1+1)*2^h<=b1*2^h:=ku _ t
    rw [hO,gm]at this
    exact FB 0x140300880100020082118020100400840000422 rfl A this
 obtain⟨q,r,z,g1,g2,g3,g4⟩:=U;have d:ai (ae (ae (ae (aa 7) (aa 5) eI) (aa 1) KA) (ae (aa 6) (aa 4) cz) cO) (am 7) ⟨[cI (a12:Int),cI (a3:Int),cI ((b1*2^h+b2:Nat):Int),cI (b1:Int),cI (b2:Int),cI (h:Int),cI (q:Int),cI (r:Int)],[],0⟩
   = some (.next,QX (some (.int (a12:Int))) (some (.int (a3:Int))) (some (.int (b1:Int))) (some (.int (b2:Int))) (some (.int (h:Int))) (b1*2^h+b2) q (((r*2^h+a3:Nat):Int)-((q*b2:Nat):Int))):=
  ax (ak (ak (ak rfl rfl (pV (by exact(FR I.2)) (g4.mono (by decide)).lt)) rfl (VN A)) (ak rfl rfl (Pr ((Y.le (by exact(hV g2))).mono (by decide)).lt (S.mono (by decide)).lt)) rfl) rfl
 have D:q*b2<=2*(b1*2^h+b2):=by
  have y:q*b2<=2^h*2^h:=GM (by exact(hV g2)) (by exact(hV V));have F:2^h*2^h<=2*b1*2^h:=ku _ u;rw [oF]at F
  exact gP 0x60100421800008802184000840000022 rfl y F
 obtain⟨v,w,f,l,m,o⟩:=BT (l0:=some (.int (a12:Int))) (l1:=some (.int (a3:Int))) (l3:=some (.int (b1:Int))) (l4:=some (.int (b2:Int))) (l5:=some (.int (h:Int))) (b:=b1*2^h+b2) 2 100 q (((r*2^h+a3:Nat):Int)-((q*b2:Nat):Int)) (by decide) (by exact(nL 0x24801804960801008434b501100201086000021 rfl D)) (by exact(nL 0x801804910121000024b12120060108020800010421 rfl g3));have O:v*((b1*2^h+b2:Nat):Int)+w=((a12*2^h+a3:Nat):Int):=by
  rw [o];have y:(q:Int)*((b1*2^h+b2:Nat):Int)=((q*b1*2^h+q*b2:Nat):Int):=by
   rw [<-uj,rT,oF]
  have F:a12*2^h=q*b1*2^h+r*2^h:=by rw [g1,hO]
  rw [y,F];exact ce (gP 0x3008000084908123008024b0200004912020 rfl) (gP 0x3024400804960c000092210020000424a020 rfl)
 obtain⟨p,s⟩:=UY l m O;rw [ad z,ad d,ad f,aG (cT (fN (ps:=[.int v,.int w]) rfl (by show 2<=2^20;decide))),p,s];exact gA _ _ _
theorem yt(h:Nat):2^(2*h)=2^h*2^h:=by rw [Nat.two_mul,jO]
theorem zh(a h:Nat):a/2^(2*h)=a/2^h/2^h:=by rw [yt,GS]
theorem PE{a b h W Z X Y:Nat}(U:0<b)(H:W=a/2^h/b)(P:Z=a/2^h%b)(Q:X=(Z*2^h+a%2^h)/b)(R:Y=(Z*2^h+a%2^h)%b):X<2^h/\W*2^h+X=a/b/\Y=a%b:=by
 have O:0<2^h:=jh h;have T:Z<b:=by rw [P];exact eU _ U
 have N:a%2^h<2^h:=eU _ O;have V:Y<b:=by rw [R];exact eU _ U
 have E:W*b+Z=a/2^h:=by rw [H,P,cF];exact dF _ _
 have F:X*b+Y=Z*2^h+a%2^h:=by rw [Q,R,cF];exact dF _ _
 have G:a/2^h*2^h+a%2^h=a:=by rw [cF];exact dF _ _
 have S:Z*2^h+a%2^h<2^h*b:=by
  have:(Z+1)*2^h<=b*2^h:=ku _ T;rw [hO,gm]at this
  rw [cF (2^h) b];exact gP 0x3000020082118020100400840000422 rfl N this
 refine⟨?_,?_⟩
 .rw [Q,mZ U];exact S
 .have:(W*2^h+X)*b+Y=a:=by
   rw [hO,Nat.add_assoc,F,HJ,<-Nat.add_assoc,<-hO,E,G]
  have u:(W*2^h+X)*b+Y=(a/b)*b+a%b:=by rw [this,cF (a/b)];exact(dF _ _).symm
  have I:a/b=W*2^h+X:=by
   rw [<-this,cF,Gf U,uF V,Nat.add_zero]
  have M:a%b=Y:=by
   rw [<-this,cF,Hx,uG V]
  exact⟨I.symm,M.symm⟩
noncomputable abbrev AD(Z:bO):SR:=(ap (ai (ae (aa 2) (ab (.int 1)) eQ) (am 4))
 (ap (ai (ae (ae (ab (.int 1)) (aa 4) eI) (ab (.int 1)) cO) (am 5))
 (ap (nB (ey (ac (ae (aa 1) (aa 4) eQ) (ac (ae (aa 1) (aa 5) iA) aj))) 6 7)
 (ap (ai (bc Z (ac (ae (aa 0) (aa 2) eQ) (ac (ae (ae (aa 0) (aa 4) eQ) (aa 5) iA) (ac (aa 1) (ac (aa 6) (ac (aa 7) (ac (aa 4) aj))))))) (dK 2 (aT (am 8) (aT (am 9) cM))))
 (ap (ai (bc Z (ac (aa 9) (ac (ae (aa 0) (aa 5) iA) (ac (aa 1) (ac (aa 6) (ac (aa 7) (ac (aa 4) aj))))))) (dK 2 (aT (am 10) (aT (am 9) cM))))
 (ap (di (aq (aa 3)) (ap (fA (aa 9) (ab (.int 1)) eQ (am 9))
 ah) ah)
 (ap (bF (ey (ac (ae (ae (aa 8) (aa 4) eI) (aa 10) KA) (ac (aa 9) aj))))
 ah)))))))
noncomputable abbrev sC(a b n X h m V W Y r Z:Option PV):AS:=⟨[a,b,n,X,h,m,V,W,Y,r,Z],[],0⟩
theorem JW{C95:bO}{a b h pd:Nat}(D:∀Z T:Nat,Z<b->T<2^h->C95 [.int (Z:Int),.int (T:Int),.int (b:Int),.int ((b/2^h:Nat):Int),.int ((b%2^h:Nat):Int),.int (h:Int)] []=some (.tup [.int (((Z*2^h+T)/b:Nat):Int),.int (((Z*2^h+T)%b:Nat):Int)],[],[]))
  (M:h<=4000) (E:0<b) (I:Sm 8001 b) (C:a<b*2^(2*h)) (O:pd<2):
  ∃S,AD C95 (sC (some (.int (a:Int))) (some (.int (b:Int))) (some (.int ((2*h:Nat):Int))) (some (.int (pd:Int))) none none none none none none none)=some (.ret (.tup [.int ((a/b:Nat):Int),.int (((if pd=0 then a%b else a%b/2):Nat):Int)]),S):=by
 have N:0<2^h:=jh h;have l:a%2^h<2^h:=eU _ N;have t:Sm 20000 a:=((I.mul (Sm.pow (k:=8001) (h:=2*h) (by exact(aH 0x3e8250004308403e80a000041 rfl M)))).mono (by decide)).le (iR C);have V:a/2^(2*h)<b:=by rw [mZ (jh _)];exact C
 have H:a/2^(2*h)*2^h+a/2^h%2^h=a/2^h:=by rw [zh,cF];exact dF _ _
 have u:=D (a/2^(2*h)) (a/2^h%2^h) V (eU _ N);rw [H]at u
 have i:=D (a/2^h%b) (a%2^h) (eU _ E) l;obtain⟨q,s,G⟩:=PE (a:=a) (b:=b) (h:=h) E rfl rfl rfl rfl;generalize P:a/2^h/b=Y at *
 generalize o:a/2^h%b=U at *
 generalize m:(U*2^h+a%2^h)/b=W at *
 generalize p:(U*2^h+a%2^h)%b=X at *
 have Q:Sm 20000 Y:=by rw [<-P];exact t.le (bJ (rm _ _) (rm _ _))
 have v:ai (ae (aa 2) (ab (.int 1)) eQ) (am 4) (sC (some (.int (a:Int))) (some (.int (b:Int))) (some (.int ((2*h:Nat):Int))) (some (.int (pd:Int))) none none none none none none none)=some (.next,(sC (some (.int (a:Int))) (some (.int (b:Int))) (some (.int ((2*h:Nat):Int))) (some (.int (pd:Int))) (some (.int (h:Int))) none none none none none none)):=by
  refine ax (ak rfl rfl (uy (a:=2*h) (n:=1))) ?_
  rw [show 2*h/2^1=h by exact bB (ci 0x100000084010c200004310821 rfl (dF _ 2)) (ci 0x10002104200844010c200004310a22 rfl (dF _ 2) (eU _ (y:=2) (by decide)))];rfl
 have w:ai (ae (ae (ab (.int 1)) (aa 4) eI) (ab (.int 1)) cO) (am 5) (sC (some (.int (a:Int))) (some (.int (b:Int))) (some (.int ((2*h:Nat):Int))) (some (.int (pd:Int))) (some (.int (h:Int))) none none none none none none)=some (.next,sC (some (.int (a:Int))) (some (.int (b:Int))) (some (.int ((2*h:Nat):Int))) (some (.int (pd:Int))) (some (.int (h:Int))) (some (.int ((2^h-1:Nat):Int))) none none none none none):=by
  refine ax (ak (ak rfl rfl (pV (a:=1) (n:=h) (by exact(FR M)) (uD (by decide)))) rfl (Ev (b:=1) (by rw [gm];exact N))) ?_
  rw [gm];rfl
 have x:nB (ey (ac (ae (aa 1) (aa 4) eQ) (ac (ae (aa 1) (aa 5) iA) aj))) 6 7 (sC (some (.int (a:Int))) (some (.int (b:Int))) (some (.int ((2*h:Nat):Int))) (some (.int (pd:Int))) (some (.int (h:Int))) (some (.int ((2^h-1:Nat):Int))) none none none none none)=some (.next,sC (some (.int (a:Int))) (some (.int (b:Int))) (some (.int ((2*h:Nat):Int))) (some (.int (pd:Int))) (some (.int (h:Int))) (some (.int ((2^h-1:Nat):Int))) (some (.int ((b/2^h:Nat):Int))) (some (.int ((b%2^h:Nat):Int))) none none none):=by
  exact(ul (fN (ps:=[.int ((b/2^h:Nat):Int),.int ((b%2^h:Nat):Int)]) (aw (g:=ac (ae (aa 1) (aa 5) iA) aj) (ak rfl rfl uy) (aw (g:=aj) (ak rfl rfl Nl) rfl)) (by show 2<=2^20;decide))).trans rfl
 have z:ai (bc C95 (ac (ae (aa 0) (aa 2) eQ) (ac (ae (ae (aa 0) (aa 4) eQ) (aa 5) iA) (ac (aa 1) (ac (aa 6) (ac (aa 7) (ac (aa 4) aj))))))) (dK 2 (aT (am 8) (aT (am 9) cM))) (sC (some (.int (a:Int))) (some (.int (b:Int))) (some (.int ((2*h:Nat):Int))) (some (.int (pd:Int))) (some (.int (h:Int))) (some (.int ((2^h-1:Nat):Int))) (some (.int ((b/2^h:Nat):Int))) (some (.int ((b%2^h:Nat):Int))) none none none)=some (.next,sC (some (.int (a:Int))) (some (.int (b:Int))) (some (.int ((2*h:Nat):Int))) (some (.int (pd:Int))) (some (.int (h:Int))) (some (.int ((2^h-1:Nat):Int))) (some (.int ((b/2^h:Nat):Int))) (some (.int ((b%2^h:Nat):Int))) (some (.int (Y:Int))) (some (.int (U:Int))) none):=
  ax (bp (aw (g:=ac (ae (ae (aa 0) (aa 4) eQ) (aa 5) iA) (ac (aa 1) (ac (aa 6) (ac (aa 7) (ac (aa 4) aj))))) (ak rfl rfl uy) (aw (g:=ac (aa 1) (ac (aa 6) (ac (aa 7) (ac (aa 4) aj)))) (ak (ak rfl rfl uy) rfl Nl) rfl)) rfl rfl u) rfl
 have A:ai (bc C95 (ac (aa 9) (ac (ae (aa 0) (aa 5) iA) (ac (aa 1) (ac (aa 6) (ac (aa 7) (ac (aa 4) aj))))))) (dK 2 (aT (am 10) (aT (am 9) cM))) (sC (some (.int (a:Int))) (some (.int (b:Int))) (some (.int ((2*h:Nat):Int))) (some (.int (pd:Int))) (some (.int (h:Int))) (some (.int ((2^h-1:Nat):Int))) (some (.int ((b/2^h:Nat):Int))) (some (.int ((b%2^h:Nat):Int))) (some (.int (Y:Int))) (some (.int (U:Int))) none)=some (.next,sC (some (.int (a:Int))) (some (.int (b:Int))) (some (.int ((2*h:Nat):Int))) (some (.int (pd:Int))) (some (.int (h:Int))) (some (.int ((2^h-1:Nat):Int))) (some (.int ((b/2^h:Nat):Int))) (some (.int ((b%2^h:Nat):Int))) (some (.int (Y:Int))) (some (.int (X:Int))) (some (.int (W:Int)))):=
  ax (bp (aw (g:=ac (ae (aa 0) (aa 5) iA) (ac (aa 1) (ac (aa 6) (ac (aa 7) (ac (aa 4) aj))))) rfl (aw (g:=ac (aa 1) (ac (aa 6) (ac (aa 7) (ac (aa 4) aj)))) (ak rfl rfl Nl) rfl)) rfl rfl i) rfl
 have B:∀r:Nat,bF (ey (ac (ae (ae (aa 8) (aa 4) eI) (aa 10) KA) (ac (aa 9) aj))) (sC (some (.int (a:Int))) (some (.int (b:Int))) (some (.int ((2*h:Nat):Int))) (some (.int (pd:Int))) (some (.int (h:Int))) (some (.int ((2^h-1:Nat):Int))) (some (.int ((b/2^h:Nat):Int))) (some (.int ((b%2^h:Nat):Int))) (some (.int (Y:Int))) (some (.int (r:Int))) (some (.int (W:Int))))=some (.ret (.tup [.int ((a/b:Nat):Int),.int (r:Int)]),sC (some (.int (a:Int))) (some (.int (b:Int))) (some (.int ((2*h:Nat):Int))) (some (.int (pd:Int))) (some (.int (h:Int))) (some (.int ((2^h-1:Nat):Int))) (some (.int ((b/2^h:Nat):Int))) (some (.int ((b%2^h:Nat):Int))) (some (.int (Y:Int))) (some (.int (r:Int))) (some (.int (W:Int)))):=fun r=>by
  rw [<-s];exact cT (fN (aw (g:=ac (aa 9) aj) (ak (ak rfl rfl (pV (by exact(FR M)) (Q.mono (by decide)).lt)) rfl (VN q)) rfl) (by show 2<=2^20;decide))
 by_cases F:pd=0
 .subst F
  rw [aC rfl,<-G];exact⟨_,(ad v).trans ((ad w).trans ((ad x).trans ((ad z).trans ((ad A).trans ((ad (bq rfl)).trans (aG (B X)))))))⟩
 .have:pd=1:=by exact bB (aH 0x1080000882000421 rfl O) ((eF F).elim (fun R=>(aH 0x2000421 rfl R:False).elim) (fun R=>KG R))
  subst this;rw [aF (by decide),<-G];have j:fA (aa 9) (ab (.int 1)) eQ (am 9) (sC (some (.int (a:Int))) (some (.int (b:Int))) (some (.int ((2*h:Nat):Int))) (some (.int ((1:Nat):Int))) (some (.int (h:Int))) (some (.int ((2^h-1:Nat):Int))) (some (.int ((b/2^h:Nat):Int))) (some (.int ((b%2^h:Nat):Int))) (some (.int (Y:Int))) (some (.int (X:Int))) (some (.int (W:Int))))=some (.next,sC (some (.int (a:Int))) (some (.int (b:Int))) (some (.int ((2*h:Nat):Int))) (some (.int ((1:Nat):Int))) (some (.int (h:Int))) (some (.int ((2^h-1:Nat):Int))) (some (.int ((b/2^h:Nat):Int))) (some (.int ((b%2^h:Nat):Int))) (some (.int (Y:Int))) (some (.int ((X/2:Nat):Int))) (some (.int (W:Int)))):=
   oy rfl rfl (uy (n:=1)) rfl
  exact⟨_,(ad v).trans ((ad w).trans ((ad x).trans ((ad z).trans ((ad A).trans ((ad ((bQ rfl).trans ((ad j).trans rfl))).trans (aG (B (X/2))))))))⟩
noncomputable def AI:bO:=fun _ _=>none
noncomputable def RN:bO:=DG (Lk (DG AI))
theorem JJ{b h:Nat}(W:1<=h/\h<=4000)(R:2^(2*h)<=2*b)(U:b<2^(2*h))(Z X:Nat)(Q:Z<b)(O:X<2^h):
  Lk (DG AI) [.int (Z:Int),.int (X:Int),.int (b:Int),.int ((b/2^h:Nat):Int),.int ((b%2^h:Nat):Int),.int (h:Int)] []=some (.tup [.int (((Z*2^h+X)/b:Nat):Int),.int (((Z*2^h+X)%b:Nat):Int)],[],[]):=by
 have T:0<2^h:=jh h;have e:b/2^h*2^h+b%2^h=b:=by rw [cF];exact dF _ _
 have Y:b/2^h<2^h:=by rw [mZ T,<-yt];exact U
 have V:2^h<=2*(b/2^h):=by
  obtain⟨k,rfl⟩:∃k,h=k+1:=⟨h-1,by exact bB (bb 0x42000820004200840010a21 rfl (aA (Fy W.1))) (bb 0x40108002004200840010821 rfl (aA (Fy W.1)))⟩;have:2^k<=b/2^(k+1):=by
   rw [Nat.le_div_iff_mul_le T,<-jO];have:2^(2*(k+1))=2*2^(k+(k+1)):=by rw [show 2*(k+1)=k+(k+1)+1 by exact bB (aH 0x10842000800108210004218020 rfl) (aH 0x10800210c21084001000210020 rfl),ky,cF]
   exact ci 0x402000420086000a210086000022 rfl R this
  generalize b/2^(k+1)=q at *
  rw [ky];exact ci 0x4021880008002188020840000042 rfl this (cF _ 2)
 have S:0<b/2^h:=by exact bb 0x2108002184000840000422 rfl Y V
 have:=UD (C88:=DG AI) (a12:=Z) (a3:=X) (b1:=b/2^h) (b2:=b%2^h) (h:=h) (fun N=>by
  refine IM ?_ S ?_
  .have P:Z<2^(2*h):=Nat.lt_trans Q U
   have:=(kG (m:=2*h) (x:=(Z:Int))).mpr (by simpa using P);exact bb 0x3e80a0008200040010c2000403e80a000022 rfl W.2 this
  .exact fj Y (rF (by decide) (by exact(aH 0x1162140000403e80a000021 rfl W.2)))) W O (eU _ T) Y V (by rw [e];exact Q)
 rw [e]at this
 exact this
theorem Nd (Z:bO):DG Z=cB IW Fk En (fun _=>[]) [] (fun n=>Fa Z 100 n):=rfl
theorem UA{a b n:Nat}(X:1<=n/\n<=7000)(V:2^n<=2*b)(Y:b<2^n)(O:a<b*2^n):RN [.int (a:Int),.int (b:Int),.int (n:Int)] []=some (.tup [.int ((a/b:Nat):Int),.int ((a%b:Nat):Int)],[],[]):=by
 have A:0<2^n:=jh n;have H:0<b:=by exact bb 0x10002108001004210086000022 rfl V Y
 have S:Sm 7000 b:=Sm.mono (k:=n) Y X.2;have C:Sm 20000 a:=((S.mul (Sm.pow (k:=7001) (h:=n) (by exact(aH 0xdac940008406d60a000021 rfl X.2)))).mono (by decide)).le (iR O)
 by_cases P:Builtin.Int.intBits (a:Int)<=n+4000
 .exact IM P H (S.mono (by decide)).lt
 .have I:n>4000/\True:=by
   refine⟨?_,trivial⟩;rcases Nat.lt_or_ge 4000 n with h|h
   .exact h
   .exfalso;apply P
    have:a<2^(n+n):=by rw [jO];exact fj O (ku _ (by exact(hV Y)))
    have:=(kG (m:=n+n) (x:=(a:Int))).mpr (by simpa using this);exact(bb 0x4010080000403e80a1000201f4050804000c23 rfl P h this:False).elim
  rw [show RN=DG (Lk (DG AI))from rfl,Nd (Lk (DG AI)),cc (σ:=sC (some (.int (a:Int))) (some (.int (b:Int))) (some (.int (n:Int))) none none none none none none none none) rfl (Hn _ _ _)];unfold Fa;have D:aq (ae (ae (aK "int" (aa 0) aj gT) (aa 2) cO) (ab (.int 4000)) PL) (sC (some (.int (a:Int))) (some (.int (b:Int))) (some (.int (n:Int))) none none none none none none none none)=some (false,sC (some (.int (a:Int))) (some (.int (b:Int))) (some (.int (n:Int))) none none none none none none none none):=by
   rw [show false=decide (((Builtin.Int.intBits (a:Int):Nat):Int)-(n:Int)<=4000)from(fh (by exact(fun T=>bb 0xfa02a42048009620201f4050804000c22 rfl P T))).symm];exact aD (ak (ak (ca rfl rfl rfl rfl) rfl rfl) rfl rfl) rfl
  have N:ai (ae (aa 2) (ab (.int 1)) iA) (am 3) (sC (some (.int (a:Int))) (some (.int (b:Int))) (some (.int (n:Int))) none none none none none none none none)=some (.next,sC (some (.int (a:Int))) (some (.int (b:Int))) (some (.int (n:Int))) (some (.int ((n%2:Nat):Int))) none none none none none none none):=
   ax (ak rfl rfl (Nl (a:=n) (h:=1))) rfl
  by_cases Q:n%2=0
  .rw [Q]at N
   obtain⟨h,rfl⟩:∃h,n=2*h:=⟨n/2,by exact bB (ci 0x2010c40004400002010c428802000822 rfl Q (dF _ 2)) (ci 0x4008043004400002010c420802000a22 rfl Q (dF _ 2))⟩;obtain⟨M,e⟩:=JW (C95:=Lk (DG AI)) (a:=a) (b:=b) (h:=h) (pd:=0) (fun U E F G=>JJ (by exact(⟨aH 0x1080400086108021 rfl X.1,aH 0x1f4050000201b582800218021 rfl X.2⟩)) V Y U E F G) (by exact(aH 0x1f4050000201b582800218021 rfl X.2)) H (S.mono (by decide)) O (by decide);rw [aC rfl]at e
   unfold AD at e
   rw [ad (bq D),ad N,ad (bq rfl),e];exact gA _ _ _
  .have W:n%2=1:=by exact bB (aH 0x1080000882000421 rfl (eU _ (y:=2) (by decide))) ((eF Q).elim (fun T=>(aH 0x2000421 rfl T:False).elim) (fun T=>KG T))
   rw [W]at N
   obtain⟨h,R⟩:∃h,n+1=2*h:=⟨n/2+1,by exact bB (ci 0x84201086108802004400002010c428842000822 rfl W (dF _ 2)) (ci 0x84401042100843004400002010c420842000a22 rfl W (dF _ 2))⟩;have Z:2^(2*h)=2*2^n:=by rw [<-R,ky,cF]
   obtain⟨M,e⟩:=JW (C95:=Lk (DG AI)) (a:=a*2) (b:=b*2) (h:=h) (pd:=1) (fun U E F G=>JJ (by exact(⟨bb 0x80210082010c21000420800108022 rfl X.1 R,bb 0x3e80a100041008610800214406d60a000022 rfl X.2 R⟩)) (by exact(gP 0x300862000210086300a4000862008210086000043 rfl V Z (cF _ 2))) (by exact(gP 0x200c010800218c0208402188028840000443 rfl Y Z (cF _ 2))) U E F G) (by exact(bb 0x3e80a100041008610800214406d60a000022 rfl X.2 R)) (by exact(bb 0x10002108002184028800008442 rfl H (cF _ 2))) (((S.mul (Sm.pow (k:=2) (h:=1) (by decide))).mono (by decide))) (by
    rw [Z];have:b*2*(2*2^n)=b*2^n*4:=by rw [show b*2*(2*2^n)=b*2*2*2^n by rw [oF (b*2)],oF b 2 2,HJ]
    exact nL 0x8040042000864008210106300a23008028840000444 rfl O this (cF _ 4) (cF _ 2)) (by decide)
   rw [aF (by decide),Nat.mul_div_mul_right _ _ (by decide),Nat.mul_mod_mul_right,Nat.mul_div_cancel _ (by decide)]at e
   unfold AD at e
   have B:di (aq (aa 3)) (ap (fA (aa 0) (ab (.int 1)) eI (am 0))
 (ap (fA (aa 1) (ab (.int 1)) eI (am 1))
 (ap (fA (aa 2) (ab (.int 1)) jg (am 2))
 ah))) ah (sC (some (.int (a:Int))) (some (.int (b:Int))) (some (.int (n:Int))) (some (.int ((1:Nat):Int))) none none none none none none none)=some (.next,sC (some (.int ((a*2:Nat):Int))) (some (.int ((b*2:Nat):Int))) (some (.int ((2*h:Nat):Int))) (some (.int ((1:Nat):Int))) none none none none none none none):=by
    rw [<-R];refine(bQ rfl).trans ((ad (oy rfl rfl (pV (n:=1) (by decide) (C.mono (by decide)).lt) rfl)).trans ((ad (oy rfl rfl (pV (n:=1) (by decide) (S.mono (by decide)).lt) rfl)).trans ((ad rfl).trans rfl)))
   rw [ad (bq D),ad N,ad B,e];exact gA _ _ _
noncomputable def dg(n:Nat):Nat->Nat->List Nat
 |0,_=>[]
 |m+1,x=>x%2^n::dg n m (x/2^n)
theorem xk(n w1_):dg n 0 w1_=([]):=rfl
theorem wB(n m x):dg n (m+1) x=(x%2^n::dg n m (x/2^n)):=rfl
noncomputable def vl(n:Nat):List Nat->Nat
 |[]=>0
 |d::Z=>d+2^n*vl n Z
theorem kX(n:Nat):∀m x,(dg n m x).length=m
 |0,_=>rfl
 |m+1,x=>bv (·+1) (kX n m _)
theorem OK(n:Nat):∀m x,∀d∈dg n m x,d<2^n
 |0,_,d,h=>by cases h
 |m+1,x,d,h=>by
  rcases cN.mp h with h|h
  .rw [h];exact eU _ (jh n)
  .exact OK n m _ d h
theorem za(n:Nat):∀m k x,dg n (m+k) x=dg n m (x%2^(m*n))++dg n k (x/2^(m*n))
 |0,k,x=>by simp [xk,wB]
 |m+1,k,x=>by
  rw [show m+1+k=(m+k)+1 by exact bB (bb 0x42100002104010800210020 rfl) (bb 0x40108002104210000210020 rfl)];have Y:=za n m k (x/2^n);have Z:2^((m+1)*n)=2^n*2^(m*n):=by rw [hO,gm,mI,jO]
  dsimp only [xk,wB];rw [Y,oJ]
  congr 1
  .rw [Z,Nat.mod_mul_right_mod]
  .congr 1
   .rw [Z,Nat.mod_mul_right_div_self]
   .rw [Z,GS]
theorem OE(n:Nat):∀m x,x<2^(m*n)->vl n (dg n m x)=x
 |0,x,h=>by simp at h;simp [xk,wB,vl,h]
 |m+1,x,h=>by
  have Z:2^((m+1)*n)=2^n*2^(m*n):=by rw [hO,gm,mI,jO]
  dsimp only [xk,wB];unfold vl;rw [OE n m (x/2^n) (by rw [mZ (jh n),cF,<-Z];exact h)];rw [mI];exact dF _ _
theorem HM(n:Nat):∀a b,vl n (a++b)=vl n a+2^(a.length*n)*vl n b
 |[],b=>by simp [vl]
 |d::a,b=>by
  rw [oJ];show d+2^n*vl n (a++b)=d+2^n*vl n a+2^((d::a).length*n)*vl n b;rw [HM n a b,cm,hO a.length,gm,mI (a.length*n),jO,rT,oF];exact bB (ci 0x80100002108010080010020 rfl) (ci 0x80100800108010000210020 rfl)
theorem Om(n:Nat):∀Z:List Nat,(∀d∈Z,d<2^n)->vl n Z<2^(Z.length*n)
 |[],_=>by simp [vl]
 |d::Z,h=>by
  have W:=h d (.head _);have X:=Om n Z (fun x Y=>h x (.tail _ Y));unfold vl;rw [cm,hO,gm,mI (Z.length*n),jO];have:2^n*(vl n Z+1)<=2^n*2^(Z.length*n):=Ik _ X;rw [rT,Nat.mul_one]at this
  exact gP 0x3008000082118020100400840000422 rfl W this
theorem mr{X q:PV}{F:CF}{fc:ER}{S:LR}{U Y Z:AS}{T:List PV}{W:List (Nat×AO)}{V:Nat}(P:fc U=some (X,Y))(Q:S Y=some (T,Z))(R:F T Z.st Z.nx=some (q,W,V)):mj X F fc S U=some (q,⟨Z.loc,W,V⟩):=by
 unfold mj;rw [P];dsimp only;rw [Q];dsimp only;rw [aC rfl,R]
theorem cp{σ:AS}{i:Nat}{p:PV}(h:σ.st.lookup i=some (.cell (some p))):bi i σ=some (p,σ):=by unfold bi;rw [h];rfl
theorem xI{fo W:ER}{p o k:PV}{X Y Z:AS}{r:Option AS}(T:fo X=some (o,Y))(U:W Y=some (k,Z))(V:bt o k p Z=r):yq fo W p X=r:=(aY T).trans ((aY U).trans V)
theorem Ez{Z:Type}(l:List Z)(i:Nat)(x:Z)(h:i<l.length):l.set i x=l.take i++[x]++l.drop (i+1):=by
 rw [List.set_eq_take_append_cons_drop,aC h];simp
theorem HV(l:List Nat)(i x:Nat):(au l).set i (.int (x:Int))=au (l.set i x):=by
 unfold au;rw [List.map_set]
theorem cC(l:List Nat):(au l).length=l.length:=by exact cW _
theorem Py{σ:AS}{i L x:Nat}{Z:List Nat}(h:σ.st.lookup i=some (.list (au Z)))(X:L<Z.length)(Y:Z.length<=1000):bt (.loc i) (.int (L:Int)) (.int (x:Int)) σ=some {σ with st:=av σ.st i (.list (au (Z.set L x)))}:=by
 show wW i _ _ σ=_;unfold wW;rw [h];dsimp only;rw [cC,aC ⟨by exact sD,by exact bb 0x409001290840000421 rfl X,bJ Y (by decide)⟩,fp,HV]
theorem xx(a b c:PV):qD.map (fun x=>(kO.zip [a,b,c]).lookup x)=[some a,some b,some c,none,none,none,none]:=by left
theorem yu:kO.length=3:=by left
theorem yp{pn Y:List Str}{f:SR}{Z:List PV}{st:List (Nat×AO)}{X:Nat}{loc:List (Option PV)}{σ':AS}(W:Z.length=pn.length)(V:Y.map (fun x=>(pn.zip Z).lookup x)=loc)(h:f ⟨loc,st,X⟩=some (.next,σ')):fP pn Y f Z st X=some (.none,σ'.st,σ'.nx):=by
 unfold fP;rw [aC W,V,h]
theorem jG{pn Y:List Str}{f:SR}{Z:List PV}{st:List (Nat×AO)}{X:Nat}{loc:List (Option PV)}{σ':AS}{p:PV}(W:Z.length=pn.length)(V:Y.map (fun x=>(pn.zip Z).lookup x)=loc)(h:f ⟨loc,st,X⟩=some (.ret p,σ')):fP pn Y f Z st X=some (p,σ'.st,σ'.nx):=by
 unfold fP;rw [aC W,V,h]
noncomputable def Rm(P:Params)(N n k:Nat):Prop:=∀(x L R:Nat) (Y:List Nat) (st:List (Nat×AO)) (X:Nat),L<R->R-L<=2^k->R<=Y.length->Y.length<=1000->(R-L)*n<=40000->x<2^((R-L)*n)->
  st.lookup 0=some (.cell (some (.int (n:Int))))->st.lookup 1=some (.cell (some (.loc 4)))->st.lookup 2=some (.cell (some (dA P 0)))->st.lookup 4=some (.list (au Y))->
  ∃Z,mA (fT P N 0 (k+1) [.int (x:Int),.int (L:Int),.int (R:Int)] st X=some (.none,Z,X)) (Z.lookup 4=some (.list (au (Y.take L++dg n (R-L) x++Y.drop R)))) (∀i,i≠4->Z.lookup i=st.lookup i)
theorem qr{L R M k:Nat}(Y:M=(L+R)/2)(X:L<R)(Z:R-L<=2^(k+1)):M-L<=2^k/\R-M<=2^k:=by
 rw [ky]at Z
 generalize 2^k=q at *
 subst Y;exact⟨by omega,by omega⟩
theorem Dp(P:Params)(N:Nat){n:Nat}(hn:1<=n)(k:Nat)(f:∀j,k=j+1->Rm P N n j):Rm P N n k:=by
  intro x L R O st W Z C T A F I o p v d;have w:∀g h l m:Option PV,aq (ae (ae (aa 1) (ab (.int 1)) ba) (aa 2) jd) ⟨[cI (x:Int),cI (L:Int),cI (R:Int),g,h,l,m],st,W⟩=some (((L:Int)+1)==(R:Int),⟨[cI (x:Int),cI (L:Int),cI (R:Int),g,h,l,m],st,W⟩):=fun _ _ _ _=>aD (ak (ak rfl rfl rfl) rfl rfl) rfl
  by_cases z:L+1=R
  .subst z
   rw [show(((L:Int)+1)==((L+1:Nat):Int))=true by exact aC rfl]at w
   rw [show L+1-L=1 by exact bB (bb 0x42000021084020800010821 rfl (aA (vX))) (bb 0x108021084020800010a21 rfl (aA (vX)))]at I ⊢
   rw [gm]at I
   have G:=Py (σ:=⟨[cI (x:Int),cI (L:Int),cI ((L+1:Nat):Int),none,none,none,none],st,W⟩) (L:=L) (x:=x) d (by exact(vB T)) A;refine⟨av st 4 (.list (au (O.set L x))),?_,?_,fun i B=>az B⟩
   .rw (occs:=.all) [show fT P N 0 (k+1)=fP kO qD (oP P (fT P N 0 k) N 0)from rfl]
    unfold oP;refine jG (σ':=⟨[cI (x:Int),cI (L:Int),cI ((L+1:Nat):Int),none,none,none,none],av st 4 (.list (au (O.set L x))),W⟩) (by rw (occs:=.all) [yu];rfl) (xx _ _ _) ?_
    refine aG ((bQ (w _ _ _ _)).trans ((ad (ax rfl (xI (cp (σ:=⟨_,st,W⟩) p) rfl G))).trans (aG rfl)))
   rw (occs:=.all) [aM,Ez _ _ _ (by exact(vB T))];dsimp only [xk,wB];rw (occs:=.all) [uG I]
  .cases k with
   |zero=>simp at C;exact((eF z).elim (fun S=>(bb 0x108402084200844000022 rfl C S:False).elim) (fun S=>(Nu Z S:False).elim):False).elim
   |succ k=>
    rw [show(((L:Int)+1)==(R:Int))=false from gp.mpr (by exact(fun S=>(eF z).elim (fun u=>bb 0x200840010421024214800912a22 rfl S u) (fun u=>bb 0x210004100421024214800912822 rfl S u)))]at w
    obtain⟨M,Q⟩:∃M,M=(L+R)/2:=⟨_,rfl⟩;have X:L<M:=by exact(eF z).elim (fun S=>nL 0x10022104800846010044004021885118021100410840000a44 rfl Q S (dF _ 2) (eU _ (y:=2) (by decide))) (fun S=>(Nu Z S:False).elim)
    have Y:M<R:=by exact nL 0x10080110400008801804310823008021040000423 rfl Z Q (dF _ 2)
    have z0:2^(k+1)=2^k*2:=ky ..;have E:(M-L)*n<=(R-L)*n:=ku _ (by exact(nL 0x10020002100c040085100060100420840000423 rfl Y (aA (hV X)) (aA (hV Z))));have r:(R-M)*n<=(R-L)*n:=ku _ (by exact(nL 0x100200023000040085118020100420840000423 rfl X (aA (hV Y)) (aA (hV Z))));have H:(R-L)*n=(M-L)*n+(R-M)*n:=by rw (occs:=.all) [<-hO];congr 1;exact bB (Qf (aA (hV Z)) (aA (hV X)) (aA (hV Y))) (RC (aA (hV X)) (aA (hV Y)) (aA (hV Z)))
    have t:x/2^((M-L)*n)<2^((R-M)*n):=by
     rw (occs:=.all) [mZ (jh _),<-jO,mI,<-H];exact I
    have c:Sm 40001 x:=Sm.mono (k:=(R-L)*n) I (by exact(aH 0x4e20940000427100a000021 rfl F));obtain⟨V,f1,g4,go⟩:=f k rfl (x%2^((M-L)*n)) L M O st W X (qr Q Z C).1 (by exact(Hz T Y)) A (by exact(LK F E)) (eU _ (jh _)) o p v d;obtain⟨U,f2,k4,b⟩:=f k rfl (x/2^((M-L)*n)) M R (O.take L++dg n (M-L) (x%2^((M-L)*n))++O.drop M) V W Y (qr Q Z C).2 (by simp [kX];exact UF 0x180400840100000840501802144a01808010a23008028840000024 rfl T (fM (KL Z T)) (aA (hV X)) (aA (Hz T Y))) (by simp [kX];exact FB 0x1f410a0180410080100080280420900200c021044008041fa08000024 rfl A (fM (KL Z T)) (aA (hV X)) (aA (Hz T Y))) (by exact(LK F r)) t (by rw (occs:=.all) [go 0 (by decide)];exact o) (by rw (occs:=.all) [go 1 (by decide)];exact p) (by rw (occs:=.all) [go 2 (by decide)];exact v) g4;refine⟨U,?_,?_,fun i B=>(b i B).trans (go i B)⟩
    .rw (occs:=.all) [show fT P N 0 (k+1+1)=fP kO qD (oP P (fT P N 0 (k+1)) N 0)from rfl]
     unfold oP;refine yp (σ':=⟨[cI (x:Int),cI (L:Int),cI (R:Int),cI (M:Int),cI (((M-L)*n:Nat):Int),cI ((x/2^((M-L)*n):Nat):Int),cI ((x%2^((M-L)*n):Nat):Int)],U,W⟩) (by rw (occs:=.all) [yu];rfl) (xx _ _ _) ?_
     have a1:ai (ae (ae (aa 1) (aa 2) ba) (ab (.int 1)) eQ) (am 3) ⟨[cI (x:Int),cI (L:Int),cI (R:Int),none,none,none,none],st,W⟩=some (.next,⟨[cI (x:Int),cI (L:Int),cI (R:Int),cI (M:Int),none,none,none],st,W⟩):=by
      rw (occs:=.all) [Q];exact ax (ak (ak rfl rfl rfl) rfl (uy (a:=L+R) (n:=1))) rfl
     have a2:ai (ae (ae (aa 3) (aa 1) cO) (bi 0) cz) (am 4) ⟨[cI (x:Int),cI (L:Int),cI (R:Int),cI (M:Int),none,none,none],st,W⟩=some (.next,⟨[cI (x:Int),cI (L:Int),cI (R:Int),cI (M:Int),cI (((M-L)*n:Nat):Int),none,none],st,W⟩):=by
      have e:∀y:Nat,y<=50000->y<2^50000:=fun y hy=>rN hy AR
      have s:n<=40000:=bJ (zy n (by exact(ci 0x400042108000100428840000422 rfl Z (aA (hV Z))))) F;exact ax (ak (ak rfl rfl (Ev (by exact(hV X)))) (cp (σ:=⟨_,st,W⟩) o) (Pr (e _ (by exact(UF 0xc350298000880501802104002804400c02188411804010be8204000840000025 rfl T A Q (dF _ 2) (aA (hV X))))) (e _ (by exact(aH 0x61a8140000427100a000021 rfl s))))) rfl
     have a3:ai (ae (aa 0) (aa 4) eQ) (am 5) ⟨[cI (x:Int),cI (L:Int),cI (R:Int),cI (M:Int),cI (((M-L)*n:Nat):Int),none,none],st,W⟩=some (.next,⟨[cI (x:Int),cI (L:Int),cI (R:Int),cI (M:Int),cI (((M-L)*n:Nat):Int),cI ((x/2^((M-L)*n):Nat):Int),none],st,W⟩):=
      ax (ak rfl rfl uy) rfl
     have a4:ai (ae (aa 0) (ae (aa 5) (aa 4) eI) Me) (am 6) ⟨[cI (x:Int),cI (L:Int),cI (R:Int),cI (M:Int),cI (((M-L)*n:Nat):Int),cI ((x/2^((M-L)*n):Nat):Int),none],st,W⟩=some (.next,⟨[cI (x:Int),cI (L:Int),cI (R:Int),cI (M:Int),cI (((M-L)*n:Nat):Int),cI ((x/2^((M-L)*n):Nat):Int),cI ((x%2^((M-L)*n):Nat):Int)],st,W⟩):=
      ax (ak rfl (ak rfl rfl (pV (by exact(bb 0x186a05080010002000427100a000022 rfl F E)) ((c.le (rm _ _)).mono (by decide)).lt)) UU) rfl
     exact(ad (bq (w _ _ _ _))).trans ((ad a1).trans ((ad a2).trans ((ad a3).trans ((ad a4).trans ((ad (fV (mr (cp (σ:=⟨_,st,W⟩) v) rfl f1))).trans ((ad (fV (mr (cp (σ:=⟨_,V,W⟩) (by show V.lookup 2=_;rw (occs:=.all) [go 2 (by decide)];exact v)) rfl f2))).trans rfl))))))
    .rw (occs:=.all) [k4]
     congr 3
     have q:dg n (R-L) x=dg n (M-L) (x%2^((M-L)*n))++dg n (R-M) (x/2^((M-L)*n)):=by
      rw (occs:=.all) [<-za];congr 1;exact bB (Qf (aA (hV Z)) (aA (hV X)) (aA (hV Y))) (RC (aA (hV X)) (aA (hV Y)) (aA (hV Z)))
     have D:(O.take L++dg n (M-L) (x%2^((M-L)*n))).length=M:=by simp [kX];exact bB (gP 0x3008000080118020100420840000822 rfl (fM (KL Z T)) (aA (hV X))) (gP 0x2000021800118020100428840000a22 rfl (fM (KL Z T)) (aA (hV X)))
     rw (occs:=.all) [q,Jd (by exact(JO D)),rV (by exact(bb 0x1000000840000821 rfl D)),List.drop_append,D,qC (by exact(ci 0x40200020008020840000422 rfl Y D)),Km,pp,show M+(R-M)=R by exact bB (MW (aA (hV Y))) (MN (aA (hV Y)))];simp
theorem wm(P:Params)(N:Nat){n:Nat}(Z:1<=n):∀k,Rm P N n k
 |0=>Dp P N Z 0 (fun _ e=>nomatch e)
 |k+1=>Dp P N Z _ (fun j e=>by cases e;exact wm P N Z k)
noncomputable def JQ(P:Params):bO:=cB Dn rQ qF (fun _=>[]) [] (fun n=>tH P 10 100 n)
noncomputable def Jv(P:Params):bO:=cB Ch rW ry (fun _=>[]) [] (fun n=>ue P 10 100 n)
theorem KR(a b:PV):dw Dn rQ qF ([a,b]++[]) ([]++[])=⟨[some a],[(0,.cell (some b)),(1,.cell none),(2,.cell none)],3⟩:=by left
theorem Mm(o:AO)(b:PV):dw Ch rW ry ([.loc 0,b]++[]) ([o]++[])=⟨[],[(0,o),(1,.cell (some (.loc 0))),(2,.cell (some b)),(3,.cell none)],4⟩:=by left
theorem Hk(m:Nat):xr [.int 0] m=au (List.replicate m 0):=by
 unfold xr au
 induction m with
 |zero=>rfl
 |succ m Z=>rw [oU,fy,Z,oU];rfl
theorem NU{a b:Nat}{Z:AS}(W:0<b)(X:b<2^8900):de (.int (a:Int)) (.int (b:Int)) Z=some (.int ((a/b:Nat):Int),Z):=by
 refine dv (k:=lP) ?_
 unfold lP;rw [aC ⟨by exact fun Y=>aH 0x290012a0800008422 rfl W Y,oS (n:=8900) (by decide) (by simpa using X)⟩,nf]
theorem kH{Z:AS}{i:Nat}{p:PV}{o:Option PV}(h:Z.st.lookup i=some (.cell o)):gi i p Z=some {Z with st:=av Z.st i (.cell (some p))}:=by unfold gi;rw [h];rfl
theorem Ag{σ:AS}{i:Nat}{p:PV}{o:Option PV}(h:σ.st.lookup i=some (.cell o)):sV i p σ=some (.next,{σ with st:=av σ.st i (.cell (some p))}):=by unfold sV;rw [h]
theorem Pw(P:Params){a n m:Nat}(U:1<=n/\n<=7000)(H:m=(Builtin.Int.intBits (a:Int)+n-1)/n)(W:m<=60)(I:m*n<=40000):JQ P [.int (a:Int),.int (n:Int)] []=some (.loc 0,[],[.list (au (dg n m a))]):=by
 unfold JQ;rw [cc (σ:=⟨[cI (a:Int)],[(0,.cell (some (.int (n:Int)))),(1,.cell none),(2,.cell none)],3⟩) rfl (KR _ _)]
 suffices u:∃V,tH P 10 100 ([]++([]:List AO)).length ⟨[cI (a:Int)],[(0,.cell (some (.int (n:Int)))),(1,.cell none),(2,.cell none)],3⟩=some (.ret (.loc 4),V)/\V.st.lookup 4=some (.list (au (dg n m a)))by
  obtain⟨V,e,g⟩:=u;rw [e];exact dn (ids:=[4]) rfl (bM g (cZ _) rfl) rfl
 show ∃V,tH P 10 100 0 _=_/\_;unfold tH;have Z:a<2^(m*n):=by
  have r:Builtin.Int.intBits (a:Int)<=m*n:=by
   have B:=dF (Builtin.Int.intBits (a:Int)+n-1) n;have C:=eU (Builtin.Int.intBits (a:Int)+n-1) (show n>0 by exact aH 0x210800108021 rfl U.1);rw [<-H,cF]at B
   exact nL 0x2000118080104220085118020084400800010a23 rfl B C (aA (ci 0x8040104200840000421 rfl C))
  simpa using kG.mp r
 have F:ai (ae (bD (ac (ab (.int 0)) aj)) (ae (ae (ae (aK "int" (aa 0) aj gT) (bi 0) ba) (ab (.int 1)) cO) (bi 0) de) Cz) (gi (0+1)) ⟨[cI (a:Int)],[(0,.cell (some (.int (n:Int)))),(1,.cell none),(2,.cell none)],3⟩
   = some (.next,⟨[cI (a:Int)],av [(4,.list (au (List.replicate m 0))),(3,.list [.int 0]),(0,.cell (some (.int (n:Int)))),(1,.cell none),(2,.cell none)] 1 (.cell (some (.loc 4))),5⟩):=by
  have t:bD (ac (ab (.int 0)) aj) ⟨[cI (a:Int)],[(0,.cell (some (.int (n:Int)))),(1,.cell none),(2,.cell none)],3⟩=some (.loc 3,⟨[cI (a:Int)],[(3,.list [.int 0]),(0,.cell (some (.int (n:Int)))),(1,.cell none),(2,.cell none)],4⟩):=rfl;have s:ae (ae (ae (aK "int" (aa 0) aj gT) (bi 0) ba) (ab (.int 1)) cO) (bi 0) de ⟨[cI (a:Int)],[(3,.list [.int 0]),(0,.cell (some (.int (n:Int)))),(1,.cell none),(2,.cell none)],4⟩=some (.int (m:Int),⟨[cI (a:Int)],[(3,.list [.int 0]),(0,.cell (some (.int (n:Int)))),(1,.cell none),(2,.cell none)],4⟩):=by
   rw [H];refine ak (ak (ak (ca rfl rfl rfl rfl) rfl rfl) rfl (Ev (a:=Builtin.Int.intBits (a:Int)+n) (b:=1) (by exact(bb 0x20104200800108021 rfl U.1)))) rfl (NU (by exact(aH 0x210800108021 rfl U.1)) ?_);exact rN U.2 (fj AR (rF (by decide) (by decide)))
  have T:Cz (.loc 3) (.int (m:Int)) ⟨[cI (a:Int)],[(3,.list [.int 0]),(0,.cell (some (.int (n:Int)))),(1,.cell none),(2,.cell none)],4⟩=some (.loc 4,⟨[cI (a:Int)],[(4,.list (au (List.replicate m 0))),(3,.list [.int 0]),(0,.cell (some (.int (n:Int)))),(1,.cell none),(2,.cell none)],5⟩):=by
   show zJ 3 _ _=_;rw [mi (show([(3,AO.list [.int 0]),(0,.cell (some (.int (n:Int)))),(1,.cell none),(2,.cell none)]:List (Nat×AO)).lookup 3=some (.list [.int 0])from rfl) (by decide),aC ⟨by exact sD,by exact aH 0x800001920025210f08000021 rfl W,by simp;exact aH 0x2000006000010f08000021 rfl W⟩,fp,Hk]
  exact ax (ak t s T) (kH (o:=none) rfl)
 generalize Y:av [(4,AO.list (au (List.replicate m 0))),(3,.list [.int 0]),(0,.cell (some (.int (n:Int)))),(1,.cell none),(2,.cell none)] 1 (.cell (some (.loc 4)))=st1 at F
 have v:st1.lookup 0=some (.cell (some (.int (n:Int)))):=by rw [<-Y,az (by decide)];rfl
 have w:st1.lookup 1=some (.cell (some (.loc 4))):=by rw [<-Y,aM]
 have x:st1.lookup 2=some (.cell none):=by rw [<-Y,az (by decide)];rfl
 have y:st1.lookup 4=some (.list (au (List.replicate m 0))):=by rw [<-Y,az (by decide)];rfl
 have A:sV (0+2) (dA P 0) ⟨[cI (a:Int)],st1,5⟩=some (.next,⟨[cI (a:Int)],av st1 2 (.cell (some (dA P 0))),5⟩):=Ag (σ:=⟨_,st1,5⟩) x;have z:(av st1 2 (.cell (some (dA P 0)))).lookup 0=some (.cell (some (.int (n:Int)))):=by rw [az (by decide)];exact v
 have Q:(av st1 2 (.cell (some (dA P 0)))).lookup 1=some (.cell (some (.loc 4))):=by rw [az (by decide)];exact w
 have D:(av st1 2 (.cell (some (dA P 0)))).lookup 2=some (.cell (some (dA P 0))):=aM;have N:(av st1 2 (.cell (some (dA P 0)))).lookup 4=some (.list (au (List.replicate m 0))):=by rw [az (by decide)];exact y
 generalize av st1 2 (.cell (some (dA P 0)))=st2 at *
 have G:aq (aa 0) ⟨[cI (a:Int)],st2,5⟩=some ((a:Int) != 0,⟨[cI (a:Int)],st2,5⟩):=rfl
 by_cases M:a=0
 .subst M
  have:m=0:=by
   rw [H,show Builtin.Int.intBits ((0:Nat):Int)=0 from rfl,As];exact uF (by exact(bb 0x8000084200840010821 rfl (aA (Fy U.1))))
  subst this;exact⟨⟨_,st2,5⟩,(ad F).trans ((ad A).trans ((ad (bq G)).trans (aG (cT (cp (σ:=⟨_,st2,5⟩) Q))))),N⟩
 .rw [show((a:Int) != 0)=true by simp;exact fun E=>(eF M).elim (fun O=>aH 0x80010802000a22 rfl E O) (fun O=>aH 0x210802000822 rfl E O)]at G
  have S:0<m:=by
   rcases zu m with h|h
   .rw [h]at Z;simp at Z;exact absurd Z M
   .exact h
  obtain⟨X,q,g4,go⟩:=wm P 100 U.1 9 a 0 m (List.replicate m 0) st2 5 S (by exact(bb 0x800810002000021008410f08000022 rfl W (aA (aH 0x200800008421 rfl S)))) (by simp) (by simp;exact Mo W) (by simpa using I) (by simpa using Z) z Q D N;have R:cX [.loc 4] ⟨[cI (a:Int)],st2,5⟩=some (.int (m:Int),⟨[cI (a:Int)],st2,5⟩):=by
   have:=qm (σ:=⟨[cI (a:Int)],st2,5⟩) N (by rw [cC,IZ];exact Mo W);rw [cC,IZ]at this
   exact this
  have p:bC (mj (dA P 0) (fT P 100 0 10) (bi (0+2)) (ac (aa 0) (ac (ab (.int 0)) (ac (aB cX (ac (bi (0+1)) aj)) aj)))) ⟨[cI (a:Int)],st2,5⟩=some (.next,⟨[cI (a:Int)],X,5⟩):=
   fV (mr (cp (σ:=⟨_,st2,5⟩) D) (aw (g:=ac (ab (.int 0)) (ac (aB cX (ac (bi (0+1)) aj)) aj)) rfl (aw (g:=ac (aB cX (ac (bi (0+1)) aj)) aj) rfl (aw (g:=aj) (bN (aw (g:=aj) (cp (σ:=⟨_,st2,5⟩) Q) rfl) R) rfl))) q)
  refine⟨⟨_,X,5⟩,(ad F).trans ((ad A).trans ((ad ((bQ G).trans ((ad p).trans rfl))).trans (aG (cT (cp (σ:=⟨_,X,5⟩) (by show X.lookup 1=_;rw [go 1 (by decide)];exact Q)))))),?_⟩;rw [show(⟨_,X,5⟩:AS).st.lookup 4=X.lookup 4 from rfl,g4];simp
theorem yH(a b:PV):vy.map (fun x=>(lY.zip [a,b]).lookup x)=[some a,some b,none,none]:=by left
theorem wN:lY.length=2:=by left
noncomputable def xl(Z:List Nat)(L R:Nat):List Nat:=(Z.drop L).take (R-L)
theorem No(X:List Nat){L M R:Nat}(Z:L<=M)(Y:M<=R):xl X L R=xl X L M++xl X M R:=by
 unfold xl;rw [show R-L=(M-L)+(R-M)by exact bB (Qf (aA (ci 0x80000022004000840000022 rfl Z Y)) (aA (dY Z)) (aA (dY Y))) (RC (aA (dY Z)) (aA (dY Y)) (aA (ci 0x80000022004000840000022 rfl Z Y))),List.take_add,Km,show L+(M-L)=M by exact bB (MW (aA (dY Z))) (MN (aA (dY Z)))]
theorem DK(X:List Nat){L R:Nat}(h:R<=X.length):(xl X L R).length=R-L:=by
 unfold xl;rw [oY,pg];exact bB (dY (zA (R-L) (X.length-L))) ((dP (R-L) (X.length-L)).elim (fun Y=>JO (fM (dY Y))) (fun Y=>(dP (L) (X.length)).elim (fun Z=>(dP (L) (R)).elim (fun W=>FB 0x5010000880500a2000c040084108060100428840000024 rfl h (aA (dY Z)) (aA (dY W)) (mL (dY Y))) (fun W=>nL 0x801800110080144011804108000100428840000024 rfl Z (aA (dY Z)) (eg (dY W)) (mL (dY Y)))) (fun Z=>ci 0x2004000800200a20084020802000a23 rfl (eg (dY Z)) (eg (ci 0x80000022004000840000022 rfl h Z)) (mL (dY Y)))))
theorem Ni(Z:List Nat)(L R:Nat):∀d∈xl Z L R,d∈Z:=fun d h=>List.mem_of_mem_drop (GJ h)
theorem nE{Z:List Nat}{k:Nat}(h:k<Z.length):(au Z)[k]?=some (.int ((Z[k]:Nat):Int)):=by
 unfold au;rw [jS,fC h];rfl
noncomputable def Rq(P:Params)(N n:Nat)(Y:List Nat)(st:List (Nat×AO))(Z k:Nat):Prop:=∀(L R:Nat),L<R->R-L<=2^k->R<=Y.length->(R-L)*n<=40000->
  jc P N 1 (k+1) [.int (L:Int),.int (R:Int)] st Z=some (.int ((vl n (xl Y L R):Nat):Int),st,Z)
theorem CT(P:Params)(N:Nat){n:Nat}(t:1<=n){Y:List Nat}(r:Y.length<=1000)(A:∀d∈Y,d<2^n){st:List (Nat×AO)}{X:Nat}(l:st.lookup 0=some (.list (au Y)))(m:st.lookup 1=some (.cell (some (.loc 0))))(o:st.lookup 2=some (.cell (some (.int (n:Int)))))(w:st.lookup 3=some (.cell (some (dz P 1))))(k:Nat)(z:∀j,k=j+1->Rq P N n Y st X j):Rq P N n Y st X k:=by
  intro L R Z G Q S;have E:aq (ae (ae (aa 0) (ab (.int 1)) ba) (aa 1) jd) ⟨[cI (L:Int),cI (R:Int),none,none],st,X⟩=some (((L:Int)+1)==(R:Int),⟨[cI (L:Int),cI (R:Int),none,none],st,X⟩):=aD (ak (ak rfl rfl rfl) rfl rfl) rfl;rw (occs:=.all) [show jc P N 1 (k+1)=fP lY vy (vt P (jc P N 1 k) N 1)from rfl];unfold vt
  by_cases F:L+1=R
  .subst F
   rw [show(((L:Int)+1)==((L+1:Nat):Int))=true by exact aC rfl]at E
   have C:vl n (xl Y L (L+1))=Y[L]:=by
    unfold xl;rw (occs:=.all) [show L+1-L=1 by exact bB (bb 0x42000021084020800010821 rfl (aA (vX))) (bb 0x108021084020800010a21 rfl (aA (vX))),Js (show L<Y.length by exact vB Q),It,List.take_zero];simp [vl]
   rw (occs:=.all) [C];exact jG (σ':=⟨[cI (L:Int),cI ((L+1:Nat):Int),none,none],st,X⟩) (by rw (occs:=.all) [wN];rfl) (yH _ _) (aG ((bQ E).trans (aG (cT (ak (cp (σ:=⟨_,st,X⟩) m) rfl (lj (σ:=⟨_,st,X⟩) l (nE (by exact(vB Q))) (by rw (occs:=.all) [cC];exact aH 0x7d0400001fa08000021 rfl r)))))))
  .cases k with
   |zero=>simp at G;exact((eF F).elim (fun U=>(bb 0x108402084200844000022 rfl G U:False).elim) (fun U=>(Nu Z U:False).elim):False).elim
   |succ k=>
    rw [show(((L:Int)+1)==(R:Int))=false from gp.mpr (by exact(fun U=>(eF F).elim (fun D=>bb 0x200840010421024214800912a22 rfl U D) (fun D=>bb 0x210004100421024214800912822 rfl U D)))]at E
    obtain⟨M,H⟩:∃M,M=(L+R)/2:=⟨_,rfl⟩;have V:L<M:=by exact(eF F).elim (fun U=>nL 0x10022104800846010044004021885118021100410840000a44 rfl H U (dF _ 2) (eU _ (y:=2) (by decide))) (fun U=>(Nu Z U:False).elim)
    have W:M<R:=by exact nL 0x10080110400008801804310823008021040000423 rfl Z H (dF _ 2)
    have s:2^(k+1)=2^k*2:=ky ..;have T:(M-L)*n<=(R-L)*n:=ku _ (by exact(nL 0x10020002100c040085100060100420840000423 rfl W (aA (hV V)) (aA (hV Z))));have O:(R-M)*n<=(R-L)*n:=ku _ (by exact(nL 0x100200023000040085118020100420840000423 rfl V (aA (hV W)) (aA (hV Z))));have p:=z k rfl L M V (qr H Z G).1 (by exact(Hz Q W)) (by exact(LK S T));have q:=z k rfl M R W (qr H Z G).2 (by exact(dY Q)) (by exact(LK S O));have v:Sm 40001 (vl n (xl Y M R)):=by
     have:=Om n (xl Y M R) (fun d h=>A d (Ni _ _ _ d h));rw [DK Y Q]at this
     exact Sm.mono this (by exact(bb 0x138825080010002000427100a000022 rfl S O))
    have x:∀y:Nat,y<=50000->y<2^50000:=fun y u=>rN u AR
    have B:n<=40000:=bJ (zy n (by exact(ci 0x400042108000100428840000422 rfl Z (aA (hV Z))))) S;have g:ai (ae (ae (aa 0) (aa 1) ba) (ab (.int 1)) eQ) (am 2) ⟨[cI (L:Int),cI (R:Int),none,none],st,X⟩=some (.next,⟨[cI (L:Int),cI (R:Int),cI (M:Int),none],st,X⟩):=by
     rw (occs:=.all) [H];exact ax (ak (ak rfl rfl rfl) rfl (uy (a:=L+R) (n:=1))) rfl
    have I:(M-L)<=40000:=bJ (zT _ t) (bJ T S);have i:ai (ae (ae (aa 2) (aa 0) cO) (bi (1+1)) cz) (am 3) ⟨[cI (L:Int),cI (R:Int),cI (M:Int),none],st,X⟩=some (.next,⟨[cI (L:Int),cI (R:Int),cI (M:Int),cI (((M-L)*n:Nat):Int)],st,X⟩):=
     ax (ak (ak rfl rfl (Ev (by exact(hV V)))) (cp (σ:=⟨_,st,X⟩) o) (Pr (x _ (by exact(aH 0x61a8140000427100a000021 rfl I))) (x _ (by exact(aH 0x61a8140000427100a000021 rfl B))))) rfl
    have C:vl n (xl Y L R)=vl n (xl Y M R)*2^((M-L)*n)+vl n (xl Y L M):=by
     rw (occs:=.all) [No Y (iR V) (iR W),HM,DK Y (by exact(Hz Q W)),cF,mI]
    rw (occs:=.all) [C];exact jG (σ':=⟨[cI (L:Int),cI (R:Int),cI (M:Int),cI (((M-L)*n:Nat):Int)],st,X⟩) (by rw (occs:=.all) [wN];rfl) (yH _ _) ((ad (bq E)).trans ((ad g).trans ((ad i).trans (aG (cT (ak (ak (mr (cp (σ:=⟨_,st,X⟩) w) rfl q) rfl (pV (by exact(bb 0x186a05080010002000427100a000022 rfl S T)) (v.mono (by decide)).lt)) (mr (cp (σ:=⟨_,st,X⟩) w) rfl p) rfl))))))
theorem wZ(P:Params)(N:Nat){n:Nat}(X:1<=n){Y:List Nat}(W:Y.length<=1000)(Z:∀d∈Y,d<2^n){st:List (Nat×AO)}{nx:Nat}(S:st.lookup 0=some (.list (au Y)))(T:st.lookup 1=some (.cell (some (.loc 0))))(U:st.lookup 2=some (.cell (some (.int (n:Int)))))(V:st.lookup 3=some (.cell (some (dz P 1)))):∀k,Rq P N n Y st nx k
 |0=>CT P N X W Z S T U V 0 (fun _ e=>nomatch e)
 |k+1=>CT P N X W Z S T U V _ (fun j e=>by cases e;exact wZ P N X W Z S T U V k)
theorem Rg(P:Params){n:Nat}{ds:List Nat}(G:1<=n)(U:ds.length<=60)(Q:∀d∈ds,d<2^n)(R:ds.length*n<=40000):Jv P [.loc 0,.int (n:Int)] [.list (au ds)]=some (.int ((vl n ds:Nat):Int),[.list (au ds)],[]):=by
 unfold Jv;rw [cc (σ:=⟨[],[(0,.list (au ds)),(1,.cell (some (.loc 0))),(2,.cell (some (.int (n:Int)))),(3,.cell none)],4⟩) rfl (Mm _ _)]
 suffices R:∃Y,ue P 10 100 ([AO.list (au ds)]++([]:List AO)).length ⟨[],[(0,.list (au ds)),(1,.cell (some (.loc 0))),(2,.cell (some (.int (n:Int)))),(3,.cell none)],4⟩=some (.ret (.int ((vl n ds:Nat):Int)),Y)/\Y.st.lookup 0=some (.list (au ds))by
  obtain⟨Y,e,g⟩:=R;rw [e];exact dn (ids:=[0]) rfl (bM g (cZ _) rfl) rfl
 show ∃Y,ue P 10 100 1 _=_/\_;unfold ue;have F:sV (1+2) (dz P 1) ⟨[],[(0,.list (au ds)),(1,.cell (some (.loc 0))),(2,.cell (some (.int (n:Int)))),(3,.cell none)],4⟩=some (.next,⟨[],av [(0,.list (au ds)),(1,.cell (some (.loc 0))),(2,.cell (some (.int (n:Int)))),(3,.cell none)] 3 (.cell (some (dz P 1))),4⟩):=Ag (o:=none) rfl;have V:(av [(0,AO.list (au ds)),(1,.cell (some (.loc 0))),(2,.cell (some (.int (n:Int)))),(3,.cell none)] 3 (.cell (some (dz P 1)))).lookup 0=some (.list (au ds)):=by rw [az (by decide)];rfl
 have T:(av [(0,AO.list (au ds)),(1,.cell (some (.loc 0))),(2,.cell (some (.int (n:Int)))),(3,.cell none)] 3 (.cell (some (dz P 1)))).lookup 1=some (.cell (some (.loc 0))):=by rw [az (by decide)];rfl
 have I:(av [(0,AO.list (au ds)),(1,.cell (some (.loc 0))),(2,.cell (some (.int (n:Int)))),(3,.cell none)] 3 (.cell (some (dz P 1)))).lookup 2=some (.cell (some (.int (n:Int)))):=by rw [az (by decide)];rfl
 have O:(av [(0,AO.list (au ds)),(1,.cell (some (.loc 0))),(2,.cell (some (.int (n:Int)))),(3,.cell none)] 3 (.cell (some (dz P 1)))).lookup 3=some (.cell (some (dz P 1))):=aM;generalize av [(0,AO.list (au ds)),(1,.cell (some (.loc 0))),(2,.cell (some (.int (n:Int)))),(3,.cell none)] 3 (.cell (some (dz P 1)))=st2 at *
 refine⟨⟨[],st2,4⟩,(ad F).trans (aG (cT ?_)),V⟩;have S:jC st2 (.loc 0)=some (!(au ds).isEmpty):=by
  show(match st2.lookup 0 with|some (.list X)=>if X.length<=2^30 then some (!X.isEmpty)else none|some (.set X)=>if X.length<=2^30 then some (!X.isEmpty)else none|_=>none)=_;rw [V];dsimp only;rw [aC (by rw [cC];exact bJ U (by decide))]
 have M:aq (bi 1) ⟨[],st2,4⟩=some (!(au ds).isEmpty,⟨[],st2,4⟩):=aD (cp (σ:=⟨[],st2,4⟩) T) S;cases ds with
 |nil=>exact(kP M).trans rfl
 |cons d Z=>
  have W:cX [.loc 0] ⟨[],st2,4⟩=some (.int ((d::Z).length:Int),⟨[],st2,4⟩):=by
   have:=qm (σ:=⟨[],st2,4⟩) V (by rw [cC];exact Mo U);rw [cC]at this
   exact this
  have N:=wZ P 100 G (by exact(Mo U)) Q (nx:=4) V T I O 9 0 (d::Z).length (by exact mK _) (by exact(bb 0x800810002000021008410f08000022 rfl U (aA (aH 0x8020 rfl)))) (bZ _) (by simpa using R);have H:xl (d::Z) 0 (d::Z).length=d::Z:=by unfold xl;simp
  rw [H]at N
  exact(lZ M).trans (mr (cp (σ:=⟨[],st2,4⟩) O) (aw (g:=ac (aB cX (ac (bi 1) aj)) aj) rfl (aw (g:=aj) (bN (aw (g:=aj) (cp (σ:=⟨[],st2,4⟩) T) rfl) W) rfl)) N)
theorem la{r:Nat->Nat}:∀{l:List AO},(∀Z∈l,eK Z=[])->l.map (iG r)=l
 |[],_=>rfl
 |Z::l,h=>by rw [cP,Jr _ _ (h Z (.head _)),la fun x Y=>h x (.tail _ Y)]
theorem on{st:List (Nat×AO)}{full:List Nat}:∀{Z:List Nat} {os:List AO},Z.map (fun i=>st.lookup i)=os.map some->(∀Y∈os,eK Y=[])->jP st full Z=some os
 |[],[],_,_=>rfl
 |[],_::_,h,_=>Uj h
 |_::_,[],h,_=>KC h
 |i::Z,Y::os,h,X=>by
  rw [cP,cP]at h
  injection h with U V
  exact bM U (X Y (.head _)) (on V fun x W=>X x (.tail _ W))
theorem qM{st:List (Nat×AO)}{l:List Nat}(h:∀i∈jm l,∃Z,st.lookup i=some Z/\eK Z=[]):fZ st 2 l=jm l:=by
 have e:∀(n:Nat) (m:List Nat),m=[]->fZ st n (l++m)=fZ st n l:=fun n m Y=>by rw [Y,lT]
 have step:∀n,fZ st (n+1) l=fZ st n l:=fun n=>e n _ (List.flatMap_eq_nil_iff.mpr fun i X=>by
  obtain⟨Z,V,W⟩:=h i X;simp only [V];exact W)
 exact(step 1).trans (step 0)
theorem dO{C:bO}{O:LR}{R σ₁:AS}{ps:List PV}{ids:List Nat}{os:List AO}{p:PV}{ns:List AO}(h:O R=some (ps,σ₁))(P:jm (bY ps)=ids)(Z:ids.map (fun i=>σ₁.st.lookup i)=os.map some)(T:∀S∈os,eK S=[])
  (H:(dQ.nodupB ids&&jQ ids (bY ps)&&ids.all (fun i=>decide (i<σ₁.nx)))=true) (G:C (fe (fun i=>ids.idxOf i) ps) os=some (p,os,ns)) (V:dQ.simpleAll os=true) (W:dQ.simpleAll ns=true) (M:∀S∈ns,eK S=[]):
  bc C O R=some (iF (nW ids σ₁.nx) p,{σ₁ with st:=iW (iu σ₁.st ids os) σ₁.nx ns,nx:=σ₁.nx+ns.length}):=by
 have U:=on (full:=ids) Z T;have N:fZ σ₁.st 2 (bY ps)=ids:=by
  rw [qM,P];rw [P];intro i I;obtain⟨j,Q,rfl⟩:=Ic I;have X:j<os.length:=by
   have:=bv List.length Z;rw [cW,cW]at this
   exact ci 0x80000422004020840000422 rfl Q this
  refine⟨os[j],?_,T _ (pB X)⟩;have:=bv (fun l=>l[j]?) Z;simp only [jS,fC Q,fC X,Gp]at this
  exact aZ this
 have Y:os.length=ids.length:=by
  have:=bv List.length Z;rw [cW,cW]at this
  exact bB (JO this) (bb 0x1000000840000821 rfl this)
 unfold bc;rw [h];dsimp only;rw [N];unfold dQ;rw [U];dsimp only;rw [aC H,G];dsimp only;rw [aC ⟨Y,V,W⟩,la T,la M]
noncomputable def MC(P:Params):bO:=cB Cp wr yo (fun _=>[]) [] (fun n=>DH (JQ P) RN (Jv P) 100 n)
theorem Nc(a b:PV):dw Cp wr yo ([a,b]++[]) ([]++[])=⟨[some a,some b,none,none,none,none,none,none,none],[],0⟩:=by left
theorem Lx{p:PV}{Y:List PV}{Z:AS}{i j:Nat}(X:Z.st.lookup i=some (.list Y))(W:Y[j]?=some p):gZ Z (.rev i (j+1))=some (some (p,.rev i j)):=by
 show(dN (Z.st.lookup i)).bind _=_;rw [X];show(Y[j]?).map _=_;rw [W];rfl
theorem Hl{X:TR}{f o:SR}{p:PV}{V:List PV}{σ Y Z:AS}{n i j:Nat}(W:σ.st.lookup i=some (.list V))(U:V[j]?=some p)(h:X p σ=some Y)(T:f Y=some (.next,Z)):iz X f o (n+1) (.rev i (j+1)) σ=iz X f o n (.rev i j) Z:=by
 show(match gZ σ (.rev i (j+1))with|some (some (p,S))=>_|some none=>_|none=>_)=_;rw [Lx W U];dsimp only;rw [h];dsimp only;rw [T]
theorem Li{Y:TR}{f o:SR}{Z:AS}{n i:Nat}:iz Y f o (n+1) (.rev i 0) Z=o Z:=rfl
noncomputable abbrev CX:SR:=(ap (ai (bc RN (ac (ae (ae (aa 4) (aa 2) eI) (aa 6) ba) (ac (aa 1) (ac (aa 2) aj)))) (dK 2 (aT (am 7) (aT (am 4) cM))))
 (ap (bC (aK "list" (aa 5) (ac (aa 7) aj) aQ))
 ah))
noncomputable abbrev jX(a b n r:Nat)(X Y Z:Option PV)(st:List (Nat×AO)):AS:=⟨[cI (a:Int),cI (b:Int),cI (n:Int),cL 0,cI (r:Int),cL 1,X,Y,Z],st,2⟩
theorem BY{a b n:Nat}(F:1<=n/\n<=7000)(S:2^n<=2*b)(V:b<2^n){ds:List Nat}(M:∀d∈ds,d<2^n)(x:ds.length<=60):∀(j N:Nat) (r:Nat) (Y:List Nat) (H Q:Option PV) (st:List (Nat×AO)),j<N->j<=ds.length->Y.length+j<=60->r<b->(∀q∈Y,q<2^n)->
  st.lookup 0=some (.list (au ds))->st.lookup 1=some (.list (au Y))->vl n Y.reverse*b+r=vl n (ds.drop j)->
  Vg fun R Z T U X=>Qm (iz (am 6) CX ah N (.rev 0 j) (jX a b n r H Q none st)=some (.next,jX a b n R T U none X)) (X.lookup 1=some (.list (au Z))) (R<b) ((∀q∈Z,q<2^n)) (vl n Z.reverse*b+R=vl n ds) (Z.length=Y.length+j)
 |_,0,_,_,_,_,_,h,_,_,_,_,_,_,_=>absurd h (ix _)
 |0,N+1,r,Y,H,Q,st,_,_,_,G,z,v,E,D=>⟨r,Y,H,Q,st,Li,E,G,z,D,rfl⟩
 |j+1,N+1,r,Y,H,Q,st,o,y,P,G,z,v,E,D=>by
  have e:0<2^n:=jh n;have u:0<b:=by exact bb 0x10002108001004210086000022 rfl S V
  have w:ds[j]<2^n:=M _ (pB _);have t:Sm 7000 b:=Sm.mono (k:=n) V F.2;have O:r*2^n+ds[j]<b*2^n:=by
   have:(r+1)*2^n<=b*2^n:=ku _ G;rw [hO,gm]at this
   exact gP 0x3000020082118020100400840000422 rfl w this
  have I:=dF (r*2^n+ds[j]) b;have A:(r*2^n+ds[j])/b<2^n:=by rw [mZ u,cF (2^n) b];exact O
  have C:(r*2^n+ds[j])%b<b:=eU _ u;have m:=UA F S V O;generalize p:(r*2^n+ds[j])/b=W at *
  generalize s:(r*2^n+ds[j])%b=r1 at *
  have f:ai (bc RN (ac (ae (ae (aa 4) (aa 2) eI) (aa 6) ba) (ac (aa 1) (ac (aa 2) aj)))) (dK 2 (aT (am 7) (aT (am 4) cM))) (jX a b n r (some (.int ((ds[j]:Nat):Int))) Q none st)=some (.next,jX a b n r1 (some (.int ((ds[j]:Nat):Int))) (some (.int (W:Int))) none st):=
   ax (bp (ps:=[.int ((r*2^n+ds[j]:Nat):Int),.int (b:Int),.int (n:Int)]) (aw (g:=ac (aa 1) (ac (aa 2) aj)) (ak (ak rfl rfl (pV (by exact(aH 0x61a8140000406d60a000021 rfl F.2)) ((t.le (iR G)).mono (by decide)).lt)) rfl rfl) rfl) rfl rfl m) rfl
  have i:bC (aK "list" (aa 5) (ac (aa 7) aj) aQ) (jX a b n r1 (some (.int ((ds[j]:Nat):Int))) (some (.int (W:Int))) none st)=some (.next,jX a b n r1 (some (.int ((ds[j]:Nat):Int))) (some (.int (W:Int))) none (av st 1 (.list (au (Y++[W]))))):=by
   rw [nD];exact cb (σ:=⟨_,st,2⟩) (σ₁:=⟨_,st,2⟩) rfl E rfl E (by rw [cC];exact bb 0x7a12014000043c204210080010021 rfl P)
  obtain⟨R,Z,T,U,X,g,g1,g2,g3,g4,l⟩:=BY (a:=a) F S V M x j N r1 (Y++[W]) (some (.int ((ds[j]:Nat):Int))) (some (.int (W:Int))) (av st 1 (.list (au (Y++[W])))) (by exact(DV o)) (by exact(wj y)) (by rw [df];simp only [cm,fG];exact bb 0x78408021000420043c204210080010021 rfl P) C (fun q B=>by
   rcases kQ.mp B with h|h
   .exact z q h
   .rw [cJ.mp h];exact A) (by rw [az (by decide)];exact v) aM (by
   rw [List.reverse_append,List.reverse_singleton,Jp];show(W+2^n*vl n Y.reverse)*b+r1=_;rw [Js (show j<ds.length by exact vB y)];show _=ds[j]+2^n*vl n (ds.drop (j+1));rw [<-D,rT,hO,cF W b,oF (2^n)];have:2^n*r=r*2^n:=cF _ _;exact bB (FB 0x4014021804101400008400880400a23008020800010822 rfl I this) (FB 0x1014000084401402180400880400823008020800010a22 rfl I this))
  refine⟨R,Z,T,U,X,(Hl (σ:=⟨_,st,2⟩) v (nE (by exact(vB y))) rfl ((ad f).trans ((ad i).trans rfl))).trans g,g1,g2,g3,g4,?_⟩;rw [l,df];simp only [cm,fG];exact bB (Ng) (Lj)
theorem Qa(P:Params){a b n m:Nat}(F:0<b)(H:n=Builtin.Int.intBits (b:Int))(N:n<=7000)(D:m=(Builtin.Int.intBits (a:Int)+n-1)/n)(T:m<=60)(M:m*n<=40000):MC P [.int (a:Int),.int (b:Int)] []=some (.tup [.int ((a/b:Nat):Int),.int ((a%b:Nat):Int)],[],[]):=by
 have S:b<2^n:=by simpa using kG.mp (Nat.le_of_eq H.symm)
 have V:1<=n:=by
  rcases zu n with h|h
  .rw [h]at S;simp at S;exact(GF F S:False).elim
  .exact h
 have G:2^n<=2*b:=by
  obtain⟨k,C⟩:∃k,n=k+1:=⟨n-1,by exact bB (bb 0x42000820004200840010a21 rfl (aA (Fy V))) (bb 0x40108002004200840010821 rfl (aA (Fy V)))⟩;have:¬b<2^k:=fun h=>by
   have:=(kG (m:=k) (x:=(b:Int))).mpr (by simpa using h);exact ci 0x400800108440100028840000823 rfl H C this
  rw [C,ky];exact ci 0x21880008402188020840001042 rfl this (cF _ 2)
 have R:a<2^(m*n):=by
  have w:Builtin.Int.intBits (a:Int)<=m*n:=by
   have A:=dF (Builtin.Int.intBits (a:Int)+n-1) n;have B:=eU (Builtin.Int.intBits (a:Int)+n-1) (show n>0 by exact aH 0x210800108021 rfl V);rw [<-D,cF]at A
   exact nL 0x2000118080104220085118020084400800010a23 rfl A B (aA (ci 0x8040104200840000421 rfl B))
  simpa using kG.mp w
 unfold MC;rw [cc (σ:=⟨[cI (a:Int),cI (b:Int),none,none,none,none,none,none,none],[],0⟩) rfl (Nc _ _)];unfold DH;have r:ai (aK "int" (aa 1) aj gT) (am 2) ⟨[cI (a:Int),cI (b:Int),none,none,none,none,none,none,none],[],0⟩=some (.next,⟨[cI (a:Int),cI (b:Int),cI (n:Int),none,none,none,none,none,none],[],0⟩):=by
  rw [H];exact ax (ca rfl rfl rfl rfl) rfl
 have s:ai (bc (JQ P) (ac (aa 0) (ac (aa 2) aj))) (am 3) ⟨[cI (a:Int),cI (b:Int),cI (n:Int),none,none,none,none,none,none],[],0⟩=some (.next,⟨[cI (a:Int),cI (b:Int),cI (n:Int),cL 0,none,none,none,none,none],[(0,.list (au (dg n m a)))],1⟩):=
  ax (dO (ids:=[]) (os:=[]) rfl rfl rfl (fun _ h=>by cases h) rfl (Pw P ⟨V,N⟩ D T M) rfl rfl (fun o h=>by rw [cJ.mp h];exact cZ _)) rfl
 obtain⟨U,Z,W,X,Y,g,g1,g2,g3,g4,z⟩:=BY (a:=a) (b:=b) ⟨V,N⟩ G S (ds:=dg n m a) (OK n m a) (by rw [kX];exact T) m 100 0 [] none none [(1,.list (au [])),(0,.list (au (dg n m a)))] (by exact(aH 0xc84000210f08000021 rfl T)) (by rw [kX];exact bZ _) (by simpa using T) F (fun q h=>by cases h) rfl rfl (by
  rw [qC (by rw [kX];exact bZ _)];simp [vl])
 rw [OE n m a R]at g4
 have t:dD 100 (vZ (aa 3)) (am 6) CX ah (jX a b n 0 none none none [(1,.list (au [])),(0,.list (au (dg n m a)))])=some (.next,jX a b n U W X none Y):=by
  have:vZ (aa 3) (jX a b n 0 none none none [(1,.list (au [])),(0,.list (au (dg n m a)))])=some (.rev 0 m,jX a b n 0 none none none [(1,.list (au [])),(0,.list (au (dg n m a)))]):=by
   show some (IK.rev 0 (au (dg n m a)).length,_)=_;rw [cC,kX]
  unfold dD;rw [this];exact g
 have O:Z.length<=60:=by rw [z];simpa using T
 have u:bC (aK "list" (aa 5) aj gz) (jX a b n U W X none Y)=some (.next,jX a b n U W X none (av Y 1 (.list (au Z.reverse)))):=by
  have I:gz [.loc 1] (jX a b n U W X none Y)=some (.none,jX a b n U W X none (av Y 1 (.list (au Z.reverse)))):=by
   show zJ 1 _ _=_;rw [mi (σ:=jX a b n U W X none Y) g1 (by rw [cC];exact bJ O (by decide))];unfold au;dsimp only;rw [<-Au]
  exact fV (ca rfl (gK g1) rfl I)
 have Q:=Rg P (n:=n) (ds:=Z.reverse) V (by simpa using O) (fun d y=>g3 d (uh.mp y)) (by
  rw [BK,z];simpa using M)
 have v:ai (bc (Jv P) (ac (aa 5) (ac (aa 2) aj))) (am 8) (jX a b n U W X none (av Y 1 (.list (au Z.reverse))))=some (.next,jX a b n U W X (some (.int ((vl n Z.reverse:Nat):Int))) (av (av Y 1 (.list (au Z.reverse))) 1 (.list (au Z.reverse)))):=
  ax (dO (ids:=[1]) (os:=[.list (au Z.reverse)]) (p:=.int ((vl n Z.reverse:Nat):Int)) (ns:=[]) (σ₁:=jX a b n U W X none (av Y 1 (.list (au Z.reverse)))) rfl rfl (by show [List.lookup 1 _]=_;rw [aM];rfl) (fun o h=>by rw [cJ.mp h];exact cZ _) rfl Q rfl rfl (fun _ h=>by cases h)) rfl
 have E:vl n Z.reverse=a/b/\U=a%b:=by
  constructor
  .rw [<-g4,cF,Gf F,uF g2,Nat.add_zero]
  .rw [<-g4,cF,Hx,uG g2]
 rw [<-E.1,<-E.2];refine(bv (ie ([]:List AO).length) ((ad r).trans ((ad s).trans ((ad rfl).trans ((ad rfl).trans ((ad t).trans ((ad u).trans ((ad v).trans (aG (cT (fN (ps:=[.int ((vl n Z.reverse:Nat):Int),.int (U:Int)]) rfl (by show 2<=2^20;decide))))))))))) ).trans (gA _ _ _)
noncomputable def jZ(P:Params)(C:bO):bO:=cB Cb wU yl (fun _=>[]) [] (fun n=>tb C (MC P) 100 n)
noncomputable def Iu(P:Params):bO:=jZ P (jZ P (jZ P AI))
theorem uK(a b:PV):dw Cb wU yl ([a,b]++[]) ([]++[])=⟨[some a,some b,none,none],[],0⟩:=by left
structure tw(a b:Nat):Prop where
 pos:0<b
 n7:Builtin.Int.intBits (b:Int)<=7000
 m60:(Builtin.Int.intBits (a:Int)+Builtin.Int.intBits (b:Int)-1)/Builtin.Int.intBits (b:Int)<=60
 mn:(Builtin.Int.intBits (a:Int)+Builtin.Int.intBits (b:Int)-1)/Builtin.Int.intBits (b:Int)*Builtin.Int.intBits (b:Int)<=40000
noncomputable def rz(q r:Int):Option (PV×List AO×List AO):=some (.tup [.int q,.int r],[],[])
theorem Rt{a b:Int}:aq (ae (aa 1) (ab (.int 0)) jd) ⟨[cI a,cI b,none,none],[],0⟩=some (b==0,⟨[cI a,cI b,none,none],[],0⟩) /\
  aq (ae (aa 1) (ab (.int 0)) mQ) ⟨[cI a,cI b,none,none],[],0⟩=some (decide (b<0),⟨[cI a,cI b,none,none],[],0⟩) /\
  aq (ae (aa 0) (ab (.int 0)) mQ) ⟨[cI a,cI b,none,none],[],0⟩=some (decide (a<0),⟨[cI a,cI b,none,none],[],0⟩):=
 ⟨aD (ak rfl rfl rfl) rfl,aD (ak rfl rfl rfl) rfl,aD (ak rfl rfl rfl) rfl⟩
theorem Dr(P:Params)(C:bO){a b:Nat}(h:tw a b):jZ P C [.int (a:Int),.int (b:Int)] []=rz ((a/b:Nat):Int) ((a%b:Nat):Int):=by
 obtain⟨X,Y,Z⟩:=Rt (a:=(a:Int)) (b:=(b:Int));have V:=h.pos;rw [show((b:Int)==0)=false by simp;exact fun W=>GF V W]at X
 rw [fh (by omega)]at Y Z
 unfold jZ;rw [cc (σ:=⟨[cI (a:Int),cI (b:Int),none,none],[],0⟩) rfl (uK _ _)];unfold tb;have U:=Qa P h.pos rfl h.n7 rfl h.m60 h.mn;exact(bv (ie ([]:List AO).length) (aG ((bq X).trans (aG ((bq Y).trans (aG ((bq Z).trans (aG (cT (bp (ps:=[.int (a:Int),.int (b:Int)]) rfl rfl rfl U)))))))))).trans (gA _ _ _)
theorem Nb(P:Params)(C:bO){a b:Nat}(V:0<b)(Q:C [.int (a:Int),.int (b:Int)] []=rz ((a/b:Nat):Int) ((a%b:Nat):Int)):jZ P C [.int (-(a:Int)-1),.int (b:Int)] []=rz (-((a/b:Nat):Int)-1) ((b:Int)-((a%b:Nat):Int)-1):=by
 obtain⟨W,X,Y⟩:=Rt (a:=-(a:Int)-1) (b:=(b:Int));rw [show((b:Int)==0)=false by simp;exact fun Z=>GF V Z]at W
 rw [fh (by exact(fun Z=>aH 0x29001290800008422 rfl V Z))]at X
 rw [dq (by exact(aH 0x1484290012d62420 rfl))]at Y
 unfold jZ;rw [cc (σ:=⟨[cI (-(a:Int)-1),cI (b:Int),none,none],[],0⟩) rfl (uK _ _)];unfold tb;have S:Builtin.bitNot (-(a:Int)-1)=(a:Int):=by unfold Builtin.bitNot;exact ce (aH 0x9085210a4004b58d62020 rfl) (aH 0x42908520025ac6b0004a020 rfl)
 have N:ai (bc C (ac (cY (aa 0) nd) (ac (aa 1) aj))) (dK 2 (aT (am 2) (aT (am 3) cM))) ⟨[cI (-(a:Int)-1),cI (b:Int),none,none],[],0⟩=some (.next,⟨[cI (-(a:Int)-1),cI (b:Int),cI ((a/b:Nat):Int),cI ((a%b:Nat):Int)],[],0⟩):=by
  have R:ac (cY (aa 0) nd) (ac (aa 1) aj) ⟨[cI (-(a:Int)-1),cI (b:Int),none,none],[],0⟩=some ([.int (a:Int),.int (b:Int)],⟨[cI (-(a:Int)-1),cI (b:Int),none,none],[],0⟩):=by
   have:ac (cY (aa 0) nd) (ac (aa 1) aj) ⟨[cI (-(a:Int)-1),cI (b:Int),none,none],[],0⟩=some ([.int (Builtin.bitNot (-(a:Int)-1)),.int (b:Int)],⟨[cI (-(a:Int)-1),cI (b:Int),none,none],[],0⟩):=rfl;rw [this,S]
  exact ax (bp R rfl rfl Q) rfl
 have O:bF (ey (ac (cY (aa 2) nd) (ac (ae (aa 1) (cY (aa 3) nd) ba) aj))) ⟨[cI (-(a:Int)-1),cI (b:Int),cI ((a/b:Nat):Int),cI ((a%b:Nat):Int)],[],0⟩=some (.ret (.tup [.int (-((a/b:Nat):Int)-1),.int ((b:Int)-((a%b:Nat):Int)-1)]),⟨[cI (-(a:Int)-1),cI (b:Int),cI ((a/b:Nat):Int),cI ((a%b:Nat):Int)],[],0⟩):=by
  have:bF (ey (ac (cY (aa 2) nd) (ac (ae (aa 1) (cY (aa 3) nd) ba) aj))) ⟨[cI (-(a:Int)-1),cI (b:Int),cI ((a/b:Nat):Int),cI ((a%b:Nat):Int)],[],0⟩=some (.ret (.tup [.int (Builtin.bitNot ((a/b:Nat):Int)),.int ((b:Int)+Builtin.bitNot ((a%b:Nat):Int))]),⟨[cI (-(a:Int)-1),cI (b:Int),cI ((a/b:Nat):Int),cI ((a%b:Nat):Int)],[],0⟩):=
   cT (fN rfl (by show 2<=2^20;decide))
  rw [this];have T:Builtin.bitNot ((a/b:Nat):Int)=-((a/b:Nat):Int)-1:=by unfold Builtin.bitNot;exact ce (aH 0x4290012d604290012d62020 rfl) (aH 0x4290012d604290012d62020 rfl)
  have U:(b:Int)+Builtin.bitNot ((a%b:Nat):Int)=(b:Int)-((a%b:Nat):Int)-1:=by unfold Builtin.bitNot;exact ce (bb 0x21484090012c604290812d6000912020 rfl) (bb 0x21484096b00048821484090012c62020 rfl)
  rw [T,U]
 exact(bv (ie ([]:List AO).length) (aG ((bq W).trans (aG ((bq X).trans (aG ((bQ Y).trans ((ad N).trans (aG O))))))))).trans (gA _ _ _)
theorem MT(P:Params)(C:bO){a b q r:Int}(X:0<b)(U:C [.int a,.int b] []=rz q r):jZ P C [.int (-a),.int (-b)] []=rz q (-r):=by
 obtain⟨Y,Z,R⟩:=Rt (a:=-a) (b:=-b);rw [show((-b:Int)==0)=false from gp.mpr (by exact(fun W=>gW 0x52043551020014a422 rfl X W))]at Y
 rw [dq (by exact(gW 0x52043521020014a421 rfl X))]at Z
 unfold jZ;rw [cc (σ:=⟨[cI (-a),cI (-b),none,none],[],0⟩) rfl (uK _ _)];unfold tb;have S:ai (bc C (ac (cY (aa 0) im) (ac (cY (aa 1) im) aj))) (dK 2 (aT (am 2) (aT (am 3) cM))) ⟨[cI (-a),cI (-b),none,none],[],0⟩=some (.next,⟨[cI (-a),cI (-b),cI q,cI r],[],0⟩):=by
  have V:ac (cY (aa 0) im) (ac (cY (aa 1) im) aj) ⟨[cI (-a),cI (-b),none,none],[],0⟩=some ([.int a,.int b],⟨[cI (-a),cI (-b),none,none],[],0⟩):=by
   have:ac (cY (aa 0) im) (ac (cY (aa 1) im) aj) ⟨[cI (-a),cI (-b),none,none],[],0⟩=some ([.int (- -a),.int (- -b)],⟨[cI (-a),cI (-b),none,none],[],0⟩):=rfl;rw [this,Int.neg_neg,Int.neg_neg]
  exact ax (bp V rfl rfl U) rfl
 have T:bF (ey (ac (aa 2) (ac (cY (aa 3) im) aj))) ⟨[cI (-a),cI (-b),cI q,cI r],[],0⟩=some (.ret (.tup [.int q,.int (-r)]),⟨[cI (-a),cI (-b),cI q,cI r],[],0⟩):=cT (fN rfl (by show 2<=2^20;decide));exact(bv (ie ([]:List AO).length) (aG ((bq Y).trans (aG ((bQ Z).trans ((ad S).trans (aG T))))))).trans (gA _ _ _)
noncomputable def yW(a:Int):Nat:=if 0<=a then a.toNat else(-a-1).toNat
theorem Do(P:Params)(C:bO){a b:Int}(X:0<b)(h:tw (yW a) b.toNat):jZ P (jZ P C) [.int a,.int b] []=rz (Int.fdiv a b) (Int.fmod a b):=by
 obtain⟨B,rfl⟩:∃B:Nat,b=B:=⟨b.toNat,by exact ce (sE (cG (Bv X))) (sM (cG (Bv X)))⟩;rw [fp]at h
 rw [nO _ (by exact(aH 0x24014a020024014a421 rfl X)),ub _ (by exact(aH 0x24014a020024014a421 rfl X))]
 by_cases Z:0<=a
 .obtain⟨A,rfl⟩:∃A:Nat,a=A:=⟨a.toNat,by exact ce (sE (cG (pJ Z))) (sM (cG (pJ Z)))⟩
  have W:yW (A:Int)=A:=by unfold yW;rw [aC Z,fp]
  rw [W]at h
  exact Dr P _ h
 .obtain⟨A,W⟩:∃A:Nat,a=-(A:Int)-1:=⟨(-a-1).toNat,by exact ce (hH 0x10a4004b580420210a4086b0004a821 rfl (cG (NH Z))) (hH 0x404290012d620210a4086b0004aa21 rfl (cG (NH Z)))⟩
  have V:yW a=A:=by unfold yW;rw [aF Z];exact bB (qf 0x1000210a4086b0204a8210a4004b58042a22 rfl W (cG (NH Z))) (qf 0x400000210a4086b0204aa210a4004b58042822 rfl W (cG (NH Z)))
  rw [V]at h
  have T:=h.pos;have:=Nb P (jZ P C) T (Dr P C h);rw [W,this];have S:A%B<B:=eU _ T;have Y:=dF A B;have U:(-(A:Int)-1)/(B:Int)=-((A/B:Nat):Int)-1/\(-(A:Int)-1)%(B:Int)=(B:Int)-((A%B:Nat):Int)-1:=by
   rw [GT (by exact(aH 0x24014a420024014a421 rfl X))];refine⟨?_,by exact bb 0x429001210258c005280840000421 rfl S,by exact bb 0x2421484090012c62420 rfl⟩;rw [Int.mul_sub,Int.mul_one,BM,<-uj];exact ce (gP 0x8522025ac18120025ac08521024604b182404400800010a21 rfl Y) (gP 0x18120025ac08521024604b18208522025ac404400800010821 rfl Y)
  rw [U.1,U.2]
noncomputable def em(k:Nat)(a:Int):Prop:=Sm k a.natAbs
theorem em.mono{k m:Nat}{a:Int}(h:em k a)(Z:k<=m):em m a:=Sm.mono h Z
theorem em.mul{k m:Nat}{a b:Int}(h:em k a)(Z:em m b):em (k+m) (a*b):=by
 unfold em at *;rw [Int.natAbs_mul];exact Sm.mul h Z
theorem em.add{k:Nat}{a b:Int}(h:em k a)(Z:em k b):em (k+1) (a+b):=(Sm.add h Z).le (JK a b)
theorem em.neg{k:Nat}{a:Int}(h:em k a):em k (-a):=by unfold em at *;rw [JS];exact h
theorem em.sub{k:Nat}{a b:Int}(h:em k a)(Z:em k b):em (k+1) (a-b):=by rw [FJ];exact h.add Z.neg
theorem em.nat{k a:Nat}(h:Sm k a):em k (a:Int):=h
theorem em.lit{a:Int}(h:a.natAbs<65536):em 16 a:=h
theorem nV{a b:Int}{Z:AS}(X:em 50000 a)(Y:em 50000 b):cz (.int a) (.int b) Z=some (.int (a*b),Z):=by
 refine dv (k:=vG) ?_
 unfold vG;rw [lr (n:=50000) (by decide) X,lr (n:=50000) (by decide) Y];rfl
theorem wh{k x:Nat}(h:Sm k x):Builtin.Int.intBits (x:Int)<=k:=kG.mpr (by simpa using h.lt)
theorem ni(x:Nat):Sm (Builtin.Int.intBits (x:Int)) x:=by have:=kG.mp (bZ (Builtin.Int.intBits (x:Int)));simpa [Sm]using this
theorem DR{x y:Nat}(h:x<=y):Builtin.Int.intBits (x:Int)<=Builtin.Int.intBits (y:Int):=wh ((ni y).le h)
theorem tw.of{a b:Nat}(Z:0<b)(Y:Builtin.Int.intBits (b:Int)<=7000)(W:Builtin.Int.intBits (a:Int)<=3*Builtin.Int.intBits (b:Int)+20):tw a b:=by
 have X:0<Builtin.Int.intBits (b:Int):=by
  rcases zu (Builtin.Int.intBits (b:Int))with h|h
  .have:=ni b;rw [h]at this;simp [Sm]at this;exact(GF Z this:False).elim
  .exact h
 refine⟨Z,by exact aH 0xdac140000406d60a000021 rfl Y,?_,?_⟩
 .exact Nat.div_le_of_le_mul (by omega)
 .exact bJ (Nat.div_mul_le_self _ _) (by exact(ci 0x27100a200020004020844010834080031882000406d60a000083 rfl Y W (aA (bb 0x20104200800008421 rfl X))))
noncomputable def tn(y Z:Int):Option Int:=
 let s:Int:=if Int.fdiv (-y) 16+2>1 then Int.fdiv (-y) 16+2 else 1
 if s<=9/\Int.fmod (y+16*s) (2^(s-1).toNat)=0 then some (Z*Int.fdiv (y+16*s) (2^(s-1).toNat))else none
theorem Pu{v d:Int}{U L:Nat}(Y:0<d)(W:L<U):Int.fdiv (v*U+L) (d*U)=Int.fdiv v d/\Int.fmod (v*U+L) (d*U)=Int.fmod v d*U+L:=by
 have X:(0:Int)<U:=by exact bb 0x409005290840000421 rfl W
 have Z:(0:Int)<d*U:=Int.mul_pos Y X;rw [nO _ (nQ Z),nO _ (nQ Y),ub _ (nQ Z),ub _ (nQ Y),GT Z];have R:=qZ v d;have S:=AP v (show d≠0 by exact fun V=>gW 0x2902141020014a422 rfl Y V);have T:=AK v Y;generalize v/d=q at *
 generalize v%d=r at *
 refine⟨?_,?_,?_⟩
 .rw [<-R,nX,Int.mul_right_comm];exact ce (FA 0x24080a0420a0004810212020 rfl) (FA 0x400090a042001214010212020 rfl)
 .have:=Int.mul_nonneg S (nQ X)
  exact hH 0x9020400a501020014a021 rfl this
 .have:(r+1)*(U:Int)<=d*U:=Int.mul_le_mul_of_nonneg_right (by exact(Tq 0x140429020480850042421 rfl T)) (nQ X)
  rw [nX,kd]at this
  exact Hw 0x500024081242140409020480840000422 rfl W this
noncomputable def ET(P:Params):bO:=cB Ca xR wH (fun _=>[]) [] (fun n=>DE (Iu P) 100 n)
theorem Mt(a b c d:PV):dw Ca xR wH ([a,b,c,d]++[]) ([]++[])=⟨[some a,some b,some c,some d,none,none,none],[],0⟩:=by left
theorem LF(a:Int):yW a<=a.natAbs:=by
 unfold yW;cases a with
 |ofNat n=>rw [aC (show 0<=Int.ofNat n from mS n)];exact bZ n
 |negSucc n=>
  rw [aF (AE.mpr (Int.negSucc_lt_zero n)),Int.neg_negSucc,show((n.succ:Nat):Int)-1=n by exact ce (KH) (KN)];exact jo n
theorem IA(P:Params){v d:Int}{U L K:Nat}{side:Int}(I:side=1\/side=-1)(X:0<d)(H:1<=U)(V:Sm 4300 U)(R:L<U)(W:em 16 d)(M:em (Builtin.Int.intBits (U:Int)+17) v):
  Iu P [.int (side*(v*U+L)),.int (side*d*U)] []=rz (Int.fdiv v d) (side*(Int.fmod v d*U+L)):=by
 have Z:(0:Int)<d*U:=Int.mul_pos X (by exact(aH 0x9005290800108021 rfl H));obtain⟨S,T⟩:=Pu (v:=v) X R;have G:Builtin.Int.intBits (U:Int)<=Builtin.Int.intBits (((d*U).toNat:Nat):Int):=DR (by
  obtain⟨D,rfl⟩:∃D:Nat,d=D:=⟨d.toNat,by exact ce (sE (cG (Bv X))) (sM (cG (Bv X)))⟩;rw [<-uj,fp];exact zy _ (by exact(aH 0x8420024014a421 rfl X)))
 have O:em (Builtin.Int.intBits (U:Int)) (U:Int):=em.nat (ni U);have N:em (Builtin.Int.intBits (U:Int)) (L:Int):=em.nat ((ni U).le (by exact(hV R)));have Q:em (2*Builtin.Int.intBits (U:Int)+18) (v*U+L):=em.mono ((M.mul O).add (N.mono (by exact(aH 0x44200084000020 rfl)))) (by exact(aH 0x120800218821002210004210020 rfl));have Y:tw (yW (v*U+L)) (d*U).toNat:=by
  refine tw.of (by exact(hH 0x210810002551020014a422 rfl Z (cG (Bv Z)))) ?_ ?_
  .refine wh (Sm.mono (k:=16+4300) ?_ (by decide))
   have:=W.mul (em.nat V);rw [show(d*(U:Int)).toNat=(d*(U:Int)).natAbs by exact bB (qf 0x1000000810102551020004a822 rfl (cG (Bv Z)) (fF (Bv Z))) (qf 0x1000000810102551020004a822 rfl (fF (Bv Z)) (cG (Bv Z)))];exact this
  .have:=wh (Sm.le Q (LF _))
   exact ci 0x1408403188400064100043108000840000042 rfl G this
 rcases I with rfl|rfl
 .rw [kd,kd,kd]
  have:=Do P (jZ P AI) Z Y;rw [S,T]at this
  exact this
 .have F:=Do P AI Z Y
  have:=MT P (jZ P (jZ P AI)) Z F;rw [S,T]at this
  rw [show -1*(v*(U:Int)+L)=-(v*U+L)by exact ce (FA 0x242813408404004850208da042821 rfl (kE _ _)) (FA 0x400090a04d404004850208da042a21 rfl (kE _ _)),show -1*d*(U:Int)=-(d*U)by rw [kE,kd,kE],show -1*(Int.fmod v d*U+L)=-(Int.fmod v d*U+L)by exact ce (FA 0x242813408404004850208da042821 rfl (kE _ _)) (FA 0x400090a04d404004850208da042a21 rfl (kE _ _))];exact this
noncomputable abbrev gh(y Z:Int)(U L:Nat)(W X Y:Option PV):AS:=⟨[cI y,cI Z,cI (U:Int),cI (L:Int),W,X,Y],[],0⟩
theorem yV{a b:PV}{Z:AS}:aO (.tup [a,b]) (.int 1) Z=some (b,Z):=rfl
theorem wv{a b:PV}{Z:AS}:aO (.tup [a,b]) (.int 0) Z=some (a,Z):=rfl
theorem vI{a:Int}{Z:AS}:mJ (.int a) (.int a) Z=some (.bool false,Z):=by
 show some (PV.bool (a != a),Z)=_;rw [GH]
theorem Fn:plainIs (.type "tuple") (.type "tuple")=true:=by decide
theorem wL{i:Nat}{a b:PV}{Z:AS}(h:fB Z.loc i=some (.tup [a,b])):aq (ae (aB sz (ac (aa i) aj)) (ab (.val (.type "tuple"))) cK) Z=some (false,Z):=by
 refine aD (p:=.bool false) (ak (bN (ps:=[.tup [a,b]]) (σ₁:=Z) ?_ rfl) rfl ?_) rfl
 .exact aw (g:=aj) (eS h) rfl
 .show(Ls (.val (.type "tuple")) (.val (.type "tuple"))).bind _=_
  have:Ls (.val (.type "tuple")) (.val (.type "tuple"))=some true:=by
   show(if plainIs (.type "tuple") (.type "tuple")=true then some ((Value.type "tuple")==(Value.type "tuple"))else none)=some true;rw [aC Fn]
   decide
  rw [this];rfl
theorem RE(P:Params){y Z:Int}{U L:Nat}{w:Int}(B:Z=1\/Z=-1)(hy:y.natAbs<=1000)(hU:1<=U)(T:Sm 4300 U)(m:L<U)(N:tn y Z=some w):ET P [.int y,.int Z,.int (U:Int),.int (L:Int)] []=some (.int w,[],[]):=by
 have M:em 4300 (U:Int):=em.nat T;have c:em 4300 (L:Int):=em.nat (T.le (by exact(hV m)));have a:em 4300 ((U/2:Nat):Int):=em.nat (T.le (rm _ _));have O:em 16 Z:=em.lit (by rcases B with rfl|rfl<;>decide);have j:em 16 y:=em.lit (by exact(aH 0x20000500021fa08000021 rfl hy));have R:em 4316 (Z*((U/2:Nat):Int)):=(O.mul a).mono (by decide);have C:Z*Z=1:=by rcases B with rfl|rfl<;>rfl
 have l:=IA P (v:=16*(Z*((U/2:Nat):Int))-y) (d:=16) (U:=U) (L:=L) (K:=0) (side:=1) (.inl rfl) (by decide) hU T m (em.lit (by decide)) (by
  have a1:em (Builtin.Int.intBits (U:Int)) ((U/2:Nat):Int):=em.nat ((ni U).le (rm _ _));have a2:em (1+Builtin.Int.intBits (U:Int)) (Z*((U/2:Nat):Int)):=em.mul (show em 1 Z by rcases B with rfl|rfl<;>exact(by decide:(1:Nat)<2^1)) a1;have a3:em (5+(1+Builtin.Int.intBits (U:Int))) (16*(Z*((U/2:Nat):Int))):=em.mul (show em 5 16 from(by decide:(16:Nat)<2^5)) a2;exact((a3.mono (show _<=Builtin.Int.intBits (U:Int)+16 by exact aH 0x8040010001088a110020 rfl)).sub (j.mono (by exact(aH 0x2010005008020 rfl)))).mono (by exact(aH 0x88400104300800210020 rfl)))
 rw [kd,kd,kd]at l
 have f1:Int.fdiv (16*(Z*((U/2:Nat):Int))-y) 16=Z*((U/2:Nat):Int)+Int.fdiv (-y) 16:=by
  rw [nO _ (by decide),nO _ (by decide)];generalize Z*((U/2:Nat):Int)=f;exact ce (wi [] [_,_,_,_,_,_] 0x2204810108840292a1211a1a541110189510a0014a023409101b0280220312824 rfl (qZ _ 16) (AP _ (b:=16) (by decide)) (qZ _ 16) (AK _ (b:=16) (by decide))) (wi [] [_,_,_,_,_,_] 0x1a0082a0488402922121120a880d8440d10189510a0014a022434280220312824 rfl (qZ _ 16) (AP _ (b:=16) (by decide)) (qZ _ 16) (AK _ (b:=16) (by decide)))
 have f2:Int.fmod (16*(Z*((U/2:Nat):Int))-y) 16=Int.fmod (-y) 16:=by
  rw [ub _ (by decide),ub _ (by decide)];generalize Z*((U/2:Nat):Int)=f;rw [FJ,Ad];exact Int.add_mul_emod_self_left _ _ _
 rw [f1,f2]at l
 have q:=kq (-y) (show(0:Int)<16 by decide);have r:=lH (-y) (show(0:Int)<16 by decide);have hq:=nO (-y) (show(0:Int)<=16 by decide);unfold tn at N
 have Y:(if Int.fdiv (-y) 16+2>1 then Int.fdiv (-y) 16+2 else 1:Int)<=100/\1<=(if Int.fdiv (-y) 16+2>1 then Int.fdiv (-y) 16+2 else 1:Int):=by
  by_cases n:Int.fdiv (-y) 16+2>1
  .rw [aC n];exact⟨by omega,by exact gW 0x829020410a50110520408214a421 rfl n⟩
  .rw [aF n];exact⟨by decide,by decide⟩
 have F:∀s:Int,s=(if Int.fdiv (-y) 16+2>1 then Int.fdiv (-y) 16+2 else 1:Int)->(if s<=9/\Int.fmod (y+16*s) (2^(s-1).toNat)=0 then some (Z*Int.fdiv (y+16*s) (2^(s-1).toNat))else none)=some w:=fun s h=>by rw [h];exact N
 clear N;generalize G:(if Int.fdiv (-y) 16+2>1 then Int.fdiv (-y) 16+2 else 1:Int)=s at Y
 have N:=F s G.symm;clear F
 split at N
 .rename_i hc
  obtain⟨E,hz⟩:=hc;obtain rfl:=aZ N;obtain⟨k,o⟩:∃k:Nat,s-1=k:=⟨(s-1).toNat,by exact ce (hH 0x9085204310108520430004aa21 rfl (cG (gW 0x429021800a501020214a021 rfl Y.2))) (hH 0x429021800250108520430004a821 rfl (cG (gW 0x429021800a501020214a021 rfl Y.2)))⟩;have p:k<=8:=by exact hH 0x8080000800908520431514852042022 rfl E o
  rw [o,fp]at hz ⊢
  have S:(2:Int)^k=((2^k:Nat):Int):=by push_cast;rfl
  have Q:2^k<=256:=bJ (rF (by decide) p) (by decide);have W:0<2^k:=jh k;have V:(y+16*s).natAbs<=2000:=by omega
  have d2:=IA P (v:=y+16*s) (d:=2^k) (U:=U) (L:=L) (K:=0) B (by rw [S];exact Fr W) hU T m (by rw [S];exact em.lit (by exact(bb 0x2000050802100121025414008000022 rfl Q (fF (aH 0x9005280800008421 rfl W))))) ((em.lit (rN V (by decide))).mono (by exact(aH 0x2210005008020 rfl)));rw [hz,Int.zero_mul,Int.zero_add]at d2
  generalize D:Z*((U/2:Nat):Int)=far at *
  have e1:ai (ae (aa 1) (ae (aa 2) (ab (.int 2)) de) cz) (am 4) (gh y Z U L none none none)=some (.next,gh y Z U L (some (.int far)) none none):=by
   rw [<-D];exact ax (ak rfl (ak rfl rfl (NU (b:=2) (by decide) (by decide))) (nV (O.mono (by decide)) (a.mono (by decide)))) rfl
  have e2:ai (bc (Iu P) (ac (ae (ae (ae (ae (ab (.int 16)) (aa 4) cz) (aa 0) cO) (aa 2) cz) (aa 3) ba) (ac (ae (ab (.int 16)) (aa 2) cz) aj))) (am 5) (gh y Z U L (some (.int far)) none none)=some (.next,gh y Z U L (some (.int far)) (some (.tup [.int (far+Int.fdiv (-y) 16),.int (Int.fmod (-y) 16*U+L)])) none):=by
   have H:cz (.int 16) (.int far) (gh y Z U L (some (.int far)) none none)=some (.int (16*far),gh y Z U L (some (.int far)) none none):=nV ((em.lit (by decide)).mono (by decide)) (R.mono (by decide));have I:em 16 16:=em.lit (by decide);have x:cz (.int (16*far-y)) (.int (U:Int)) (gh y Z U L (some (.int far)) none none)=some (.int ((16*far-y)*U),gh y Z U L (some (.int far)) none none):=nV ((((I.mul R)).sub (j.mono (by decide))).mono (by decide)) (M.mono (by decide));have z:cz (.int 16) (.int (U:Int)) (gh y Z U L (some (.int far)) none none)=some (.int (16*U),gh y Z U L (some (.int far)) none none):=nV (I.mono (by decide)) (M.mono (by decide));exact ax (bp (ps:=[.int ((16*far-y)*U+L),.int (16*U)]) (aw (g:=ac (ae (ab (.int 16)) (aa 2) cz) aj) (ak (ak (ak (ak rfl rfl H) rfl rfl) rfl x) rfl rfl) (aw (g:=aj) (ak rfl rfl z) rfl)) rfl rfl l) rfl
  have e3:iy (aq (ae (aB sz (ac (aa 5) aj)) (ab (.val (.type "tuple"))) cK)) (iy (aq (ae (ae (aa 5) (ab (.int 1)) aO) (ae (ae (ae (cY (aa 0) im) (ab (.int 16)) eu) (aa 2) cz) (aa 3) ba) mJ)) ir) (gh y Z U L (some (.int far)) (some (.tup [.int (far+Int.fdiv (-y) 16),.int (Int.fmod (-y) 16*U+L)])) none)=some (false,gh y Z U L (some (.int far)) (some (.tup [.int (far+Int.fdiv (-y) 16),.int (Int.fmod (-y) 16*U+L)])) none):=by
   have H:cz (.int (Int.fmod (-y) 16)) (.int (U:Int)) (gh y Z U L (some (.int far)) (some (.tup [.int (far+Int.fdiv (-y) 16),.int (Int.fmod (-y) 16*U+L)])) none)=some (.int (Int.fmod (-y) 16*U),gh y Z U L (some (.int far)) (some (.tup [.int (far+Int.fdiv (-y) 16),.int (Int.fmod (-y) 16*U+L)])) none):=nV ((em.lit (by exact(hH 0x100002800108100025418052042422 rfl r (fF (pJ q))))).mono (by decide)) (M.mono (by decide));exact(lF (wL rfl)).trans (lF (aD (ak (ak rfl rfl yV) (ak (ak (ak (qA rfl rfl) rfl rfl) rfl H) rfl rfl) vI) rfl))
  have e4:ai (aB DO (ac (ab (.int 1)) (ac (ae (ae (ae (aa 5) (ab (.int 0)) aO) (aa 4) cO) (ab (.int 2)) ba) aj))) (am 6) (gh y Z U L (some (.int far)) (some (.tup [.int (far+Int.fdiv (-y) 16),.int (Int.fmod (-y) 16*U+L)])) none)=some (.next,gh y Z U L (some (.int far)) (some (.tup [.int (far+Int.fdiv (-y) 16),.int (Int.fmod (-y) 16*U+L)])) (some (.int s))):=by
   have t:DO [.int 1,.int (far+Int.fdiv (-y) 16-far+2)] (gh y Z U L (some (.int far)) (some (.tup [.int (far+Int.fdiv (-y) 16),.int (Int.fmod (-y) 16*U+L)])) none)=some (.int s,gh y Z U L (some (.int far)) (some (.tup [.int (far+Int.fdiv (-y) 16),.int (Int.fmod (-y) 16*U+L)])) none):=by
    rw [show far+Int.fdiv (-y) 16-far+2=Int.fdiv (-y) 16+2 by exact ce (Tq 0x20a42810829020280204c12020 rfl) (Tq 0x20a42802028130420a40812020 rfl),<-G];rfl
   exact ax (bN (aw (g:=ac (ae (ae (ae (aa 5) (ab (.int 0)) aO) (aa 4) cO) (ab (.int 2)) ba) aj) rfl (aw (g:=aj) (ak (ak (ak rfl rfl wv) rfl rfl) rfl rfl) rfl)) t) rfl
  have e5:aq (ae (aa 6) (ab (.int 9)) EU) (gh y Z U L (some (.int far)) (some (.tup [.int (far+Int.fdiv (-y) 16),.int (Int.fmod (-y) 16*U+L)])) (some (.int s)))=some (false,gh y Z U L (some (.int far)) (some (.tup [.int (far+Int.fdiv (-y) 16),.int (Int.fmod (-y) 16*U+L)])) (some (.int s))):=by
   rw [show false=decide ((9:Int)<s)from(fh (by exact(fun u0=>gW 0x1090a5214852042022 rfl E u0))).symm];exact aD (ak rfl rfl rfl) rfl
  generalize (PV.tup [.int (far+Int.fdiv (-y) 16),.int (Int.fmod (-y) 16*U+L)])=told at *
  have A:em 16 s:=em.lit (by exact(hH 0x20000500021020004a8232112042022 rfl Y.1 (fF (gW 0x1000a501020214a021 rfl Y.2))));have i:em 16 (y+16*s):=em.lit (rN V (by decide));have e:em 16 ((2:Int)^k):=by rw [S];exact em.lit (by exact(bb 0x2000050802100121025414008000022 rfl Q (fF (aH 0x9005280800008421 rfl W))))
  have e6:ai (bc (Iu P) (ac (ae (aa 1) (ae (ae (ae (aa 0) (ae (ab (.int 16)) (aa 6) cz) ba) (aa 2) cz) (aa 3) ba) cz) (ac (ae (ae (aa 1) (ae (ab (.int 2)) (ae (aa 6) (ab (.int 1)) cO) xK) cz) (aa 2) cz) aj))) (am 5) (gh y Z U L (some (.int far)) (some told) (some (.int s)))=some (.next,gh y Z U L (some (.int far)) (some (.tup [.int (Int.fdiv (y+16*s) (2^k)),.int (Z*L)])) (some (.int s))):=by
   have H:∀X:AS,cz (.int 16) (.int s) X=some (.int (16*s),X):=fun X=>nV ((em.lit (by decide)).mono (by decide)) (A.mono (by decide))
   have x:∀X:AS,cz (.int (y+16*s)) (.int (U:Int)) X=some (.int ((y+16*s)*U),X):=fun X=>nV (i.mono (by decide)) (M.mono (by decide))
   have z:∀X:AS,cz (.int Z) (.int ((y+16*s)*U+L)) X=some (.int (Z*((y+16*s)*U+L)),X):=fun X=>nV (O.mono (by decide)) (((i.mul M).add (c.mono (by decide))).mono (by decide))
   have m4:∀X:AS,xK (.int 2) (.int (s-1)) X=some (.int (2^k),X):=fun X=>by
    refine dv (k:=Hc) ?_
    unfold Hc;rw [aC ⟨by exact gW 0x429021800a501020214a021 rfl Y.2,by exact gW 0x7a12015210a408620232112042021 rfl Y.1,by decide⟩,o,fp]
   have m5:∀X:AS,cz (.int Z) (.int (2^k)) X=some (.int (Z*2^k),X):=fun X=>nV (O.mono (by decide)) (e.mono (by decide))
   have m6:∀X:AS,cz (.int (Z*2^k)) (.int (U:Int)) X=some (.int (Z*2^k*U),X):=fun X=>nV ((O.mul e).mono (by decide)) (M.mono (by decide))
   exact ax (bp (ps:=[.int (Z*((y+16*s)*U+L)),.int (Z*2^k*U)]) (aw (g:=ac (ae (ae (aa 1) (ae (ab (.int 2)) (ae (aa 6) (ab (.int 1)) cO) xK) cz) (aa 2) cz) aj) (ak rfl (ak (ak (ak rfl (ak rfl rfl (H _)) rfl) rfl (x _)) rfl rfl) (z _)) (aw (g:=aj) (ak (ak rfl (ak rfl (ak rfl rfl rfl) (m4 _)) (m5 _)) rfl (m6 _)) rfl)) rfl rfl d2) rfl
  have e7:iy (aq (ae (aB sz (ac (aa 5) aj)) (ab (.val (.type "tuple"))) cK)) (iy (aq (ae (ae (aa 5) (ab (.int 1)) aO) (ae (aa 1) (aa 3) cz) mJ)) ir) (gh y Z U L (some (.int far)) (some (.tup [.int (Int.fdiv (y+16*s) (2^k)),.int (Z*L)])) (some (.int s)))=some (false,gh y Z U L (some (.int far)) (some (.tup [.int (Int.fdiv (y+16*s) (2^k)),.int (Z*L)])) (some (.int s))):=
   (lF (wL rfl)).trans (lF (aD (ak (ak rfl rfl yV) (ak rfl rfl (nV (O.mono (by decide)) (c.mono (by decide)))) vI) rfl))
  have u:(Int.fdiv (y+16*s) (2^k)).natAbs<=2000+1:=mh (by rw [S];exact Fr W) V;have e8:bF (ae (aa 1) (ae (aa 5) (ab (.int 0)) aO) cz) (gh y Z U L (some (.int far)) (some (.tup [.int (Int.fdiv (y+16*s) (2^k)),.int (Z*L)])) (some (.int s)))=some (.ret (.int (Z*Int.fdiv (y+16*s) (2^k))),gh y Z U L (some (.int far)) (some (.tup [.int (Int.fdiv (y+16*s) (2^k)),.int (Z*L)])) (some (.int s))):=
   cT (ak rfl (ak rfl rfl wv) (nV (O.mono (by decide)) ((em.lit (by exact(aH 0x8000140008401f44a000021 rfl u))).mono (by decide))))
  unfold ET;rw [cc (σ:=gh y Z U L none none none) rfl (Mt _ _ _ _)];unfold DE;exact(bv (ie ([]:List AO).length) ((ad e1).trans ((ad e2).trans ((ad (bq e3)).trans ((ad e4).trans ((ad (bq e5)).trans ((ad e6).trans ((ad (bq e7)).trans (aG e8))))))))).trans rfl
 .exact aW N
noncomputable def wk(k:Nat):List Nat:=if k<10 then [48+k]else if k<100 then [48+k/10,48+k%10]else [48+k/100,48+k/10%10,48+k%10]
noncomputable def bV(k:Nat):List Nat:=[48,95,95]++wk k++[32]
structure yC(k:Nat):Prop where
 ns:stripSame Unicode.isSpace false true (al (bV k))=false
 rp:Txt.replace (Txt.rstrip (al (bV k))) (Str.ofString "_") (Str.ofString "")=al (48::wk k)
 rl:(Txt.rstrip (al (bV k))).length<=2^20
 it:PySem.intText? (al (48::wk k))=some (k:Int)
 ts:Str.ofString (toString ((k:Nat):Int))=al (wk k)
 gd:io (al (bV k))=true
noncomputable def GQ(k:Nat):Bool:=(!stripSame Unicode.isSpace false true (al (bV k)))&&decide (Txt.replace (Txt.rstrip (al (bV k))) "_" ""=al (48::wk k))&&decide ((Txt.rstrip (al (bV k))).length<=2^20)&&decide (PySem.intText? (al (48::wk k))=some (k:Int))&&decide (Str.ofString (toString ((k:Nat):Int))=al (wk k))&&io (al (bV k))
theorem yC.of{k:Nat}(h:GQ k=true):yC k:=by
 unfold GQ at h
 simp only [cR,mW,gJ]at h
 obtain⟨⟨⟨⟨⟨U,V⟩,W⟩,X⟩,Y⟩,Z⟩:=h;exact⟨U,V,W,X,Y,Z⟩
noncomputable def dL:List Nat:=[48,64,72,80,84,88,92,96,98,100,102,104,106,108,110,112,113,114,115,116,117,118,119,120,121,122,123,124,125,126,127,129,130,131,132,133,134,135,136,137,138,139,140,141,142,143,144,146,148,150,152,154,156,158,160,164,168,172,176,184,192,208]
theorem QP:dL.all GQ=true:=by decide +kernel
theorem qX{k:Nat}(h:k∈dL):yC k:=yC.of (dl.mp QP k h)
theorem uH(k:Nat):(wk k).length=1\/(wk k).length=2\/(wk k).length=3:=by
 unfold wk;split
 .exact .inl rfl
 .split
  .exact .inr (.inl rfl)
  .exact .inr (.inr rfl)
noncomputable def Od:bO:=cB RY Mq Mn (fun _=>[.bool false]) [] (fun n=>Qz 100 n)
theorem LC:Od [.int 2,.int 5,.int 2048] []=some (.loc 0,[],[.dict []]):=by left
theorem NL:Od [.int 3,.int 5,.int 2048] []=some (.loc 0,[],[.dict []]):=by left
theorem MO:Od [.int 4,.int 5,.int 2048] []=some (.loc 0,[],[.dict []]):=by left
noncomputable def UP(P:Params):bO:=cB LW Bo zE (fun _=>[]) [] (fun n=>IQ P 10 Od 100 n)
noncomputable def RI(P:Params):bO:=cB MD JT Gg (fun _=>[]) [] (fun n=>KS (UP P) 100 n)
theorem Qv(a:PV):dw LW Bo zE ([a]++[]) ([]++[])=⟨[],[(0,.cell (some a)),(1,.cell none),(2,.cell none),(3,.cell none)],4⟩:=by left
theorem Pz(a:PV):dw MD JT Gg ([a]++[]) ([]++[])=⟨[some a],[],0⟩:=by left
theorem LB(a b:PV):CP.map (fun x=>(qJ.zip [a,b]).lookup x)=[some a,some b,none]:=by left
theorem Lp:qJ.length=2:=by left
theorem TX(P:Params){l:List Nat}{k:Int}(Q:l.length=2\/l.length=3\/l.length=4)(D:PySem.intText? (al l)=some k):UP P [.str (al l)] []=some (.int k,[],[]):=by
 unfold UP;rw (occs:=.all) [cc (σ:=⟨[],[(0,.cell (some (.str (al l)))),(1,.cell none),(2,.cell none),(3,.cell none)],4⟩) rfl (Qv _)];have Z:l.length<=4:=by exact Q.elim (fun V=>aH 0x4080000882000821 rfl V) (fun V=>V.elim (fun W=>aH 0x40800008c2000821 rfl W) (fun W=>aH 0x4080000902000821 rfl W))
 have U:Od [.int (l.length:Int),.int 5,.int 2048] []=some (.loc 0,[],[.dict []]):=by
  rcases Q with h|h|h<;>rw (occs:=.all) [h]
  .exact LC
  .exact NL
  .exact MO
 show ie ([]:List AO).length (IQ P 10 Od 100 0 _)=_;unfold IQ;have y:ai (ab (.int 2048)) (gi (0+1)) ⟨[],[(0,.cell (some (.str (al l)))),(1,.cell none),(2,.cell none),(3,.cell none)],4⟩=some (.next,⟨[],av [(0,.cell (some (.str (al l)))),(1,.cell none),(2,.cell none),(3,.cell none)] 1 (.cell (some (.int 2048))),4⟩):=ax rfl (kH (o:=none) rfl);have E:(av [(0,AO.cell (some (.str (al l)))),(1,.cell none),(2,.cell none),(3,.cell none)] 1 (.cell (some (.int 2048)))).lookup 0=some (.cell (some (.str (al l)))):=by rw (occs:=.all) [az (by decide)];rfl
 have F:(av [(0,AO.cell (some (.str (al l)))),(1,.cell none),(2,.cell none),(3,.cell none)] 1 (.cell (some (.int 2048)))).lookup 1=some (.cell (some (.int 2048))):=aM;have G:(av [(0,AO.cell (some (.str (al l)))),(1,.cell none),(2,.cell none),(3,.cell none)] 1 (.cell (some (.int 2048)))).lookup 2=some (.cell none):=by rw (occs:=.all) [az (by decide)];rfl
 have H:(av [(0,AO.cell (some (.str (al l)))),(1,.cell none),(2,.cell none),(3,.cell none)] 1 (.cell (some (.int 2048)))).lookup 3=some (.cell none):=by rw (occs:=.all) [az (by decide)];rfl
 generalize av [(0,AO.cell (some (.str (al l)))),(1,.cell none),(2,.cell none),(3,.cell none)] 1 (.cell (some (.int 2048)))=st1 at *
 have z:sV (0+2) (eO P 0) ⟨[],st1,4⟩=some (.next,⟨[],av st1 2 (.cell (some (eO P 0))),4⟩):=Ag (σ:=⟨[],st1,4⟩) G;have R:(av st1 2 (.cell (some (eO P 0)))).lookup 0=some (.cell (some (.str (al l)))):=by rw (occs:=.all) [az (by decide)];exact E
 have S:(av st1 2 (.cell (some (eO P 0)))).lookup 1=some (.cell (some (.int 2048))):=by rw (occs:=.all) [az (by decide)];exact F
 have I:(av st1 2 (.cell (some (eO P 0)))).lookup 2=some (.cell (some (eO P 0))):=aM;have M:(av st1 2 (.cell (some (eO P 0)))).lookup 3=some (.cell none):=by rw (occs:=.all) [az (by decide)];exact H
 generalize av st1 2 (.cell (some (eO P 0)))=st2 at *
 have Y:∀st:List (Nat×AO),st.lookup 0=some (.cell (some (.str (al l))))->∀X,aB cX (ac (bi 0) aj) ⟨[],st,X⟩=some (.int (l.length:Int),⟨[],st,X⟩):=fun st h X=>
  bN (aw (g:=aj) (cp (σ:=⟨[],st,X⟩) h) rfl) (qP (by exact(aH 0x3e8200000902000021 rfl Z)))
 have A:ai (bc Od (ac (aB cX (ac (bi 0) aj)) (ac (ab (.int 5)) (ac (bi (0+1)) aj)))) (gi (0+3)) ⟨[],st2,4⟩=some (.next,⟨[],av ((4,.dict [])::st2) 3 (.cell (some (.loc 4))),5⟩):=by
  refine ax (dO (ids:=[]) (os:=[]) (ps:=[.int (l.length:Int),.int 5,.int 2048]) (σ₁:=⟨[],st2,4⟩) (aw (g:=ac (ab (.int 5)) (ac (bi (0+1)) aj)) (Y st2 R 4) (aw (g:=ac (bi (0+1)) aj) rfl (aw (g:=aj) (cp (σ:=⟨[],st2,4⟩) S) rfl))) rfl rfl (fun _ h=>by cases h) rfl U rfl rfl (fun u h=>by rw (occs:=.all) [cJ.mp h];rfl)) ?_
  exact kH (o:=none) (by show((4,AO.dict [])::st2).lookup 3=_;rw (occs:=.all) [bg (by decide)];exact M)
 have T:(av ((4,AO.dict [])::st2) 3 (.cell (some (.loc 4)))).lookup 0=some (.cell (some (.str (al l)))):=by rw (occs:=.all) [az (by decide),bg (by decide)];exact R
 have N:(av ((4,AO.dict [])::st2) 3 (.cell (some (.loc 4)))).lookup 1=some (.cell (some (.int 2048))):=by rw (occs:=.all) [az (by decide),bg (by decide)];exact S
 have O:(av ((4,AO.dict [])::st2) 3 (.cell (some (.loc 4)))).lookup 2=some (.cell (some (eO P 0))):=by rw (occs:=.all) [az (by decide),bg (by decide)];exact I
 generalize av ((4,AO.dict [])::st2) 3 (.cell (some (.loc 4)))=st3 at *
 have C:jv P 100 0 10 [.int 0,.int (l.length:Int)] st3 5=some (.int k,st3,5):=by
  rw (occs:=.all) [show jv P 100 0 10=fP qJ CP (Cw P (jv P 100 0 9) 100 0)from rfl];unfold Cw;refine jG (σ':=⟨[cI 0,cI (l.length:Int),none],st3,5⟩) (by rw (occs:=.all) [Lp];rfl) (LB _ _) ?_
  have v:aq (ae (ae (aa 1) (aa 0) cO) (bi (0+1)) PL) ⟨[cI 0,cI (l.length:Int),none],st3,5⟩=some (true,⟨[cI 0,cI (l.length:Int),none],st3,5⟩):=by
   rw (occs:=.all) [show true=decide ((l.length:Int)-0<=2048)from(dq (by exact(aH 0x2000a900520025880902000021 rfl Z))).symm];exact aD (ak (ak rfl rfl rfl) (cp (σ:=⟨_,st3,5⟩) N) rfl) rfl
  have w:bI (bi 0) (bU (aa 0)) (bU (aa 1)) ⟨[cI 0,cI (l.length:Int),none],st3,5⟩=some (.str (al l),⟨[cI 0,cI (l.length:Int),none],st3,5⟩):=by
   refine eX (cp (σ:=⟨_,st3,5⟩) T) rfl rfl ?_
   rw (occs:=.all) [kS (by exact(aH 0x3e8200000902000021 rfl Z))];have:=xg l (jy l.length) (bZ _);show some (PV.str (Txt.slice (al l) (some ((0:Nat):Int)) (some (l.length:Int))),_)=_;rw (occs:=.all) [this];simp
  have x:Rz [.str (al l)] ⟨[cI 0,cI (l.length:Int),none],st3,5⟩=some (.int k,⟨[cI 0,cI (l.length:Int),none],st3,5⟩):=by
   show(PySem.intText? _).bind _=_;rw (occs:=.all) [D];show(if _ then _ else _)=_;rw (occs:=.all) [bS,aC (by exact(aH 0x280200000902000021 rfl Z))]
  exact aG ((bQ v).trans (aG (cT (bN (aw (g:=aj) w rfl) x))))
 have B:bF (mj (eO P 0) (jv P 100 0 10) (bi (0+2)) (ac (ab (.int 0)) (ac (aB cX (ac (bi 0) aj)) aj))) ⟨[],st3,5⟩=some (.ret (.int k),⟨[],st3,5⟩):=
  cT (mr (cp (σ:=⟨[],st3,5⟩) O) (aw (g:=ac (aB cX (ac (bi 0) aj)) aj) rfl (aw (g:=aj) (Y st3 T 5) rfl)) C)
 exact(bv (ie ([]:List AO).length) ((ad y).trans ((ad z).trans ((ad A).trans (aG B))))).trans rfl
theorem SU(P:Params){k:Nat}(h:yC k):RI P [.str (al (bV k))] []=some (.int (k:Int),[],[]):=by
 unfold RI;rw [cc (σ:=⟨[cS (al (bV k))],[],0⟩) rfl (Pz _)];unfold KS;have V:ai (jM (aa 0) (Str.ofString "_") (Str.ofString "")) (am 0) ⟨[cS (al (bV k))],[],0⟩=some (.next,⟨[cS (al (48::wk k))],[],0⟩):=by
  have:jM (aa 0) (Str.ofString "_") (Str.ofString "") ⟨[cS (al (bV k))],[],0⟩=some (.str (al (48::wk k)),⟨[cS (al (bV k))],[],0⟩):=by
   show(if stripSame Unicode.isSpace false true (al (bV k))=false/\(al (bV k)).length<=2^20/\(Txt.rstrip (al (bV k))).length<=2^20/\(Str.ofString "").length<=14/\(Str.ofString "_"==Str.ofString "")=false then some (PV.str (Txt.replace (Txt.rstrip (al (bV k))) (Str.ofString "_") (Str.ofString "")),(⟨[cS (al (bV k))],[],0⟩:AS))else none)=_;have X:=uH k;rw [aC ⟨h.ns,by rw [bS];unfold bV;simp;exact X.elim (fun Y=>aH 0xffffc280000842000821 rfl Y) (fun Y=>Y.elim (fun Z=>aH 0xffffc280000882000821 rfl Z) (fun Z=>aH 0xffffc2800008c2000821 rfl Z)),h.rl,by decide,by decide⟩,h.rp]
  exact ax this rfl
 have X:=uH k;have W:=TX P (l:=48::wk k) (by rw [cm];exact X.imp (bv (·+1)) (Or.imp (bv (·+1)) (bv (·+1)))) h.it;exact(bv (ie ([]:List AO).length) ((ad V).trans (aG (cT (bp (ps:=[.str (al (48::wk k))]) rfl rfl rfl W))))).trans rfl
theorem hZ{C:bO}{Z:AS}{X:List PV}{ids:List Nat}{os os':List AO}{p:PV}{ns:List AO}(M:jm (bY X)=ids)(Y:ids.map (fun i=>Z.st.lookup i)=os.map some)(N:∀U∈os,eK U=[])
  (F:(dQ.nodupB ids&&jQ ids (bY X)&&ids.all (fun i=>decide (i<Z.nx)))=true) (E:C (fe (fun i=>ids.idxOf i) X) os=some (p,os',ns)) (Q:os'.length=os.length) (P:∀U∈os',eK U=[]) (S:dQ.simpleAll os'=true) (T:dQ.simpleAll ns=true) (H:∀U∈ns,eK U=[]):
  dQ C (fZ Z.st 2 (bY X)) X Z=some (iF (nW ids Z.nx) p,{Z with st:=iW (iu Z.st ids os') Z.nx ns,nx:=Z.nx+ns.length}):=by
 have R:=on (full:=ids) Y N;have I:fZ Z.st 2 (bY X)=ids:=by
  rw [qM,M];rw [M];intro i G;obtain⟨j,O,rfl⟩:=Ic G;have V:j<os.length:=by
   have:=bv List.length Y;rw [cW,cW]at this
   exact ci 0x80000422004020840000422 rfl O this
  refine⟨os[j],?_,N _ (pB V)⟩;have:=bv (fun l=>l[j]?) Y;simp only [jS,fC O,fC V,Gp]at this
  exact aZ this
 have W:os.length=ids.length:=by
  have:=bv List.length Y;rw [cW,cW]at this
  exact bB (JO this) (bb 0x1000000840000821 rfl this)
 rw [I];unfold dQ;rw [R];dsimp only;rw [aC F,E];dsimp only;rw [aC ⟨Q.trans W,S,T⟩,la P,la H]
theorem rL{C:Addr}{U:bO}{f:ER}{V:LR}{W Y Z:AS}{p:PV}{X:List PV}{r:Option (PV×AS)}(Q:f W=some (p,Y))(R:tN C p=true)(S:V Y=some (X,Z))(T:dQ U (fZ Z.st 2 (bY (p::X))) (p::X) Z=r):dI C U f V W=r:=by
 unfold dI;rw [Q];dsimp only;rw [aC R,S];exact T
theorem tQ{C:Addr}{R:bO}{f:ER}{T:LR}{S:ER}{U X Y Z:AS}{p q:PV}{W:List PV}{r:Option (PV×AS)}(N:f U=some (p,X))(O:tN C p=true)(P:T X=some (W,Y))(V:S Y=some (q,Z))(Q:dQ R (fZ Z.st 2 (bY (p::(W++[q])))) (p::(W++[q])) Z=r):eJ C R f T S U=r:=by
 unfold eJ;rw [N];dsimp only;rw [aC O,P];dsimp only;rw [V];exact Q
noncomputable def dx(r:Nat×Nat):PV:=.tup [.str (al [r.1]),.str (al (bV r.2))]
noncomputable def ay(Z:List (Nat×Nat)):List PV:=Z.map dx
theorem cA:∀Z:List (Nat×Nat),eK (.list (ay Z))=[]
 |[]=>rfl
 |r::Z=>cA Z
theorem ln(Z:List (Nat×Nat)):(ay Z).length=Z.length:=by exact cW _
noncomputable def sZ:List Nat:=[65,66,67,68,69,90,97,98,99,100,101,122]
noncomputable def da(c:Nat):Nat:=cond (Nat.ble c 90) (c+32) c
theorem Ny:sZ.all (fun c=>decide (Txt.lower (al [c])=al [da c])&&io (al [c])&&io (al [da c])&&!Aw (al [da c]))=true:=by decide +kernel
theorem Aq{c:Nat}(h:c∈sZ):Txt.lower (al [c])=al [da c]/\io (al [c])=true/\io (al [da c])=true/\Aw (al [da c])=false:=by
 have:=dl.mp Ny c h;simp only [cR,mW,gJ]at this
 exact⟨this.1.1.1,this.1.1.2,this.1.2,this.2⟩
noncomputable def pR:bO:=cB CO yL yf (fun _=>[]) [] (fun n=>CK 100 n)
theorem La(a b c:PV)(o:AO):dw CO yL yf ([a,b,c]++[]) ([o]++[])=⟨[some a,some b,some c,none],[(0,o)],1⟩:=by left
theorem Em:Ls (.val (.type "str")) (.val (.type "str"))=some true:=by
 show(if plainIs (.type "str") (.type "str")=true then some ((Value.type "str")==(Value.type "str"))else none)=some true;rw [aC (by decide)];decide
theorem IO{x:Str}{b:Bool}{o:AO}(Z:io x=true)(Y:eK o=[]):pR [.hdr 274 0,.str x,.bool b] [o]=some (.str x,[o],[]):=by
 unfold pR;rw [cc (σ:=⟨[some (.hdr 274 0),cS x,some (.bool b),none],[(0,o)],1⟩) rfl (La _ _ _ _)];unfold CK;have U:aq (ae (aB sz (ac (aa 1) aj)) (ab (.val (.type "str"))) LD) ⟨[some (.hdr 274 0),cS x,some (.bool b),none],[(0,o)],1⟩=some (true,⟨[some (.hdr 274 0),cS x,some (.bool b),none],[(0,o)],1⟩):=by
  refine aD (p:=.bool true) (ak (bN (ps:=[.str x]) rfl rfl) rfl ?_) rfl;show(Ls (.val (.type "str")) (.val (.type "str"))).bind _=_;rw [Em];rfl
 have fin:ie ([o]:List AO).length (some (.ret (.str x),⟨[some (.hdr 274 0),cS x,some (.bool b),some (.val (.ref (if b then 140 else 145)))],[(0,o)],1⟩))=some (.str x,[o],[]):=
  dn (ids:=[0]) rfl (bM (cx) Y rfl) rfl
 have V:ai (lD (aq (aa 2)) (ab (.val (.ref 140))) (ab (.val (.ref 145)))) (am 3) ⟨[some (.hdr 274 0),cS x,some (.bool b),none],[(0,o)],1⟩=some (.next,⟨[some (.hdr 274 0),cS x,some (.bool b),some (.val (.ref (if b then 140 else 145)))],[(0,o)],1⟩):=by
  cases b
  .exact ax ((kP rfl).trans rfl) rfl
  .exact ax ((lZ rfl).trans rfl) rfl
 have US:∀a:Addr,([140,145]:List Addr).contains a=true->RL [140,145] (aa 3) (ac (aa 1) aj) ⟨[some (.hdr 274 0),cS x,some (.bool b),some (.val (.ref a))],[(0,o)],1⟩=some (.none,⟨[some (.hdr 274 0),cS x,some (.bool b),some (.val (.ref a))],[(0,o)],1⟩):=fun a X=>by
  show(if([140,145]:List Addr).contains a=true then(if io x=true then some (PV.none,_)else none)else none)=_;rw [aC X,aC Z]
 have W:aq (RL [140,145] (aa 3) (ac (aa 1) aj)) ⟨[some (.hdr 274 0),cS x,some (.bool b),some (.val (.ref (if b then 140 else 145)))],[(0,o)],1⟩=some (false,⟨[some (.hdr 274 0),cS x,some (.bool b),some (.val (.ref (if b then 140 else 145)))],[(0,o)],1⟩):=
  aD (p:=.none) (US _ (by cases b<;>rfl)) rfl
 exact(bv (ie ([o]:List AO).length) (aG ((bQ U).trans ((ad V).trans ((ad (bq W)).trans (aG rfl)))))).trans fin
noncomputable def vj:bO:=cB CI yb yz (fun _=>[]) [] (fun n=>wy pR 100 n)
noncomputable def sI:bO:=cB CN wx zj (fun _=>[]) [] (fun n=>Du 100 n)
noncomputable def AH:bO:=cB Ds xm xn (fun n=>[.loc n]) [.dict []] (fun n=>xp pR 100 n)
theorem MR(a b:PV)(o:AO):dw CI yb yz ([a,b]++[]) ([o]++[])=⟨[some a],[(0,o),(1,.cell (some b))],2⟩:=by left
theorem KK(a:PV)(o:AO):dw CN wx zj ([a]++[]) ([o]++[])=⟨[some a],[(0,o)],1⟩:=by left
theorem Mx(a b c:PV)(o:AO):dw Ds xm xn ([a,b,c]++[.loc 1]) ([o]++[.dict []])=⟨[some a,some b,some c,cL 1,none,none,none],[(0,o),(1,.dict [])],2⟩:=by left
noncomputable def bP(c:Nat):List (Nat×Nat)->List Nat
 |[]=>[]
 |r::Z=>cond (Nat.beq (da r.1) (da c)) (r.2::bP c Z) (bP c Z)
theorem vL(c):bP c []=([]):=rfl
theorem um(c r rs):bP c (r::rs)=(cond (Nat.beq (da r.1) (da c)) (r.2::bP c rs) (bP c rs)):=rfl
noncomputable def cf(Z:List Nat):List PV:=aE (Z.map bV)
theorem EJ(Z:List Nat)(k:Nat):cf Z++[.str (al (bV k))]=cf (Z++[k]):=by simp [cf,aE]
theorem qv(Z:List Nat):(cf Z).length=Z.length:=by simp [cf,aE]
theorem Dy(Z:List Nat):eK (.list (cf Z))=[]:=by unfold cf aE;exact Ky _
theorem Hj{c:Nat}{Z:AS}(h:c∈sZ):mD [.str (al [c])] Z=some (.str (al [da c]),Z):=by
 obtain⟨X,_,_,Y⟩:=Aq h;show(if _ then _ else _)=_;rw [X,aC Y]
noncomputable abbrev jJ:BR:=(aq (ae (aK "str" (ae (aa 0) (ab (.int 0)) aO) aj mD) (bi 1) jd))
theorem uN{R:List (Nat×Nat)}{c:Nat}{nx:Nat}(C:∀r∈R,r.1∈sZ)(B:R.length<=50):∀(Z:List (Nat×Nat)) (j n:Nat) (Y:List Nat) (st:List (Nat×AO)) (V:Option PV),(∀r∈Z,r.1∈sZ)->(ay R).drop j=ay Z->Z.length<n->Y.length+Z.length<=100->st.lookup 0=some (.list (ay R))->st.lookup 1=some (.cell (some (.str (al [da c]))))->st.lookup 2=some (.list (cf Y))->
  vS fun Q W=>mA (fU (am 0) jJ (ae (aa 0) (ab (.int 1)) aO) 2 n (.lst 0 j) ⟨[V],st,nx⟩=some ⟨[Q],W,nx⟩) (W.lookup 2=some (.list (cf (Y++bP c Z)))) (∀i,i≠2->W.lookup i=st.lookup i)
 |_,_,0,_,_,_,_,_,h,_,_,_,_=>absurd h (ix _)
 |[],j,n+1,Y,st,V,_,P,_,_,O,H,I=>by
  refine⟨V,st,?_,by simpa [vL,um]using I,fun i _=>rfl⟩;have D:(ay R)[j]?=none:=by
   have:=bv List.head? P
   rwa [lJ]at this
  show(match gZ ⟨[V],st,nx⟩ (.lst 0 j)with|some (some (p,z))=>_|some none=>_|none=>_)=_;rw [nJ (σ:=⟨[V],st,nx⟩) O D]
 |r::Z,j,n+1,Y,st,V,E,P,S,M,O,H,I=>by
  have D:(ay R)[j]?=some (dx r):=by
   have:=bv List.head? P
   rwa [lJ]at this
  simp only [cm]at S M
  have y:jJ ⟨[some (dx r)],st,nx⟩=some (oW [da r.1] [da c],⟨[some (dx r)],st,nx⟩):=by
   rw [<-jK];exact aD (ak (ca (p:=.str (al [r.1])) (ps:=[]) (σ₁:=⟨[some (dx r)],st,nx⟩) rfl rfl rfl (Hj (E r (.head _)))) (cp (σ:=⟨_,st,nx⟩) H) rfl) rfl
  have G:fU (am 0) jJ (ae (aa 0) (ab (.int 1)) aO) 2 (n+1) (.lst 0 j) ⟨[V],st,nx⟩=(match jJ ⟨[some (dx r)],st,nx⟩with
    |some (true,X)=>(match ae (aa 0) (ab (.int 1)) aO X with
     |some (q,T)=>(match aQ [.loc 2,q] T with
      |some (_,U)=>fU (am 0) jJ (ae (aa 0) (ab (.int 1)) aO) 2 n (.lst 0 (j+1)) U
      |none=>none)
     |none=>none)
    |some (false,X)=>fU (am 0) jJ (ae (aa 0) (ab (.int 1)) aO) 2 n (.lst 0 (j+1)) X
    |none=>none):=by
   show(match gZ ⟨[V],st,nx⟩ (.lst 0 j)with|some (some (p,z))=>_|some none=>_|none=>_)=_;rw [nK (σ:=⟨[V],st,nx⟩) O D];rfl
  rw [G,y];dsimp only [vL,um];cases A:Nat.beq (da r.1) (da c)with
  |true=>
   have:oW [da r.1] [da c]=true:=by dsimp only [zY,AC];rw [A];rfl
   rw [this];dsimp only;have N:ae (aa 0) (ab (.int 1)) aO ⟨[some (dx r)],st,nx⟩=some (.str (al (bV r.2)),⟨[some (dx r)],st,nx⟩):=rfl;rw [N];dsimp only;rw [eH (σ:=⟨[some (dx r)],st,nx⟩) I (by rw [qv];exact bb 0x80000180000464204210080010021 rfl M)];dsimp only;rw [EJ];obtain⟨Q,W,e,g2,go⟩:=uN C B Z (j+1) n (Y++[r.2]) (av st 2 (.list (cf (Y++[r.2])))) (some (dx r)) (fun x F=>E x (.tail _ F)) (dH P) (by exact(DV S)) (by rw [df];simp only [cm,fG];exact Mf M) (by rw [az (by decide)];exact O) (by rw [az (by decide)];exact H) aM;refine⟨Q,W,e,?_,fun i N=>by rw [go i N,az N]⟩;rw [g2,fm];simp
  |false=>
   have:oW [da r.1] [da c]=false:=by dsimp only [zY,AC];rw [A];rfl
   rw [this];dsimp only;obtain⟨Q,W,e,g2,go⟩:=uN C B Z (j+1) n Y st (some (dx r)) (fun x F=>E x (.tail _ F)) (dH P) (by exact(DV S)) (by exact(bb 0x190810000200464204210080010021 rfl M)) O H I;exact⟨Q,W,e,by rw [g2,eM],go⟩
theorem Ri{Z:List (Nat×Nat)}{c:Nat}(U:c∈sZ)(V:∀r∈Z,r.1∈sZ)(W:Z.length<=50):vj [.hdr 274 0,.str (al [c])] [.list (ay Z)]=some (.loc 1,[.list (ay Z)],[.list (cf (bP c Z))]):=by
 unfold vj;rw [cc (σ:=⟨[some (.hdr 274 0)],[(0,.list (ay Z)),(1,.cell (some (.str (al [c]))))],2⟩) rfl (MR _ _ _)];show ie ([AO.list (ay Z)]:List AO).length (wy pR 100 1 _)=_;unfold wy;have hcall:eJ 274 pR (aa 0) (ac (aK "str" (bi 1) aj mD) aj) (ab (.bool true)) ⟨[some (.hdr 274 0)],[(0,.list (ay Z)),(1,.cell (some (.str (al [c]))))],2⟩=some (.str (al [da c]),⟨[some (.hdr 274 0)],av [(0,.list (ay Z)),(1,.cell (some (.str (al [c]))))] 0 (.list (ay Z)),2⟩):=by
  refine tQ rfl rfl (aw (g:=aj) (ca (p:=.str (al [c])) (ps:=[]) (cp (σ:=⟨_,[(0,.list (ay Z)),(1,.cell (some (.str (al [c]))))],2⟩) rfl) rfl rfl (Hj U)) rfl) rfl ?_
  exact hZ (ids:=[0]) (os:=[.list (ay Z)]) (os':=[.list (ay Z)]) (p:=.str (al [da c])) (ns:=[]) rfl rfl (fun P h=>by rw [cJ.mp h];exact cA _) rfl (IO (Aq U).2.2.1 (cA Z)) rfl (fun P h=>by rw [cJ.mp h];exact cA _) rfl rfl (fun _ h=>by cases h)
 have Q:ai (eJ 274 pR (aa 0) (ac (aK "str" (bi 1) aj mD) aj) (ab (.bool true))) (gi 1) ⟨[some (.hdr 274 0)],[(0,.list (ay Z)),(1,.cell (some (.str (al [c]))))],2⟩=some (.next,⟨[some (.hdr 274 0)],av (av [(0,.list (ay Z)),(1,.cell (some (.str (al [c]))))] 0 (.list (ay Z))) 1 (.cell (some (.str (al [da c])))),2⟩):=
  ax hcall (kH (o:=some (.str (al [c]))) (by show(av _ _ _).lookup 1=_;rw [az (by decide)];rfl))
 have X:(av (av [(0,AO.list (ay Z)),(1,.cell (some (.str (al [c]))))] 0 (.list (ay Z))) 1 (.cell (some (.str (al [da c]))))).lookup 0=some (.list (ay Z)):=by rw [az (by decide),aM]
 have T:(av (av [(0,AO.list (ay Z)),(1,.cell (some (.str (al [c]))))] 0 (.list (ay Z))) 1 (.cell (some (.str (al [da c]))))).lookup 1=some (.cell (some (.str (al [da c])))):=aM;generalize av (av [(0,AO.list (ay Z)),(1,.cell (some (.str (al [c]))))] 0 (.list (ay Z))) 1 (.cell (some (.str (al [da c]))))=st at *
 obtain⟨O,Y,e,g2,go⟩:=uN (c:=c) (nx:=3) V W Z 0 100 [] ((2,.list [])::st) none V rfl (by exact(aH 0xc84000210c88000021 rfl W)) (by simp;exact aH 0xc84000010c88000021 rfl W) (by rw [bg (by decide)];exact X) (by rw [bg (by decide)];exact T) cx;rw [pp]at g2
 have R:bF (iw 100 1 (dj (cY (aa 0) (uI 274))) (am 0) jJ (ae (aa 0) (ab (.int 1)) aO)) ⟨[some (.hdr 274 0)],st,2⟩=some (.ret (.loc 2),⟨[some (.hdr 274 0)],Y,3⟩):=by
  refine cT ?_
  have S:dj (cY (aa 0) (uI 274)) ⟨[some (.hdr 274 0)],st,2⟩=some (.lst 0 0,⟨[some (.hdr 274 0)],st,2⟩):=by
   refine jq (p:=.loc 0) (qA rfl rfl) ?_
   show(dN (st.lookup 0)).bind _=_;rw [X];rfl
  unfold iw;rw [S];dsimp only;rw [show(List.replicate 1 (none:Option PV))=[none]from rfl,e]
 refine(bv (ie ([AO.list (ay Z)]:List AO).length) ((ad Q).trans (aG R))).trans ?_
 exact dn (ids:=[0,2]) rfl (bM (by rw [go 0 (by decide),bg (by decide)];exact X) (cA _) (bM g2 (Dy _) rfl)) rfl
theorem EP(Z:List PV):kF Z none none=Z:=by
 unfold kF sliceBounds;simp only [IP,show((1:Int)>0)=True from eq_true (by decide),ja];have X:=Gd 0 Z.length;have Y:=ze Z 0 Z.length (by exact(aH 0x110020 rfl));rw [vK,rV (bZ _)]at Y
 rw [show(0:Int)=((0:Nat):Int)from rfl,X];exact Y
theorem Qu{Z:List (Nat×Nat)}(Y:Z.length<=50):sI [.hdr 274 0] [.list (ay Z)]=some (.loc 1,[.list (ay Z)],[.list (ay Z)]):=by
 unfold sI;rw [cc (σ:=⟨[some (.hdr 274 0)],[(0,.list (ay Z))],1⟩) rfl (KK _ _)];unfold Du;have X:bF (bI (cY (aa 0) (uI 274)) cr cr) ⟨[some (.hdr 274 0)],[(0,.list (ay Z))],1⟩=some (.ret (.loc 1),⟨[some (.hdr 274 0)],[(1,.list (ay Z)),(0,.list (ay Z))],2⟩):=by
  refine cT (eX (qA rfl rfl) rfl rfl ?_);show(if(ay Z).length<=2^20 then some (PV.loc 1,(⟨[some (.hdr 274 0)],(1,.list (kF (ay Z) none none))::[(0,.list (ay Z))],2⟩:AS))else none)=_;rw [ln,aC (by exact(aH 0x2000006000010c88000021 rfl Y)),EP]
 refine(bv (ie ([AO.list (ay Z)]:List AO).length) (aG X)).trans ?_
 exact dn (ids:=[0,1]) rfl (bM rfl (cA _) (bM rfl (cA _) rfl)) rfl
theorem qY(Z:List (Nat×Nat))(r:Nat×Nat):ay Z++[dx r]=ay (Z++[r]):=by simp [ay]
theorem Jz{x y:Str}{i:Nat}{Z:AS}(h:Z.st.lookup i=some (.list [.str y]))(X:JoinOk x [y]=true)(Y:Txt.join x [y]=y):ia [.str x,.loc i] Z=some (.str y,Z):=by
 rw [wn,jE h];show(if JoinOk x [y]=true then some (PV.str (Txt.join x [y]),Z)else none)=_;rw [aC X,Y]
theorem tG{σ:AS}{i j:Nat}{rs:List (Nat×Nat)}{x:Str}{b:Bool}(U:fB σ.loc i=some (.hdr 274 0))(V:fB σ.loc j=some (.str x))(X:io x=true)(T:σ.st.lookup 0=some (.list (ay rs)))(W:0<σ.nx):
  eJ 274 pR (aa i) (ac (aa j) aj) (ab (.bool b)) σ=some (.str x,{σ with st:=av σ.st 0 (.list (ay rs))}):=by
 have Y:∀{k:Nat} {p:PV},fB σ.loc k=some p->aa k σ=some (p,σ):=fun h=>eS h
 refine tQ (Y U) rfl (aw (Y V) rfl) rfl ?_
 have Z:(dQ.nodupB [0]&&jQ [0] (bY [PV.hdr 274 0,.str x,.bool b])&&[0].all (fun i=>decide (i<σ.nx)))=true:=by
  have:([0].all fun i=>decide (i<σ.nx))=true:=by simp [W]
  rw [this];rfl
 exact hZ (ids:=[0]) (os:=[.list (ay rs)]) (os':=[.list (ay rs)]) (p:=.str x) (ns:=[]) rfl (by show [σ.st.lookup 0]=_;rw [T];rfl) (fun S h=>by rw [cJ.mp h];exact cA _) Z (IO X (cA rs)) rfl (fun S h=>by rw [cJ.mp h];exact cA _) rfl rfl (fun _ h=>by cases h)
theorem QD{Z:List (Nat×Nat)}{c k:Nat}(N:c∈sZ)(P:io (al (bV k))=true)(O:JoinOk (Str.ofString "; ") [al (bV k)]=true)(R:Txt.join (Str.ofString "; ") [al (bV k)]=al (bV k))(Q:Z.length<=50):
  AH [.hdr 274 0,.str (al [c]),.str (al (bV k))] [.list (ay Z)]=some (.none,[.list (ay (Z++[(c,k)]))],[]):=by
 unfold AH;rw [cc (σ:=⟨[some (.hdr 274 0),cS (al [c]),cS (al (bV k)),cL 1,none,none,none],[(0,.list (ay Z)),(1,.dict [])],2⟩) rfl (Mx _ _ _ _)];show ie ([AO.list (ay Z)]:List AO).length (xp pR 100 2 _)=_;unfold xp;have V:∃Y,(ap (ai (bD aj) (am 4))
 (ap (di (aq (ae (aa 2) (ab .none) cK)) (ap (ai (eJ 274 pR (aa 0) (ac (aa 2) aj) (ab (.bool false))) (am 2))
 (ap (bC (aK "list" (aa 4) (ac (aa 2) aj) aQ))
 ah)) ah)
 (ap (lz (aa 3))
 (ap (bC (aK "list" (cY (aa 0) (uI 274)) (ac (ey (ac (eJ 274 pR (aa 0) (ac (aa 1) aj) (ab (.bool true))) (ac (aK "str" (ab (.str "; ")) (ac (aa 4) aj) ia) aj))) aj) aQ))
 ah)))) ⟨[some (.hdr 274 0),cS (al [c]),cS (al (bV k)),cL 1,none,none,none],[(0,.list (ay Z)),(1,.dict [])],2⟩=some (.next,Y)/\Y.st.lookup 0=some (.list (ay (Z++[(c,k)]))):=by
  rw [ad (σ₁:=⟨[some (.hdr 274 0),cS (al [c]),cS (al (bV k)),cL 1,cL 2,none,none],[(2,.list []),(0,.list (ay Z)),(1,.dict [])],3⟩) rfl];have G:=tG (σ:=⟨[some (.hdr 274 0),cS (al [c]),cS (al (bV k)),cL 1,cL 2,none,none],[(2,.list []),(0,.list (ay Z)),(1,.dict [])],3⟩) (i:=0) (j:=2) (rs:=Z) (b:=false) rfl rfl P rfl (mK 2);have H:di (aq (ae (aa 2) (ab .none) cK)) (ap (ai (eJ 274 pR (aa 0) (ac (aa 2) aj) (ab (.bool false))) (am 2))
   (ap (bC (aK "list" (aa 4) (ac (aa 2) aj) aQ)) ah)) ah ⟨[some (.hdr 274 0),cS (al [c]),cS (al (bV k)),cL 1,cL 2,none,none],[(2,.list []),(0,.list (ay Z)),(1,.dict [])],3⟩
   = some (.next,⟨[some (.hdr 274 0),cS (al [c]),cS (al (bV k)),cL 1,cL 2,none,none],av (av [(2,.list []),(0,.list (ay Z)),(1,.dict [])] 0 (.list (ay Z))) 2 (.list ([]++[.str (al (bV k))])),3⟩):=by
   refine(bQ (aD (p:=.bool true) (ak rfl rfl rfl) rfl)).trans ((ad (ax G rfl)).trans ((ad (cb (ps₀:=[]) (ps:=[]) rfl ?_ rfl ?_ (by decide))).trans rfl))
   .show(av _ _ _).lookup 2=_;rw [az (by decide)];rfl
   .show(av _ _ _).lookup 2=_;rw [az (by decide)];rfl
  rw [ad H];have U:(av (av [(2,AO.list []),(0,.list (ay Z)),(1,.dict [])] 0 (.list (ay Z))) 2 (.list ([]++[.str (al (bV k))]))).lookup 0=some (.list (ay Z)):=by rw [az (by decide),aM]
  have S:(av (av [(2,AO.list []),(0,.list (ay Z)),(1,.dict [])] 0 (.list (ay Z))) 2 (.list ([]++[.str (al (bV k))]))).lookup 1=some (.dict []):=by rw [az (by decide),az (by decide)];rfl
  have T:(av (av [(2,AO.list []),(0,.list (ay Z)),(1,.dict [])] 0 (.list (ay Z))) 2 (.list ([]++[.str (al (bV k))]))).lookup 2=some (.list [.str (al (bV k))]):=aM;generalize av (av [(2,AO.list []),(0,.list (ay Z)),(1,.dict [])] 0 (.list (ay Z))) 2 (.list ([]++[.str (al (bV k))]))=st at *
  have I:lz (aa 3) ⟨[some (.hdr 274 0),cS (al [c]),cS (al (bV k)),cL 1,cL 2,none,none],st,3⟩=some (.next,⟨[some (.hdr 274 0),cS (al [c]),cS (al (bV k)),cL 1,cL 2,none,none],st,3⟩):=by
   show(match st.lookup 1 with|some (.dict [])=>some (AF.next,(⟨_,st,3⟩:AS))|_=>none)=_;rw [S]
  rw [ad I];have M:=tG (σ:=⟨[some (.hdr 274 0),cS (al [c]),cS (al (bV k)),cL 1,cL 2,none,none],st,3⟩) (i:=0) (j:=1) (rs:=Z) (b:=true) rfl rfl (Aq N).2.1 U (mK 2);have W:(av st 0 (.list (ay Z))).lookup 0=some (.list (ay Z)):=aM;have X:(av st 0 (.list (ay Z))).lookup 2=some (.list [.str (al (bV k))]):=by rw [az (by decide)];exact T
  refine⟨⟨[some (.hdr 274 0),cS (al [c]),cS (al (bV k)),cL 1,cL 2,none,none],av (av st 0 (.list (ay Z))) 0 (.list (ay Z++[dx (c,k)])),3⟩,(ad (fV (p:=.none) ?_)).trans rfl,by rw [qY];exact aM⟩;refine ca (p:=.loc 0) (qA rfl rfl) (gK U) (aw (fN (aw M (aw (g:=aj) (ca rfl jB rfl (Jz X O R)) rfl)) (show 2<=2^20 by decide)) rfl) ?_
  exact eH W (by rw [ln];exact aH 0x2000006000010c88000021 rfl Q)
 obtain⟨Y,e,g⟩:=V;refine(bv (ie ([AO.list (ay Z)]:List AO).length) e).trans ?_
 exact dn (ids:=[0]) rfl (bM g (cA _) rfl) rfl
noncomputable abbrev CW:SR:=(ap (qt (aa 1) (ae (aa 2) (ab (.int 7)) eu) (ae (aa 0) (aa 2) aO) jg)
 ah)
noncomputable def Ew:bO:=cB DA xt wK (fun _=>[]) [] (fun n=>CG 100 n)
theorem Nq(a:PV):dw DA xt wK ([a]++[]) ([]++[])=⟨[some a,none,none],[],0⟩:=by left
theorem Eo{fo R S:ER}{g:PV->PV->ER}{σ U V W X Y Z:AS}{o k T v new:PV}(I:fo σ=some (o,U))(M:R U=some (k,V))(N:aO o k V=some (T,W))(O:S W=some (v,X))(P:g T v X=some (new,Y))(Q:bt o k new Y=some Z):qt fo R S g σ=some (.next,Z):=by
 show fS fo _ σ=_;rw [aY I,aY M,aY N,aY O,aY P,Q];rfl
theorem QJ{Z:List Int}{k:Nat}{Y:AS}(h:k<Z.length)(X:Z.length<=1000):aO (.fl Z) (.int (k:Int)) Y=some (.int Z[k],Y):=by
 have V:(0:Int)<=(k:Int):=mS _;have W:(k:Int)<2^62:=by
  have:(1000:Int)<2^62:=by decide
  exact bb 0x8000000000000000748009487e8204000840000422 rfl h X
 rw [Ey,aC ⟨V,W⟩,fp,fC h];rfl
theorem CS{X:List Int}{nx:Nat}(E:X.length<=63):∀(n k:Nat) (Z:List Int) (st:List (Nat×AO)) (Q:Option PV),k+n=X.length->Z.length=7->st.lookup 0=some (.list (Z.map .int))->
  Vm fun(Y:List Int) (W:List (Nat×AO)) (V:Option PV)=>mA (dZ (am 2) CW ah (pN (k:Int) n) ⟨[some (.fl X),cL 0,Q],st,nx⟩=some (.next,⟨[some (.fl X),cL 0,V],W,nx⟩)) (Y.length=7) (W.lookup 0=some (.list (Y.map .int)))
 |0,k,Z,st,Q,_,U,O=>⟨Z,st,Q,rfl,U,O⟩
 |n+1,k,Z,st,Q,G,U,O=>by
  have H:k<X.length:=by exact ci 0x80000422004210080010821 rfl G
  have M:=kq (k:Int) (show(0:Int)<7 by decide);have F:=lH (k:Int) (show(0:Int)<7 by decide);obtain⟨m,P⟩:∃m:Nat,Int.fmod (k:Int) 7=m:=⟨(Int.fmod (k:Int) 7).toNat,by exact ce (sE (cG (pJ M))) (sM (cG (pJ M)))⟩;have I:m<Z.length:=by exact qf 0x10042102408544e14810909c2000a23 rfl U F P
  have B:Z[m]?=some Z[m]:=fC I
  have S:ae (aa 2) (ab (.int 7)) eu ⟨[some (.fl X),cL 0,cI (k:Int)],st,nx⟩=some (.int (m:Int),⟨[some (.fl X),cL 0,cI (k:Int)],st,nx⟩):=by
   rw [<-P];exact ak rfl rfl rfl
  have R:ae (aa 0) (aa 2) aO ⟨[some (.fl X),cL 0,cI (k:Int)],st,nx⟩=some (.int X[k],⟨[some (.fl X),cL 0,cI (k:Int)],st,nx⟩):=by
   exact ak rfl rfl (QJ H (by exact(aH 0x7d04000010fc8000021 rfl E)))
  have T:bt (.loc 0) (.int (m:Int)) (.int (Z[m]+X[k])) ⟨[some (.fl X),cL 0,cI (k:Int)],st,nx⟩=some ⟨[some (.fl X),cL 0,cI (k:Int)],av st 0 (.list ((Z.set m (Z[m]+X[k])).map .int)),nx⟩:=by
   show(match st.lookup 0 with
    |some (.list N)=>if 0<=(m:Int)/\(m:Int)<N.length/\N.length<=2^20 then some (⟨[some (.fl X),cL 0,cI (k:Int)],av st 0 (.list (N.set (m:Int).toNat (.int (Z[m]+X[k])))),nx⟩:AS)else none
    |_=>none)=_
   rw [O];dsimp only;rw [aC ⟨by exact hH 0x9005280800902141020014a022 rfl M P,by rw [cW];exact qf 0x24204a42102408544e14810909c2000a23 rfl U F P,by rw [cW];exact aH 0x1000003000009c2000821 rfl U⟩,fp,List.map_set]
  have e:=Eo (g:=jg) (fo:=aa 1) (σ:=⟨[some (.fl X),cL 0,cI (k:Int)],st,nx⟩) (o:=.loc 0) (new:=.int (Z[m]+X[k])) rfl S (gM (σ:=⟨[some (.fl X),cL 0,cI (k:Int)],st,nx⟩) O (fL B (by exact(MA U)))) R rfl T;obtain⟨Y,W,V,A,C,D⟩:=CS E n (k+1) (Z.set m (Z[m]+X[k])) (av st 0 (.list ((Z.set m (Z[m]+X[k])).map .int))) (some (.int (k:Int))) (by exact(bB (ci 0x2004010800210022004210080010821 rfl G) (ci 0x1004200084200022004210080010a21 rfl G))) (by rw [List.length_set];exact U) aM;refine⟨Y,W,V,?_,C,D⟩;refine(bj (σ₁:=⟨[some (.fl X),cL 0,cI (k:Int)],st,nx⟩) rfl ((ad e).trans rfl)).trans ?_
  rw [show((k:Int)+1)=((k+1:Nat):Int)by exact ce (aH 0x8400124214800912020 rfl) (aH 0x852002441080024a020 rfl)];exact A
theorem Rb{Z:List Int}(T:Z.length<=63):∃Y:List Int,Y.length=7/\Ew [.fl Z] []=some (.loc 0,[],[.list (Y.map .int)]):=by
 obtain⟨Y,W,V,e,R,Q⟩:=CS (nx:=1) T Z.length 0 [1,1,5,5,0,18940,9] [(0,.list (([1,1,5,5,0,18940,9]:List Int).map .int))] none (by exact(bB (aH 0x110020 rfl) (aH 0x44000020 rfl))) rfl rfl;refine⟨Y,R,?_⟩;unfold Ew;rw [cc (σ:=⟨[some (.fl Z),none,none],[],0⟩) rfl (Nq _)];unfold CG;rw [ad (σ₁:=⟨[some (.fl Z),cL 0,none],[(0,.list (([1,1,5,5,0,18940,9]:List Int).map .int))],1⟩) rfl];have U:aB cX (ac (aa 0) aj) ⟨[some (.fl Z),cL 0,none],[(0,.list (([1,1,5,5,0,18940,9]:List Int).map .int))],1⟩=some (.int (Z.length:Int),⟨[some (.fl Z),cL 0,none],[(0,.list (([1,1,5,5,0,18940,9]:List Int).map .int))],1⟩):=by
  refine bN (ps:=[.fl Z]) rfl ?_
  show(if Z.length<=2^30 then some (PV.int (Z.length:Nat),_)else none)=_;rw [aC (by exact(aH 0x800000006000010fc8000021 rfl T))]
 have X:dD 100 (dj (aB dm (ac (aB cX (ac (aa 0) aj)) aj))) (am 2) CW ah ⟨[some (.fl Z),cL 0,none],[(0,.list (([1,1,5,5,0,18940,9]:List Int).map .int))],1⟩=some (.next,⟨[some (.fl Z),cL 0,V],W,1⟩):=by
  have S:aB dm (ac (aB cX (ac (aa 0) aj)) aj) ⟨[some (.fl Z),cL 0,none],[(0,.list (([1,1,5,5,0,18940,9]:List Int).map .int))],1⟩=some (.rng 0 (Z.length:Int),⟨[some (.fl Z),cL 0,none],[(0,.list (([1,1,5,5,0,18940,9]:List Int).map .int))],1⟩):=bN (aw U rfl) rfl;refine(bW (k:=.rng 0 Z.length) (ps:=pN 0 Z.length) (jq S ?_) rfl (by rw [xz];exact aH 0xc84000210fc8000021 rfl T)).trans e;rw [mT ⟨by exact uZ 0xa7d0900a96a020 rfl,by exact uZ 0xf42402a4014a020 rfl,by exact aH 0x27d0900a96a020 rfl,by exact aH 0x7a1201520025010fc8000021 rfl T⟩,show((Z.length:Int)-0).toNat=Z.length by exact bB (bb 0x400000200a4204b0004a821 rfl (cG (aH 0xa4004b0014a020 rfl))) (bb 0x1000200a4204b0004aa21 rfl (cG (aH 0xa4004b0014a020 rfl)))]
 rw [ad X,aG (σ₁:=⟨[some (.fl Z),cL 0,V],W,1⟩) (p:=.loc 0) rfl];exact dn (ids:=[0]) rfl (bM Q (eW _) rfl) rfl
noncomputable def iK(x y:Nat):List Nat:=bn++[97+x]++bn++[97+y]++bn++[65+x]++bn
noncomputable def iU(w:List Nat)(x:Nat):List Nat->Nat->Option Nat
 |[],m=>some m
 |y::Z,m=>cond (Nat.beq y x) (iU w x Z m) (match nT (iK x y) w with|some r=>iU w x Z (cond r (m|||1*2^y) m)|none=>none)
theorem Ft(w x m):iU w x [] m=(some m):=rfl
theorem EO(w x y ys m):iU w x (y::ys) m=(cond (Nat.beq y x) (iU w x ys m) (match nT (iK x y) w with|some r=>iU w x ys (cond r (m|||1*2^y) m)|none=>none)):=rfl
noncomputable def iN(w:List Nat):List Nat->List Nat->Option (List Nat)
 |[],Z=>some Z
 |x::Y,Z=>match iU w x [0,1,2,3,4] (1*2^x)with|some m=>iN w Y (Z++[m])|none=>none
theorem AA(w acc):iN w [] acc=(some acc):=rfl
theorem Ba(w x xs acc):iN w (x::xs) acc=(match iU w x [0,1,2,3,4] (1*2^x)with|some m=>iN w xs (acc++[m])|none=>none):=rfl
noncomputable def fO(w:List Nat):List (List Nat):=[w.take 6++bn++w.drop 5,bn++w.drop 1++bn++[w.getD 9 0],bn++[97]++bn++[97]++bn,[98]++bn++[w.getD 9 0],w.take 9]
structure Gh(w:List Nat)(ms:List Nat):Prop where
 masks:iN w [0,1,2,3,4] []=some ms
 ref:∀t∈fO w,nT t w=some false
 self:nT w w=some true
 whole:vS fun m ms'=>ms=m::ms'/\nT ([97]++bn++[65]) w=some (Nat.beq m 31)
noncomputable abbrev vH:ER:=(ae (ae (ae (ae (ae (ae (ab (.str (al bn))) (ae (ab (.str (al [97,98,99,100,101]))) (aa 2) aO) ba) (ab (.str (al bn))) ba) (ae (ab (.str (al [97,98,99,100,101]))) (aa 4) aO) ba) (ab (.str (al bn))) ba) (ae (ab (.str (al [65,66,67,68,69]))) (aa 2) aO) ba) (ab (.str (al bn))) ba)
noncomputable abbrev Kd:SR:=(ap (di (aq (ae (aa 4) (aa 2) mJ)) (ap (ai vH (am 5))
 (ap (ai (bc sX (ac (aa 5) (ac (aa 0) aj))) (am 6))
 (ap (di (aq (ae (aa 6) (ab (.bool true)) LD)) (ap (fA (aa 3) (ae (ab (.int 1)) (aa 4) eI) KA (am 3))
 ah) (ap (di (aq (ae (aa 6) (ab (.bool false)) cK)) (ap (bF (bD aj))
 ah) ah)
 ah))
 ah))) ah)
 ah)
noncomputable abbrev ji(w:List Nat)(U:Option PV)(x m:Nat)(V W X Y:Option PV)(st:List (Nat×AO))(Z:Nat):AS:=⟨[cS (al w),U,cI (x:Int),cI (m:Int),V,W,X,Y],st,Z⟩
theorem DN{x:Nat}(h:x<5):([97,98,99,100,101]:List Nat)[x]?=some (97+x):=by
 match x,h with
 |0,_=>rfl
 |1,_=>rfl
 |2,_=>rfl
 |3,_=>rfl
 |4,_=>rfl
theorem SW{x:Nat}(h:x<5):([65,66,67,68,69]:List Nat)[x]?=some (65+x):=by
 match x,h with
 |0,_=>rfl
 |1,_=>rfl
 |2,_=>rfl
 |3,_=>rfl
 |4,_=>rfl
theorem NF{w:List Nat}{x y m:Nat}{V W X Y:Option PV}{st:List (Nat×AO)}{Z:Nat}(U:x<5)(T:y<5):vH (ji w V x m (some (.int (y:Int))) W X Y st Z)=some (.str (al (iK x y)),ji w V x m (some (.int (y:Int))) W X Y st Z):=by
 refine ak (ak (ak (ak (ak (ak rfl (ak rfl rfl (fK (DN U) (by decide))) (add_str ?_)) rfl (add_str ?_)) (ak rfl rfl (fK (DN T) (by decide))) (add_str ?_)) rfl (add_str ?_)) (ak rfl rfl (fK (SW U) (by decide))) (add_str ?_)) rfl (add_str ?_)<;>simp
theorem Kf(x y:Nat):(iK x y).length=15:=rfl
theorem ne{w:List Nat}(H:w.length=10){x:Nat}(I:x<5){l1 l7:Option PV}{st:List (Nat×AO)}{nx:Nat}:∀(T:List Nat) (m S:Nat) (M V W:Option PV),(∀y∈T,y<5)->m<2^20->iU w x T m=some S->
  Vm fun X Y Z=>dZ (am 4) Kd ah (au T) (ji w l1 x m M V W l7 st nx)=some (.next,ji w l1 x S X Y Z l7 st nx)/\S<2^20
 |[],m,S,M,V,W,_,O,h=>by obtain rfl:=aZ h;exact⟨M,V,W,rfl,O⟩
 |y::T,m,S,M,V,W,C,O,h=>by
  have Q:=C y (.head _);have R:∀z∈T,z<5:=fun z v=>C z (.tail _ v)
  dsimp only [Ft,EO]at h
  have N:aq (ae (aa 4) (aa 2) mJ) (ji w l1 x m (some (.int (y:Int))) V W l7 st nx)=some ((y:Int) != (x:Int),ji w l1 x m (some (.int (y:Int))) V W l7 st nx):=aD (ak rfl rfl rfl) rfl
  by_cases P:y=x
  .subst P
   rw [show Nat.beq y y=true from uu y,fm]at h
   rw [show((y:Int) != (y:Int))=false by simp]at N
   obtain⟨X,Y,Z,e,U⟩:=ne H I (l1:=l1) (l7:=l7) (st:=st) (nx:=nx) T m S (some (.int (y:Int))) V W R O h;exact⟨X,Y,Z,(bj (σ₁:=ji w l1 y m (some (.int (y:Int))) V W l7 st nx) rfl ((ad (bq N)).trans rfl)).trans e,U⟩
  .rw [show Nat.beq y x=false by rw [kJ];intro q;exact P (ip q),eM]at h
   rw [show((y:Int) != (x:Int))=true by simp;exact fun D=>(eF P).elim (fun G=>bb 0x40000421024004aa22 rfl D G) (fun G=>bb 0x100421024004a822 rfl D G)]at N
   cases F:nT (iK x y) w with
   |none=>rw [F]at h;exact aW h
   |some r=>
    rw [F]at h
    dsimp only at h
    have hcall:=uA (by rw [Kf];decide) (by exact(EC H)) F;have A:ai vH (am 5) (ji w l1 x m (some (.int (y:Int))) V W l7 st nx)=some (.next,ji w l1 x m (some (.int (y:Int))) (some (.str (al (iK x y)))) W l7 st nx):=ax (NF I Q) rfl;have B:ai (bc sX (ac (aa 5) (ac (aa 0) aj))) (am 6) (ji w l1 x m (some (.int (y:Int))) (some (.str (al (iK x y)))) W l7 st nx)=some (.next,ji w l1 x m (some (.int (y:Int))) (some (.str (al (iK x y)))) (some (.bool r)) l7 st nx):=
     ax (bp (ps:=[.str (al (iK x y)),.str (al w)]) rfl rfl rfl hcall) rfl
    cases r with
    |true=>
     rw [fm]at h
     have E:m|||1*2^y<2^20:=by
      rw [gm];exact Nat.or_lt_two_pow O (zM (by decide) (by exact(aH 0x14080010942000421 rfl Q)))
     have u:fA (aa 3) (ae (ab (.int 1)) (aa 4) eI) KA (am 3) (ji w l1 x m (some (.int (y:Int))) (some (.str (al (iK x y)))) (some (.bool true)) l7 st nx)=some (.next,ji w l1 x (m|||1*2^y) (some (.int (y:Int))) (some (.str (al (iK x y)))) (some (.bool true)) l7 st nx):=by
      refine oy (q:=.int ((1*2^y:Nat):Int)) (σ₃:=ji w l1 x m (some (.int (y:Int))) (some (.str (al (iK x y)))) (some (.bool true)) l7 st nx) rfl (ak rfl rfl (pV (a:=1) (by exact(aH 0xc350280000942000421 rfl Q)) (uD (by decide)))) (r:=.int ((m|||1*2^y:Nat):Int)) ?_ rfl
      show some (PV.int (Builtin.bitOr (m:Int) ((1*2^y:Nat):Int)),_)=_;rw [oH]
     obtain⟨X,Y,Z,e,U⟩:=ne H I (l1:=l1) (l7:=l7) (st:=st) (nx:=nx) T (m|||1*2^y) S (some (.int (y:Int))) (some (.str (al (iK x y)))) (some (.bool true)) R E h;refine⟨X,Y,Z,(bj (σ₁:=ji w l1 x m (some (.int (y:Int))) V W l7 st nx) rfl ?_).trans e,U⟩;exact(ad ((bQ N).trans ((ad A).trans ((ad B).trans ((ad ((bQ (aD (p:=.bool true) (ak rfl rfl rfl) rfl)).trans ((ad u).trans rfl))).trans rfl))))).trans rfl
    |false=>
     rw [eM]at h
     obtain⟨X,Y,Z,e,U⟩:=ne H I (l1:=l1) (l7:=l7) (st:=st) (nx:=nx) T m S (some (.int (y:Int))) (some (.str (al (iK x y)))) (some (.bool false)) R O h;refine⟨X,Y,Z,(bj (σ₁:=ji w l1 x m (some (.int (y:Int))) V W l7 st nx) rfl ?_).trans e,U⟩;exact(ad ((bQ N).trans ((ad A).trans ((ad B).trans ((ad ((bq (aD (p:=.bool false) (ak rfl rfl rfl) rfl)).trans ((ad (bq (aD (p:=.bool false) (ak rfl rfl rfl) rfl))).trans rfl))).trans rfl))))).trans rfl
noncomputable abbrev RR:SR:=(ap (ai (ae (ab (.int 1)) (aa 2) eI) (am 3))
 (ap (dD 100 (dj (aB dm (ac (ab (.int 5)) aj))) (am 4) Kd ah)
 (ap (bC (aK "list" (aa 1) (ac (aa 3) aj) aQ))
 ah)))
theorem xy{w:List Nat}(v:w.length=10){l7:Option PV}{nx:Nat}:∀(R:List Nat) (Z O:List Nat) (F N S T U:Option PV) (st:List (Nat×AO)),(∀x∈R,x<5)->Z.length+R.length<=20->st.lookup 0=some (.list (au Z))->iN w R Z=some O->
  RQ fun Q D W X Y V=>mA (dZ (am 2) RR ah (au R) ⟨[cS (al w),cL 0,F,N,S,T,U,l7],st,nx⟩=some (.next,⟨[cS (al w),cL 0,Q,D,W,X,Y,l7],V,nx⟩)) (V.lookup 0=some (.list (au O))) (O.length=Z.length+R.length)
 |[],Z,O,F,N,S,T,U,st,_,_,E,h=>by obtain rfl:=aZ h;exact⟨F,N,S,T,U,st,rfl,E,rfl⟩
 |x::R,Z,O,F,N,S,T,U,st,y,A,E,h=>by
  have P:=y x (.head _);simp only [cm]at A
  dsimp only [AA,Ba]at h
  cases B:iU w x [0,1,2,3,4] (1*2^x)with
  |none=>rw [B]at h;exact aW h
  |some m=>
   rw [B]at h
   dsimp only at h
   obtain⟨W,X,Y,j,q⟩:=ne v P (l1:=some (.loc 0)) (l7:=l7) (st:=st) (nx:=nx) [0,1,2,3,4] (1*2^x) m S T U (by decide) (by rw [gm];exact zM (by decide) (by exact(aH 0x14080010942000421 rfl P))) B;obtain⟨Q,G,H,I,M,V,l,s,t⟩:=xy v (l7:=l7) (nx:=nx) R (Z++[m]) O (some (.int (x:Int))) (some (.int (m:Int))) W X Y (av st 0 (.list (au (Z++[m])))) (fun z r=>y z (.tail _ r)) (by rw [df];simp only [cm,fG];exact KY A) aM h;refine⟨Q,G,H,I,M,V,(bj (σ₁:=⟨[cS (al w),cL 0,cI (x:Int),N,S,T,U,l7],st,nx⟩) rfl ?_).trans l,s,by rw [t,df];simp only [cm,fG];exact bB (Ng) (Lj)⟩;have n:ai (ae (ab (.int 1)) (aa 2) eI) (am 3) ⟨[cS (al w),cL 0,cI (x:Int),N,S,T,U,l7],st,nx⟩=some (.next,ji w (some (.loc 0)) x (1*2^x) S T U l7 st nx):=
    ax (ak rfl rfl (pV (a:=1) (by exact(aH 0xc350280000942000421 rfl P)) (uD (by decide)))) rfl
   have o:dD 100 (dj (aB dm (ac (ab (.int 5)) aj))) (am 4) Kd ah (ji w (some (.loc 0)) x (1*2^x) S T U l7 st nx)=some (.next,ji w (some (.loc 0)) x m W X Y l7 st nx):=
    (bW (k:=.rng 0 5) (ps:=au [0,1,2,3,4]) rfl rfl (by decide)).trans j
   have u:=cb (a:=1) (i:=0) (e:=aa 3) (σ:=ji w (some (.loc 0)) x m W X Y l7 st nx) (ps₀:=au Z) (ps:=au Z) rfl E (p:=.int (m:Int)) rfl E (by rw [cC];exact bb 0x3d0900a000034084210080010021 rfl A);have C:au Z++[.int (m:Int)]=au (Z++[m]):=by simp [au]
   rw [C]at u
   exact(ad n).trans ((ad o).trans ((ad u).trans rfl))
noncomputable abbrev OX:SR:=(ap (di (aq (ae (bc sX (ac (aa 5) (ac (aa 0) aj))) (ab (.bool false)) cK)) (ap (bF (bD aj))
 ah) ah)
 ah)
theorem uf{w:List Nat}(T:w.length=10){l1 l2 l3 l4 l6 l7:Option PV}{st:List (Nat×AO)}{nx i:Nat}{ps:List PV}(Y:st.lookup i=some (.list ps)):∀(X:List (List Nat)) (j n:Nat) (W:Option PV),ps.drop j=aE X->X.length<n->(∀t∈X,t.length<=1000/\nT t w=some false)->
  ∃Z,iz (am 5) OX ah n (.lst i j) ⟨[cS (al w),l1,l2,l3,l4,W,l6,l7],st,nx⟩=some (.next,⟨[cS (al w),l1,l2,l3,l4,Z,l6,l7],st,nx⟩)
 |_,j,0,W,_,V,_=>absurd V (ix _)
 |[],j,n+1,W,U,V,_=>⟨W,Dq (σ:=⟨_,st,nx⟩) Y U⟩
 |t::X,j,n+1,W,U,V,S=>by
  obtain⟨P,Q⟩:=S t (.head _);obtain⟨Z,e⟩:=uf T (l1:=l1) (l2:=l2) (l3:=l3) (l4:=l4) (l6:=l6) (l7:=l7) (st:=st) (nx:=nx) Y X (j+1) n (some (.str (al t))) (dH U) (AU V) (fun z R=>S z (.tail _ R));refine⟨Z,(zg (σ:=⟨_,st,nx⟩) Y U (σ₁:=⟨[cS (al w),l1,l2,l3,l4,cS (al t),l6,l7],st,nx⟩) rfl ?_).trans e⟩;exact(ad (bq (aD (p:=.bool false) (ak (bp (ps:=[.str (al t),.str (al w)]) rfl rfl rfl (uA P (by exact(EC T)) Q)) rfl rfl) rfl))).trans rfl
noncomputable def EN:bO:=cB CJ xa zk (fun _=>[]) [] (fun n=>xv sX 100 n)
theorem MK(a:PV):dw CJ xa zk ([a]++[]) ([]++[])=⟨[some a,none,none,none,none,none,none,none],[],0⟩:=by left
theorem Pj:Str.ofString "...a...a..."=al (bn++[97]++bn++[97]++bn):=by left
theorem Pp:Str.ofString "b..."=al ([98]++bn):=by left
theorem Qc:Str.ofString "a...A"=al ([97]++bn++[65]):=by left
theorem yF{w:List Nat}{n:Nat}{i:Nat}{Z:AS}(W:fB Z.loc i=some (.str (al w)))(X:n<=w.length)(Y:w.length<=1000):bI (aa i) cr (bU (ab (.int (n:Int)))) Z=some (.str (al (w.take n)),Z):=by
 refine eX (eS W) rfl rfl ?_
 rw [kS Y,pj w X]
theorem qy{w:List Nat}{n:Nat}{i:Nat}{Z:AS}(W:fB Z.loc i=some (.str (al w)))(X:n<=w.length)(Y:w.length<=1000):bI (aa i) (bU (ab (.int (n:Int)))) cr Z=some (.str (al (w.drop n)),Z):=by
 refine eX (eS W) rfl rfl ?_
 rw [kS Y,gj w X]
theorem Qh{w M:List Nat}(V:w.length=10)(h:Gh w M):EN [.str (al w)] []=some (.loc 0,[],[.list (au M)]):=by
 obtain⟨hm,G,N,m,b,B,P⟩:=h;unfold EN;rw [cc (σ:=⟨[cS (al w),none,none,none,none,none,none,none],[],0⟩) rfl (MK _)]
 suffices a:∃O,xv sX 100 ([]++([]:List AO)).length ⟨[cS (al w),none,none,none,none,none,none,none],[],0⟩=some (.ret (.loc 0),O)/\O.st.lookup 0=some (.list (au M))by
  obtain⟨O,e,g⟩:=a;rw [e];exact dn (ids:=[0]) rfl (bM g (cZ _) rfl) rfl
 unfold xv;rw [yI,zr,zZ,Pj,Pp,Qc];rw [ad (σ₁:=⟨[cS (al w),cL 0,none,none,none,none,none,none],[(0,.list [])],1⟩) rfl];obtain⟨W,X,Y,R,Z,st,e2,s,c⟩:=xy V (l7:=none) (nx:=1) [0,1,2,3,4] [] M none none none none none [(0,.list [])] (by decide) (by decide) rfl hm;rw [ad (σ₁:=⟨[cS (al w),cL 0,W,X,Y,R,Z,none],st,1⟩) ((bW (k:=.rng 0 5) (ps:=au [0,1,2,3,4]) rfl rfl (by decide)).trans e2)];have F:w[9]?=some (w.getD 9 0):=by rw [gv,fC (by exact(aH 0x24210a82000a21 rfl V))];rfl
 have d:ae (ae (bI (aa 0) cr (bU (ab (.int 6)))) (ab (.str (al bn))) ba) (bI (aa 0) (bU (ab (.int 5))) cr) ba ⟨[cS (al w),cL 0,W,X,Y,R,Z,none],st,1⟩=some (.str (al (w.take 6++bn++w.drop 5)),⟨[cS (al w),cL 0,W,X,Y,R,Z,none],st,1⟩):=
  ak (ak (yF (n:=6) rfl (by exact(aH 0x18200a82000a21 rfl V)) (by exact(EC V))) rfl (add_str (by simp;exact aH 0x7cd280000982000821 rfl (fM (aH 0x18200a82000a21 rfl V))))) (qy (n:=5) rfl (by exact(aH 0x14200a82000a21 rfl V)) (by exact(EC V))) (add_str (by simp;exact ci 0xfa051006108042004002844010826084020a82000823 rfl V (fM (aH 0x18200a82000a21 rfl V)) (aA (aH 0x14200a82000a21 rfl V))))
 have j:ae (ae (ae (ab (.str (al bn))) (bI (aa 0) (bU (ab (.int 1))) cr) ba) (ab (.str (al bn))) ba) (ae (aa 0) (ab (.int 9)) aO) ba ⟨[cS (al w),cL 0,W,X,Y,R,Z,none],st,1⟩=some (.str (al (bn++w.drop 1++bn++[w.getD 9 0])),⟨[cS (al w),cL 0,W,X,Y,R,Z,none],st,1⟩):=
  ak (ak (ak rfl (qy (n:=1) rfl (by exact(aH 0x4200a82000a21 rfl V)) (by exact(EC V))) (add_str (by simp;exact bb 0x7d0284030880100021080420a82000822 rfl V (aA (aH 0x4200a82000a21 rfl V))))) rfl (add_str (by simp;exact aH 0x7cb280000a82000821 rfl V))) (ak rfl rfl (fK (k:=9) F (by exact(EC V)))) (add_str (by simp;exact aH 0x7ca280000a82000821 rfl V))
 have e3:=ax (qg (aw d (aw (g:=aj) j rfl)) (show 2<=2^20 by decide)) (g:=am 7) rfl;rw [ad e3];have l:∀(Q:Option PV) (S:List (Nat×AO)) (U:Nat),bD (ac (ab (.str (al (bn++[97]++bn++[97]++bn)))) (ac (ae (ab (.str (al ([98]++bn)))) (ae (aa 0) (ab (.int 9)) aO) ba) (ac (bI (aa 0) cr (bU (ab (.int 9)))) aj))) ⟨[cS (al w),cL 0,W,X,Y,R,Z,Q],S,U⟩
   = some (.loc U,⟨[cS (al w),cL 0,W,X,Y,R,Z,Q],(U,.list (aE [bn++[97]++bn++[97]++bn,[98]++bn++[w.getD 9 0],w.take 9]))::S,U+1⟩):=fun Q S U=>
by
  have I:ae (ab (.str (al ([98]++bn)))) (ae (aa 0) (ab (.int 9)) aO) ba ⟨[cS (al w),cL 0,W,X,Y,R,Z,Q],S,U⟩=some (.str (al ([98]++bn++[w.getD 9 0])),⟨[cS (al w),cL 0,W,X,Y,R,Z,Q],S,U⟩):=
   ak rfl (ak rfl rfl (fK (k:=9) F (by exact(EC V)))) (add_str (x:=[98]++bn) (y:=[w.getD 9 0]) (by simp))
  have r:bI (aa 0) cr (bU (ab (.int 9))) ⟨[cS (al w),cL 0,W,X,Y,R,Z,Q],S,U⟩=some (.str (al (w.take 9)),⟨[cS (al w),cL 0,W,X,Y,R,Z,Q],S,U⟩):=yF (n:=9) rfl (by exact(aH 0x24200a82000a21 rfl V)) (by exact(EC V));exact qg (aw rfl (aw I (aw (g:=aj) r rfl))) (show 3<=2^20 by decide)
 have D:ae (aa 7) (bD (ac (ab (.str (al (bn++[97]++bn++[97]++bn)))) (ac (ae (ab (.str (al ([98]++bn)))) (ae (aa 0) (ab (.int 9)) aO) ba) (ac (bI (aa 0) cr (bU (ab (.int 9)))) aj)))) ba
   ⟨[cS (al w),cL 0,W,X,Y,R,Z,cL 1],(1,.list (aE [w.take 6++bn++w.drop 5,bn++w.drop 1++bn++[w.getD 9 0]]))::st,2⟩
   = some (.loc 3,⟨[cS (al w),cL 0,W,X,Y,R,Z,cL 1],(3,.list (aE (fO w)))::(2,.list (aE [bn++[97]++bn++[97]++bn,[98]++bn++[w.getD 9 0],w.take 9]))::(1,.list (aE [w.take 6++bn++w.drop 5,bn++w.drop 1++bn++[w.getD 9 0]]))::st,4⟩):=
  ak rfl (l _ _ _) rfl
 obtain⟨T,e4⟩:=uf V (l1:=some (.loc 0)) (l2:=W) (l3:=X) (l4:=Y) (l6:=Z) (l7:=some (.loc 1)) (nx:=4) (i:=3) (ps:=aE (fO w)) (st:=(3,.list (aE (fO w)))::(2,.list (aE [bn++[97]++bn++[97]++bn,[98]++bn++[w.getD 9 0],w.take 9]))::(1,.list (aE [w.take 6++bn++w.drop 5,bn++w.drop 1++bn++[w.getD 9 0]]))::st) rfl (fO w) 0 100 R rfl (by show 5<100;decide) (fun t E=>⟨by
   simp only [fO,cN,lM,iY]at E
   rcases E with rfl|rfl|rfl|rfl|rfl<;>simp<;>omega,G t E⟩)
 have v:=(rI (n:=100) (tg:=am 5) (f:=OX) (o:=ah) D (i:=3) (ps:=aE (fO w)) rfl).trans e4;refine⟨⟨[cS (al w),cL 0,W,X,Y,T,Z,cL 1],(3,.list (aE (fO w)))::(2,.list (aE [bn++[97]++bn++[97]++bn,[98]++bn++[w.getD 9 0],w.take 9]))::(1,.list (aE [w.take 6++bn++w.drop 5,bn++w.drop 1++bn++[w.getD 9 0]]))::st,4⟩,(ad v).trans ?_,by show List.lookup 0 _=_;rw [bg (by decide),bg (by decide),bg (by decide)];exact s⟩;have H:List.lookup 0 ((3,.list (aE (fO w)))::(2,.list (aE [bn++[97]++bn++[97]++bn,[98]++bn++[w.getD 9 0],w.take 9]))::(1,.list (aE [w.take 6++bn++w.drop 5,bn++w.drop 1++bn++[w.getD 9 0]]))::st)=some (AO.list (au M)):=by
  rw [bg (by decide),bg (by decide),bg (by decide)];exact s
 generalize ((3,AO.list (aE (fO w)))::(2,.list (aE [bn++[97]++bn++[97]++bn,[98]++bn++[w.getD 9 0],w.take 9]))::(1,.list (aE [w.take 6++bn++w.drop 5,bn++w.drop 1++bn++[w.getD 9 0]]))::st)=st₂ at H ⊢
 have b1:aq (ae (bc sX (ac (aa 0) (ac (aa 0) aj))) (ab (.bool true)) cK) ⟨[cS (al w),cL 0,W,X,Y,T,Z,cL 1],st₂,4⟩=some (false,⟨[cS (al w),cL 0,W,X,Y,T,Z,cL 1],st₂,4⟩):=
  aD (p:=.bool false) (ak (bp (ps:=[.str (al w),.str (al w)]) rfl rfl rfl (uA (by exact(EC V)) (by exact(EC V)) N)) rfl rfl) rfl
 have A:ae (aa 1) (ab (.int 0)) aO ⟨[cS (al w),cL 0,W,X,Y,T,Z,cL 1],st₂,4⟩=some (.int (m:Int),⟨[cS (al w),cL 0,W,X,Y,T,Z,cL 1],st₂,4⟩):=
  ak rfl rfl (lj (k:=0) (ps:=au M) H (by rw [B];rfl) (by rw [cC,c];decide))
 have z:jd (.int (m:Int)) (.int 31) ⟨[cS (al w),cL 0,W,X,Y,T,Z,cL 1],st₂,4⟩=some (.bool (Nat.beq m 31),⟨[cS (al w),cL 0,W,X,Y,T,Z,cL 1],st₂,4⟩):=by
  show some (PV.bool ((m:Int)==31),_)=_;have:((m:Int)==31)=Nat.beq m 31:=by
   by_cases C:m=31
   .subst C;rfl
   .rw [show Nat.beq m 31=false by rw [kJ];intro q;exact C (ip q)]
    rw [gp];exact fun u=>(eF C).elim (fun I=>aH 0x7c200043f0a4004aa22 rfl u I) (fun I=>aH 0x1f0843f0a4004a822 rfl u I)
  rw [this]
 have b2:aq (ae (bc sX (ac (ab (.str (al ([97]++bn++[65])))) (ac (aa 0) aj))) (ae (ae (aa 1) (ab (.int 0)) aO) (ab (.int 31)) jd) cK) ⟨[cS (al w),cL 0,W,X,Y,T,Z,cL 1],st₂,4⟩=some (false,⟨[cS (al w),cL 0,W,X,Y,T,Z,cL 1],st₂,4⟩):=by
  refine aD (p:=.bool false) (ak (bp (ps:=[.str (al ([97]++bn++[65])),.str (al w)]) rfl rfl rfl (uA (by decide) (by exact(EC V)) P)) (ak A rfl z) ?_) rfl;show some (PV.bool (!(Nat.beq m 31==Nat.beq m 31)),_)=_;rw [qz];rfl
 exact(ad (bq ((lF b1).trans ((lF b2).trans rfl)))).trans (aG rfl)
noncomputable def cu(c:Nat):List (Nat×Nat)->List Nat
 |[]=>[]
 |r::Z=>cond (Nat.beq r.1 c) (r.2::cu c Z) (cu c Z)
noncomputable def ew:List Nat->Int
 |[]=>0
 |k::Z=>(k:Int)-128+ew Z
noncomputable def kc(s:Nat):Int:=cond (Nat.beq s 1) 1 (-1)
noncomputable def mM(Z:List Nat)(Y:Nat):List Nat->Nat->Nat
 |[],n=>n
 |y::X,n=>mM Z Y X (cond (Nat.blt Y (Z.getD y 0)) (97+y) n)
theorem Ea(ends ex n):mM ends ex [] n=(n):=rfl
theorem DX(ends ex y ys n):mM ends ex (y::ys) n=(mM ends ex ys (cond (Nat.blt ex (ends.getD y 0)) (97+y) n)):=rfl
noncomputable def tC(Z:List Nat)(x:Nat):Nat:=mM Z (Z.getD x 0) (List.range' 0 x) 122
noncomputable def rU(k:Nat):List Nat->Bool
 |[]=>false
 |a::l=>cond (Nat.beq a k) true (rU k l)
theorem Lv(k):rU k []=(false):=rfl
theorem KP(k a l):rU k (a::l)=(cond (Nat.beq a k) true (rU k l)):=rfl
noncomputable def lE(w:Int):Nat:=(w+128).toNat
noncomputable def xM(Y Z:List Nat):List Nat->List (Nat×Nat)->List Int->Option (List (Nat×Nat)×List Int)
 |[],X,W=>some (X,W)
 |x::V,X,W=>match tn (kc (Z.getD x 0)*ew (cu (97+x) X)) (kc (Z.getD x 0))with
  |some w=>cond (Nat.ble (ew (cu (97+x) X)).natAbs 1000&&rU (lE w) dL&&decide (w=(lE w:Int)-128)) (xM Y Z V (X++[(tC Y x,lE w)]) (W++[w])) none
  |none=>none
theorem NM(ends sides ls ws):xM ends sides [] ls ws=(some (ls,ws)):=rfl
theorem Ll(ends sides x xs ls ws):xM ends sides (x::xs) ls ws=(match tn (kc (sides.getD x 0)*ew (cu (97+x) ls)) (kc (sides.getD x 0))with
  |some w=>cond (Nat.ble (ew (cu (97+x) ls)).natAbs 1000&&rU (lE w) dL&&decide (w=(lE w:Int)-128)) (xM ends sides xs (ls++[(tC ends x,lE w)]) (ws++[w])) none
  |none=>none):=rfl
noncomputable def zb(Y Z:List Nat):Option (List Int):=match xM Y Z [4,3,2,1,0] [] []with
 |some (W,X)=>(match cu 122 W with|[]=>none|k::V=>some (X.reverse++[ew (k::V)]))
 |none=>none
noncomputable def QF:List Nat:=[1,2,3,4,5,6,7,8,9,10,11,12,13,14,15,16,17,18,19,20,21,22,23,24,25,26,27,28,29,30,31]
noncomputable def tP(W:Nat):List Nat->List Int->Bool
 |[],[]=>true
 |m::Y,w::Z=>cond (Nat.beq (W/2^(10*m)%1024) (w+512).toNat&&decide (0<=w+512)) (tP W Y Z) false
 |_,_=>false
theorem IG(W):tP W [] []=(true):=rfl
theorem IY(W m ms w ws):tP W (m::ms) (w::ws)=(cond (Nat.beq (W/2^(10*m)%1024) (w+512).toNat&&decide (0<=w+512)) (tP W ms ws) false):=rfl
noncomputable def qd(I Y Z:List Nat):Bool:=match I,Z with
 |[N,O,P,Q,R],[S,T,U,V,X]=>fc (vu N O P Q R S T U V X QF 512) fun W=>cond (Nat.beq W 0) false (match zb Y [S,T,U,V,X]with|some M=>tP W [N,O,P,Q,R,31] M|none=>false)
 |_,_=>false
noncomputable def Fs:List Nat:=[0,1]
noncomputable def qO(f:List Nat->Bool):Bool:=Fs.all fun a=>Fs.all fun b=>Fs.all fun c=>Fs.all fun d=>Fs.all fun e=>f [a,b,c,d,e]
noncomputable def VM:Option Bool->Bool|some false=>true|_=>false
noncomputable def VJ:Option Bool->Bool|some true=>true|_=>false
noncomputable def qq(w Z:List Nat):Bool:=(match iN w [0,1,2,3,4] []with|some l=>oW l Z|none=>false)&&(fO w).all (fun t=>VM (nT t w))&&VJ (nT w w) &&
 (match Z with|m::_=>(match nT ([97]++bn++[65]) w with|some r=>r==Nat.beq m 31|none=>false)|[]=>false)
noncomputable def AZ(Z:List Nat):Bool:=(Nat.beq Z.length 5&&Z.all fun m=>Nat.ble m 31)&&((Z.getD 0 0).testBit 0&&(Z.getD 1 0).testBit 1&&(Z.getD 2 0).testBit 2&&(Z.getD 3 0).testBit 3&&(Z.getD 4 0).testBit 4)
noncomputable def Ax(w Z:List Nat):Bool:=oW (Di w) Z&&Nat.beq Z.length 5&&Nat.beq w.length 10&&w.all (fun c=>rU c (MQ++MV))&&KV (bal 0 w)&&(match w with|c::_=>Nat.blt 69 c|[]=>false)&&Z.all (fun e=>Nat.ble e 20)
noncomputable def ij(w Y Z:List Nat):Bool:=qq w Y&&AZ Y&&Ax w Z&&qO (qd Y Z)
noncomputable def Kl(V W X Y Z:Nat):List Nat:=(bT (bT (bT (bT (bT ([],[]) 0 V) 1 W) 2 X) 3 Y) 4 Z).1++((bT (bT (bT (bT (bT ([],[]) 0 V) 1 W) 2 X) 3 Y) 4 Z).2.reverse.map (65+·))
theorem wa:∀Z:List PyData,(∀d∈Z,d.canLay0=true)->PyData.canLayAll0 Z=true
 |[],_=>rfl
 |d::Z,h=>by simp only [PyData.canLayAll0,cR];exact⟨h d (.head _),wa Z fun x Y=>h x (.tail _ Y)⟩
theorem ua{n:Nat}:∀Z:List PyData,(∀d∈Z,d.depth<=n)->PyData.depthAll Z<=n
 |[],_=>jy _
 |d::Z,h=>by
  have V:=h d (.head _);have W:=ua Z fun x X=>h x (.tail _ X)
  show max d.depth (PyData.depthAll Z)<=n;exact(dP (d.depth) (PyData.depthAll Z)).elim (fun Y=>ci 0x40200020008020840000022 rfl W (Nat.max_eq_right (dY Y))) (fun Y=>ci 0x40200020008020840000022 rfl V (Nat.max_eq_left (dY Y)))
theorem mG{Z:List PyData}(h:∀d∈Z,d.canLay0=true/\d.depth<=3):SeqAt.shaped (.list Z)=true:=by
 have W:=wa Z fun d Y=>(h d Y).1
 have X:=ua Z fun d Y=>(h d Y).2
 unfold SeqAt.shaped;rw [cR];refine⟨W,dq ?_⟩;show PyData.depthAll Z+1<=64;exact aH 0x2010210004008c2000021 rfl X
theorem ld{Z:Type}{f:Z->PV}{g:Z->PyData}(h:∀a,mm (f a)=some (g a)):∀l:List Z,ee (l.map f)=some (l.map g)
 |[]=>rfl
 |a::l=>by
  show(match mm (f a),ee (l.map f)with|some d,some Y=>some (d::Y)|_,_=>none)=_;rw [h a,ld h l];rfl
theorem lc{neg:Bool}{Z:AS}{a b:Nat}{Y:List PV}{ds:List PyData}(U:Z.st.lookup a=some (.list Y))(V:Z.st.lookup b=some (.list Y))(W:ee Y=some ds)(X:SeqAt.shaped (.list ds)=true):fH neg (.loc a) (.loc b) Z=some (.bool (!neg),Z):=by
 have S:oT Z.st (.loc a)=some (.list ds):=by
  show(match Z.st.lookup a with|some (.list Y)=>(ee Y).map PyData.list|_=>none)=_;rw [U];dsimp only;rw [W];rfl
 have T:oT Z.st (.loc b)=some (.list ds):=by
  show(match Z.st.lookup b with|some (.list Y)=>(ee Y).map PyData.list|_=>none)=_;rw [V];dsimp only;rw [W];rfl
 unfold fH;rw [S,T,iO,iO,X,SeqAt.eqv_refl _ (AQ X)];cases neg<;>rfl
theorem Ho:dL.all (fun k=>(PyData.str (al (bV k))).canLay0)=true:=by decide +kernel
theorem MH:sZ.all (fun c=>(PyData.str (al [c])).canLay0)=true:=by decide +kernel
theorem De{k:Nat}(h:k∈dL):(PyData.str (al (bV k))).canLay0=true:=dl.mp Ho k h
theorem QB{k:Nat}(h:k∈sZ):(PyData.str (al [k])).canLay0=true:=dl.mp MH k h
theorem Kx(Z:List Nat):cf Z=Z.map fun k=>PV.str (al (bV k)):=by simp [cf,aE]
theorem Cd{Y:AS}{a b:Nat}{Z:List Nat}(W:∀k∈Z,k∈dL)(T:Y.st.lookup a=some (.list (cf Z)))(U:Y.st.lookup b=some (.list (cf Z))):mJ (.loc a) (.loc b) Y=some (.bool false,Y):=by
 refine lc (neg:=true) T U (ds:=Z.map fun k=>PyData.str (al (bV k))) (by rw [Kx];exact ld (fun _=>rfl) Z) (mG fun d V=>?_);obtain⟨k,X,rfl⟩:=iq.mp V;exact⟨De (W k X),jy _⟩
theorem KT{Y:AS}{a b:Nat}{Z:List (Nat×Nat)}(W:∀r∈Z,r.1∈sZ/\r.2∈dL)(U:Y.st.lookup a=some (.list (ay Z)))(V:Y.st.lookup b=some (.list (ay Z))):mJ (.loc a) (.loc b) Y=some (.bool false,Y):=by
 refine lc (neg:=true) U V (ds:=Z.map fun r=>PyData.tuple [.str (al [r.1]),.str (al (bV r.2))]) (ld (fun _=>rfl) Z) (mG fun d hd=>?_);obtain⟨r,X,rfl⟩:=iq.mp hd;obtain⟨S,T⟩:=W r X;refine⟨?_,?_⟩
 .show PyData.canLayAll0 [PyData.str (al [r.1]),PyData.str (al (bV r.2))]=true
  exact wa _ fun d hd=>by
   rcases cN.mp hd with rfl|hd
   .exact QB S
   .rw [cJ.mp hd];exact De T
 .exact(show(1:Nat)<=3 by decide)
theorem LO{Z:AS}{a b:Nat}{ws:List Int}(V:Z.st.lookup a=some (.list (ws.map .int)))(W:Z.st.lookup b=some (.list (ws.map .int))):jd (.loc a) (.loc b) Z=some (.bool true,Z):=by
 refine lc (neg:=false) V W (ds:=ws.map PyData.int) (ld (fun _=>rfl) ws) (mG fun d X=>?_);obtain⟨k,Y,rfl⟩:=iq.mp X;exact⟨rfl,jy _⟩
theorem vR{Z:AS}{t:Nat}{Y:List PV}(W:t<Z.nx)(X:jQ [t] (bY Y)=true):(dQ.nodupB [t]&&jQ [t] (bY Y)&&[t].all (fun i=>decide (i<Z.nx)))=true:=by
 have:([t].all fun i=>decide (i<Z.nx))=true:=by simp [W]
 rw [this,X];rfl
theorem wl{σ:AS}{i c:Nat}{e:ER}{rs:List (Nat×Nat)}(V:fB σ.loc i=some (.hdr 274 2))(U:e σ=some (.str (al [c]),σ))(S:σ.st.lookup 2=some (.list (ay rs)))(X:2<σ.nx)(T:c∈sZ)(Y:∀r∈rs,r.1∈sZ)(W:rs.length<=50):
  dI 274 vj (aa i) (ac e aj) σ=some (.loc σ.nx,{σ with st:=(σ.nx,.list (cf (bP c rs)))::av σ.st 2 (.list (ay rs)),nx:=σ.nx+1}):=by
 refine rL (eS V) rfl (aw U rfl) ?_
 exact hZ (ids:=[2]) (os:=[.list (ay rs)]) (os':=[.list (ay rs)]) (p:=.loc 1) (ns:=[.list (cf (bP c rs))]) rfl (by show [σ.st.lookup 2]=_;rw [S];rfl) (fun Z h=>by rw [cJ.mp h];exact cA _) (vR X rfl) (Ri T Y W) rfl (fun Z h=>by rw [cJ.mp h];exact cA _) rfl rfl (fun Z h=>by rw [cJ.mp h];exact Dy _)
theorem rA{σ:AS}{i:Nat}{rs:List (Nat×Nat)}(W:fB σ.loc i=some (.hdr 274 2))(V:σ.st.lookup 2=some (.list (ay rs)))(Y:2<σ.nx)(X:rs.length<=50):
  dI 274 sI (aa i) aj σ=some (.loc σ.nx,{σ with st:=(σ.nx,.list (ay rs))::av σ.st 2 (.list (ay rs)),nx:=σ.nx+1}):=by
 refine rL (eS W) rfl rfl ?_
 exact hZ (ids:=[2]) (os:=[.list (ay rs)]) (os':=[.list (ay rs)]) (p:=.loc 1) (ns:=[.list (ay rs)]) rfl (by show [σ.st.lookup 2]=_;rw [V];rfl) (fun Z h=>by rw [cJ.mp h];exact cA _) (vR Y rfl) (Qu X) rfl (fun Z h=>by rw [cJ.mp h];exact cA _) rfl rfl (fun Z h=>by rw [cJ.mp h];exact cA _)
theorem Ex:dL.all (fun k=>JoinOk (Str.ofString "; ") [al (bV k)]&&decide (Txt.join (Str.ofString "; ") [al (bV k)]=al (bV k)))=true:=by decide +kernel
theorem zi{k:Nat}(h:k∈dL):JoinOk (Str.ofString "; ") [al (bV k)]=true/\Txt.join (Str.ofString "; ") [al (bV k)]=al (bV k):=by
 have:=dl.mp Ex k h;rw [cR,gJ]at this
 exact this
theorem GX{σ:AS}{i c k:Nat}{e1 e2:ER}{rs:List (Nat×Nat)}(U:fB σ.loc i=some (.hdr 274 2))(X:e1 σ=some (.str (al [c]),σ))(Y:e2 σ=some (.str (al (bV k)),σ))(S:σ.st.lookup 2=some (.list (ay rs)))(W:2<σ.nx)(T:c∈sZ)(Z:k∈dL)(V:rs.length<=50):
  dI 274 AH (aa i) (ac e1 (ac e2 aj)) σ=some (.none,{σ with st:=av σ.st 2 (.list (ay (rs++[(c,k)])))}):=by
 refine rL (eS U) rfl (aw X (aw (g:=aj) Y rfl)) ?_
 exact hZ (ids:=[2]) (os:=[.list (ay rs)]) (os':=[.list (ay (rs++[(c,k)]))]) (p:=.none) (ns:=[]) rfl (by show [σ.st.lookup 2]=_;rw [S];rfl) (fun R h=>by rw [cJ.mp h];exact cA _) (vR W rfl) (QD T (qX Z).gd (zi Z).1 (zi Z).2 V) rfl (fun R h=>by rw [cJ.mp h];exact cA _) rfl rfl (fun _ h=>by cases h)
theorem yU:∀k∈dL,k<=208:=by decide
theorem qe{Z:List (Nat×Nat)}{c:Nat}:bP c Z=cu (da c) (Z.map fun r=>(da r.1,r.2)):=by
 induction Z with
 |nil=>rfl
 |cons r Z Y=>show cond _ _ _=cond _ _ _;rw [Y]
theorem uR{Y:List (Nat×Nat)}{c:Nat}{p:Nat->Prop}(h:∀r∈Y,p r.2):∀k∈bP c Y,p k:=by
 induction Y with
 |nil=>intro k Z;cases Z
 |cons r Y W=>
  intro k Z;dsimp only [vL,um]at Z
  cases V:Nat.beq (da r.1) (da c)with
  |true=>
   rw [V,fm]at Z
   rcases cN.mp Z with rfl|Z
   .exact h r (.head _)
   .exact W (fun x X=>h x (.tail _ X)) k Z
  |false=>
   rw [V,eM]at Z
   exact W (fun x X=>h x (.tail _ X)) k Z
theorem DD{rs:List (Nat×Nat)}{c:Nat}:(bP c rs).length<=rs.length:=by
 induction rs with
 |nil=>exact bZ _
 |cons r rs Z=>
  dsimp only [vL,um];cases Nat.beq (da r.1) (da c)
  .rw [eM];simp only [cm];exact bb 0x8420100000840000021 rfl Z
  .rw [fm];simp only [cm];exact bb 0x42100821000400840000021 rfl Z
noncomputable def po(Z:List Nat):List Int:=Z.map fun k:Nat=>(k:Int)-128
theorem wI:∀Z,(po Z).sum=ew Z
 |[]=>rfl
 |k::Z=>by show((k:Int)-128)+(po Z).sum=_;rw [wI Z];rfl
noncomputable abbrev pD(P:Params):ER:=ae (bc (RI P) (ac (aa 0) aj)) (ab (.int 128)) cO
theorem Gi(P:Params){T:List Nat}{i acc nx:Nat}(z:∀k∈T,k∈dL)(R:i≠acc)(A:T.length<=50):∀(Z:List Nat) (j n:Nat) (X:List Int) (st:List (Nat×AO)) (W:Option PV),(∀k∈Z,k∈dL)->(cf T).drop j=cf Z->Z.length<n->X.length+Z.length<=100->st.lookup i=some (.list (cf T))->st.lookup acc=some (.list (X.map .int))->
  vS fun I Y=>mA (fU (am 0) gG (pD P) acc n (.lst i j) ⟨[W],st,nx⟩=some ⟨[I],Y,nx⟩) (Y.lookup acc=some (.list ((X++po Z).map .int))) (∀m,m≠acc->Y.lookup m=st.lookup m)
 |_,_,0,_,_,_,_,_,h,_,_,_=>absurd h (ix _)
 |[],j,n+1,X,st,W,_,O,_,_,N,F=>by
  refine⟨W,st,?_,by simpa [po]using F,fun m _=>rfl⟩;have H:(cf T)[j]?=none:=by
   have:=bv List.head? O
   rwa [lJ]at this
  show(match gZ ⟨[W],st,nx⟩ (.lst i j)with|some (some (p,D))=>_|some none=>_|none=>_)=_;rw [nJ (σ:=⟨[W],st,nx⟩) N H]
 |k::Z,j,n+1,X,st,W,E,O,S,G,N,F=>by
  have H:(cf T)[j]?=some (.str (al (bV k))):=by
   have:=bv List.head? O
   rwa [lJ]at this
  simp only [cm]at S G
  have B:pD P ⟨[cS (al (bV k))],st,nx⟩=some (.int ((k:Int)-128),⟨[cS (al (bV k))],st,nx⟩):=
   ak (bp (ps:=[.str (al (bV k))]) rfl rfl rfl (SU P (qX (E k (.head _))))) rfl rfl
  have M:fU (am 0) gG (pD P) acc (n+1) (.lst i j) ⟨[W],st,nx⟩=(match pD P ⟨[cS (al (bV k))],st,nx⟩with
    |some (q,U)=>(match aQ [.loc acc,q] U with
     |some (_,V)=>fU (am 0) gG (pD P) acc n (.lst i (j+1)) V
     |none=>none)
    |none=>none):=by
   show(match gZ ⟨[W],st,nx⟩ (.lst i j)with|some (some (p,D))=>_|some none=>_|none=>_)=_;rw [nK (σ:=⟨[W],st,nx⟩) N H];rfl
  rw [M,B];dsimp only;rw [eH (σ:=⟨[cS (al (bV k))],st,nx⟩) F (by rw [cW];exact bb 0x80000180000464204210080010021 rfl G)];dsimp only;have Q:X.map PV.int++[.int ((k:Int)-128)]=(X++[(k:Int)-128]).map PV.int:=by simp
  rw [Q];obtain⟨I,Y,e,g2,go⟩:=Gi P z R A Z (j+1) n (X++[(k:Int)-128]) (av st acc (.list ((X++[(k:Int)-128]).map .int))) (some (.str (al (bV k)))) (fun x C=>E x (.tail _ C)) (dH O) (by exact(DV S)) (by rw [df];simp only [cm,fG];exact Mf G) (by rw [az R];exact N) aM;refine⟨I,Y,e,?_,fun m Q=>by rw [go m Q,az Q]⟩;rw [g2];simp [po]
theorem Ow(P:Params){σ:AS}{e:ER}{i:Nat}{ks:List Nat}(N:e σ=some (.loc i,σ))(Q:σ.st.lookup i=some (.list (cf ks)))(W:i<σ.nx)(S:∀k∈ks,k∈dL)(V:ks.length<=50):
  ∃Z,aB Bp (ac (iw 100 1 (dj e) (am 0) gG (pD P)) aj) σ=some (.int (ew ks),⟨σ.loc,Z,σ.nx+1⟩)/\∀m,m<σ.nx->Z.lookup m=σ.st.lookup m:=by
 obtain⟨I,Z,M,g,go⟩:=Gi P (nx:=σ.nx+1) (acc:=σ.nx) (i:=i) S (by exact(fun Y=>vq W Y)) V ks 0 100 [] ((σ.nx,.list [])::σ.st) none S rfl (by exact(aH 0xc84000210c88000021 rfl V)) (by simp;exact aH 0xc84000010c88000021 rfl V) (by rw [bg (by exact(fun Y=>vq W Y))];exact Q) cx;rw [pp]at g
 refine⟨Z,bN (ps:=[.loc σ.nx]) (σ₁:=⟨σ.loc,Z,σ.nx+1⟩) (aw ?_ rfl) ?_,fun m R=>by rw [go m (by exact(fun Y=>vq R Y)),bg (by exact(fun Y=>vq R Y))]⟩
 .have U:dj e σ=some (.lst i 0,σ):=by
   refine jq N ?_
   show(dN (σ.st.lookup i)).bind _=_;rw [Q];rfl
  unfold iw;rw [U];dsimp only;rw [show(List.replicate 1 (none:Option PV))=[none]from rfl,M]
 .rw [Mw,jE (σ:=⟨σ.loc,Z,σ.nx+1⟩) g,ml,iO]
  have U:CE (po ks)=true:=dl.mpr fun n O=>by
   obtain⟨k,T,rfl⟩:=iq.mp O;have:=yU k (S k T);exact dq (by exact((kR 0 (↑k-128)).elim (fun Y=>bb 0x100000000c1000240112002581025413408000022 rfl this (fF (aH 0x1004480096002940480224004b0014a021 rfl Y))) (fun Y=>bb 0x40000000300000900448409634004a821 rfl (pC (aH 0x29200890012c40401490044800962021 rfl Y)))))
  have X:((po ks).map PV.int).length<=2^20:=by rw [cW];unfold po;rw [cW];exact aH 0x2000006000010c88000021 rfl V
  rw [aC ⟨U,X⟩,wI]
noncomputable def rZ:List Nat:=[97,98,99,100,101,122]
theorem Nr:rZ.all (fun c=>decide (Txt.upper (al [c])=al [c-32])&&!Aw (al [c-32])&&rU (c-32) sZ&&rU c sZ&&Nat.beq (da (c-32)) c&&Nat.beq (da c) c)=true:=by decide +kernel
theorem kA:∀{l:List Nat} {k:Nat},rU k l=true->k∈l
 |[],k,h=>mU h
 |a::l,k,h=>by
  dsimp only [Lv,KP]at h
  cases Z:Nat.beq a k with
  |true=>rw [ip Z];exact .head _
  |false=>rw [Z,eM]at h;exact .tail _ (kA h)
structure VS(c:Nat):Prop where
 up:Txt.upper (al [c])=al [c-32]
 tl:Aw (al [c-32])=false
 nu:c-32∈sZ
 nl:c∈sZ
 lu:da (c-32)=c
 ll:da c=c
theorem JR{c:Nat}(h:c∈rZ):VS c:=by
 have:=dl.mp Nr c h;simp only [cR,mW,gJ]at this
 obtain⟨⟨⟨⟨⟨U,V⟩,W⟩,X⟩,Y⟩,Z⟩:=this;exact⟨U,V,kA W,kA X,ip Y,ip Z⟩
theorem Kj{x:Nat}(h:x<5):97+x∈rZ:=by
 match x,h with
 |0,_=>decide
 |1,_=>decide
 |2,_=>decide
 |3,_=>decide
 |4,_=>decide
theorem mx{Z:List (Str×PV)}{k:Str}{v:PV}:(bt.stored' Z k v).lookup k=some v:=by
 unfold bt.stored'
 by_cases h:Z.any (fun U=>U.1==k)=true
 .rw [aC h]
  induction Z with
  |nil=>exact mU h
  |cons a l T=>
   rw [cP]
   by_cases X:(a.1==k)=true
   .rw [aC X]
    obtain⟨W,S⟩:=a;have:k=W:=(oA X).symm;subst this;simp [List.lookup]
   .rw [aF X]
    have Q:l.any (fun U=>U.1==k)=true:=by
     rw [List.any_cons]at h
     cases V:(a.1==k)with
     |true=>exact absurd V X
     |false=>rw [V]at h;exact h
    obtain⟨W,S⟩:=a;have Y:(k==W)=false:=by
     rw [gp];intro q;exact X (by rw [q];exact aC rfl)
    rw [cU,Y];exact T Q
 .rw [aF h]
  have R:∀a∈Z,¬(a.1==k)=true:=fun a X q=>h (zS.mpr ⟨a,X,q⟩)
  clear h
  induction Z with
  |nil=>simp [List.lookup]
  |cons a l T=>
   obtain⟨W,S⟩:=a;have Y:(k==W)=false:=by
    rw [gp];intro q;exact R (W,S) (.head _) (by rw [q];exact aC rfl)
   rw [oJ,cU,Y];exact T fun b V=>R b (.tail _ V)
theorem oQ{Z:List (Str×PV)}{k Y:Str}{v:PV}(X:Y≠k):(bt.stored' Z k v).lookup Y=Z.lookup Y:=by
 unfold bt.stored'
 by_cases h:Z.any (fun S=>S.1==k)=true
 .rw [aC h]
  clear h
  induction Z with
  |nil=>rfl
  |cons a l W=>
   obtain⟨V,R⟩:=a;rw [cP]
   by_cases T:(V==k)=true
   .rw [aC T]
    have:V=k:=oA T;subst this;have U:(Y==V)=false:=by rw [gp];exact X
    rw [cU,cU,U];exact W
   .rw [aF T,cU,cU,W]
 .rw [aF h]
  clear h
  induction Z with
  |nil=>
   have U:(Y==k)=false:=by rw [gp];exact X
   show List.lookup Y [(k,v)]=_;rw [cU,U]
  |cons a l W=>
   obtain⟨V,R⟩:=a;rw [oJ,cU,cU,W]
theorem Av(Z:List (Str×PV))(k:Str)(v:PV):(bt.stored' Z k v).length<=Z.length+1:=by
 unfold bt.stored'
 split
 .rw [cW];exact vX
 .rw [df];exact kB _
noncomputable def cQ(Z:List (Nat×Nat)):List (Nat×Nat):=Z.map fun r=>(da r.1,r.2)
theorem tJ(Z:List (Nat×Nat))(r:Nat×Nat):cQ (Z++[r])=cQ Z++[(da r.1,r.2)]:=by simp [cQ]
theorem Eh(c:Nat)(Z:List (Nat×Nat))(r:Nat×Nat):cu c (Z++[r])=cu c Z++cond (Nat.beq r.1 c) [r.2] []:=by
 induction Z with
 |nil=>show cond _ _ _=_;cases Nat.beq r.1 c<;>rfl
 |cons a l Y=>
  show cond (Nat.beq a.1 c) (a.2::cu c (l++[r])) (cu c (l++[r]))=cond (Nat.beq a.1 c) (a.2::cu c l) (cu c l)++_;rw [Y];cases Nat.beq a.1 c<;>rfl
structure J(ends sides:List Nat)(rs:List (Nat×Nat))(ws:List Int)(kvs:List (Str×PV))(st:List (Nat×AO))(nx:Nat):Prop where
 n6:6<=nx
 h0:st.lookup 0=some (.list (au ends))
 h1:st.lookup 1=some (.list (au sides))
 h2:st.lookup 2=some (.list (ay rs))
 h3:st.lookup 3=some (.list (ay rs))
 h4:st.lookup 4=some (.dict kvs)
 h5:st.lookup 5=some (.list (ws.map .int))
 hu:∀c∈rZ,(∃i,sR (kvs.lookup (al [c])=some (.loc i)) (6<=i) (i<nx) (st.lookup i=some (.list (cf (cu c (cQ rs))))))\/(kvs.lookup (al [c])=none/\cu c (cQ rs)=[])
 hk:kvs.length<=rs.length
 hr:∀r∈rs,r.1∈sZ/\r.2∈dL
theorem J.agree{Y Z:List Nat}{R:List (Nat×Nat)}{S:List Int}{U:List (Str×PV)}{st W:List (Nat×AO)}{T V:Nat}(j:J Y Z R S U st T)(h:∀m,m<T->W.lookup m=st.lookup m)(Q:T<=V):J Y Z R S U W V:=by
 have X:=j.n6;refine⟨by exact bb 0x40608020018200840000022 rfl Q X,?_,?_,?_,?_,?_,?_,fun c O=>?_,j.hk,j.hr⟩
 .rw [h 0 (by exact(aH 0x210800608021 rfl X))];exact j.h0
 .rw [h 1 (by exact(aH 0x4210800608021 rfl X))];exact j.h1
 .rw [h 2 (by exact(Gj X))];exact j.h2
 .rw [h 3 (by exact(aH 0xc210800608021 rfl X))];exact j.h3
 .rw [h 4 (by exact(aH 0x10210800608021 rfl X))];exact j.h4
 .rw [h 5 (by exact(aH 0x14210800608021 rfl X))];exact j.h5
 .rcases j.hu c O with⟨i,I,M,P,N⟩|e
  .exact .inl ⟨i,I,M,by exact ci 0x40200420008010840000022 rfl Q P,by rw [h i P];exact N⟩
  .exact .inr e
theorem tB{i k:Nat}{X Y:List PV}{Z:AS}(h:Z.st.lookup i=some (.list X))(V:Z.st.lookup k=some (.list Y))(W:X.length+Y.length<=2^20):ba (.loc i) (.loc k) Z=some (.loc Z.nx,{Z with st:=(Z.nx,.list (X++Y))::Z.st,nx:=Z.nx+1}):=by
 show PT i k Z=_;unfold PT;rw [jE h,jE V,aC W]
theorem zl{i:Nat}{x:Str}{p:PV}{Z:List (Str×PV)}{Y:AS}(h:Y.st.lookup i=some (.dict Z)):pM [.loc i,.str x,p] Y=some ((Z.lookup x).getD p,Y):=by
 show(oe (Y.st.lookup i)).bind (fun Z=>some ((Z.lookup x).getD p,Y))=_;rw [h];rfl
theorem IU{i:Nat}{x:Str}{p:PV}{Z:List (Str×PV)}{Y:AS}(h:Y.st.lookup i=some (.dict Z))(X:Z.lookup x=some p):aO (.loc i) (.str x) Y=some (p,Y):=by
 show(oe (Y.st.lookup i)).bind (fun Z=>(Z.lookup x).bind fun p=>some (p,Y))=_;rw [h];show(Z.lookup x).bind _=_;rw [X];rfl
theorem Hr{i:Nat}{x:Str}{p:PV}{Z:List (Str×PV)}{Y:AS}(h:Y.st.lookup i=some (.dict Z))(X:Z.length<=2^20):bt (.loc i) (.str x) p Y=some {Y with st:=av Y.st i (.dict (bt.stored' Z x p))}:=by
 show wE i x p Y=_;unfold wE;rw [h];exact aC X
theorem J.get{X Z:List Nat}{V:List (Nat×Nat)}{T:List Int}{Y:List (Str×PV)}{σ:AS}(j:J X Z V T Y σ.st σ.nx){c d:Nat}(R:c∈rZ)(S:σ.st.lookup d=some (.list [])):
  ∃i,pM [.loc 4,.str (al [c]),.loc d] σ=some (.loc i,σ)/\σ.st.lookup i=some (.list (cf (cu c (cQ V)))):=by
 have e:pM [.loc 4,.str (al [c]),.loc d] σ=some ((Y.lookup (al [c])).getD (.loc d),σ):=zl j.h4;rcases j.hu c R with⟨i,W,U,P,Q⟩|⟨W,U⟩
 .exact⟨i,by rw [e,W];rfl,Q⟩
 .exact⟨d,by rw [e,W];rfl,by rw [S,U];rfl⟩
noncomputable abbrev VO:ER:=ab (.str (al [65,66,67,68,69]))
noncomputable abbrev UQ:ER:=ab (.str (al [97,98,99,100,101]))
noncomputable abbrev bE(Z:Int)(U x:Nat)(Q S T V W X Y:Option PV)(st:List (Nat×AO))(R:Nat):AS:=⟨[cL 0,cL 1,cI Z,cI (U:Int),some (.hdr 274 2),cL 3,cL 4,cL 5,cI (x:Int),Q,S,T,V,W,X,Y],st,R⟩
noncomputable abbrev TJ:ER:=lD (aq (ae (aa 8) (ab (.int 2)) eu)) (ae VO (aa 8) aO) (ae UQ (aa 8) aO)
section
variable {ends sides:List Nat}{rs:List (Nat×Nat)}{ws:List Int}{kvs:List (Str×PV)}{seed:Int}{U x:Nat}{l9 l10 l11 l12 l13 l14 l15:Option PV}{st:List (Nat×AO)}{nx:Nat}
theorem DT(Z:x<5):∃c,mA (c∈sZ) (da c=97+x) (TJ (bE seed U x l9 l10 l11 l12 l13 l14 l15 st nx)=some (.str (al [c]),bE seed U x l9 l10 l11 l12 l13 l14 l15 st nx)):=by
 match x,Z with
 |0,_=>exact⟨97,by decide,rfl,(kP (aD (ak rfl rfl rfl) rfl)).trans (ak rfl rfl (fK (k:=0) rfl (by decide)))⟩
 |1,_=>exact⟨66,by decide,rfl,(lZ (aD (ak rfl rfl rfl) rfl)).trans (ak rfl rfl (fK (k:=1) rfl (by decide)))⟩
 |2,_=>exact⟨99,by decide,rfl,(kP (aD (ak rfl rfl rfl) rfl)).trans (ak rfl rfl (fK (k:=2) rfl (by decide)))⟩
 |3,_=>exact⟨68,by decide,rfl,(lZ (aD (ak rfl rfl rfl) rfl)).trans (ak rfl rfl (fK (k:=3) rfl (by decide)))⟩
 |4,_=>exact⟨101,by decide,rfl,(kP (aD (ak rfl rfl rfl) rfl)).trans (ak rfl rfl (fK (k:=4) rfl (by decide)))⟩
noncomputable abbrev pO:SR:=ai (dI 274 vj (aa 4) (ac TJ aj)) (am 9)
noncomputable abbrev jR:SR:=di (aq (ae (aa 9) (aK "dict" (aa 6) (ac (ae UQ (aa 8) aO) (ac (bD aj) aj)) pM) mJ)) (ap (bF (bD aj)) ah) ah
noncomputable abbrev pS(P:Params):SR:=ai (aB Bp (ac (iw 100 1 (dj (aa 9)) (am 0) gG (pD P)) aj)) (am 10)
theorem Cf{st:List (Nat×AO)}{i:Nat}{kvs:List (Str×PV)}(h:st.lookup i=some (.dict kvs)):Et st "dict" (.loc i)=true:=by
 show Ld "dict" (st.lookup i)=true;rw [h];rfl
theorem TP(P:Params)(j:J ends sides rs ws kvs st nx)(R:x<5)(G:rs.length<=50)(f:SR):
  ∃Y,ap pO (ap jR (ap (pS P) f)) (bE seed U x l9 l10 l11 l12 l13 l14 l15 st nx)=f (bE seed U x (some (.loc nx)) (some (.int (ew (cu (97+x) (cQ rs))))) l11 l12 l13 l14 l15 Y (nx+3))/\J ends sides rs ws kvs Y (nx+3):=by
 have A:=j.n6;obtain⟨c,B,O,T⟩:=DT (seed:=seed) (U:=U) (l9:=l9) (l10:=l10) (l11:=l11) (l12:=l12) (l13:=l13) (l14:=l14) (l15:=l15) (st:=st) (nx:=nx) R;have E:=wl (σ:=bE seed U x l9 l10 l11 l12 l13 l14 l15 st nx) (i:=4) rfl T j.h2 (by show 2<nx;exact Gj A) B (fun r V=>(j.hr r V).1) G;have Z:bP c rs=cu (97+x) (cQ rs):=by rw [qe,O];rfl
 rw [Z]at E
 have N:pO (bE seed U x l9 l10 l11 l12 l13 l14 l15 st nx)=some (.next,bE seed U x (some (.loc nx)) l10 l11 l12 l13 l14 l15 ((nx,.list (cf (cu (97+x) (cQ rs))))::av st 2 (.list (ay rs))) (nx+1)):=ax E rfl;have S:J ends sides rs ws kvs ((nx,.list (cf (cu (97+x) (cQ rs))))::av st 2 (.list (ay rs))) (nx+1):=j.agree (fun m X=>by
  rw [bg (by exact(fun W=>vq X W))]
  by_cases F:m=2
  .subst F;rw [aM,j.h2]
  .rw [az F]) (by exact(vX))
 have I:((nx,AO.list (cf (cu (97+x) (cQ rs))))::av st 2 (.list (ay rs))).lookup nx=some (.list (cf (cu (97+x) (cQ rs)))):=cx;generalize ((nx,AO.list (cf (cu (97+x) (cQ rs))))::av st 2 (.list (ay rs)))=u1 at N S I
 have H:J ends sides rs ws kvs ((nx+1,.list [])::u1) (nx+2):=S.agree (fun m X=>by rw [bg (by exact(fun W=>bb 0x42100800144210804000422 rfl X W))]) (by exact(aH 0x2080020840010020 rfl));have M:((nx+1,AO.list [])::u1).lookup nx=some (.list (cf (cu (97+x) (cQ rs)))):=by rw [bg (by exact(fun W=>aH 0x210004000a21 rfl W))];exact I
 have C:jR (bE seed U x (some (.loc nx)) l10 l11 l12 l13 l14 l15 u1 (nx+1))=some (.next,bE seed U x (some (.loc nx)) l10 l11 l12 l13 l14 l15 ((nx+1,.list [])::u1) (nx+2)):=by
  obtain⟨i,g1,g2⟩:=J.get (σ:=bE seed U x (some (.loc nx)) l10 l11 l12 l13 l14 l15 ((nx+1,.list [])::u1) (nx+2)) H (Kj R) (d:=nx+1) cx;have X:aK "dict" (aa 6) (ac (ae UQ (aa 8) aO) (ac (bD aj) aj)) pM (bE seed U x (some (.loc nx)) l10 l11 l12 l13 l14 l15 u1 (nx+1))=some (.loc i,bE seed U x (some (.loc nx)) l10 l11 l12 l13 l14 l15 ((nx+1,.list [])::u1) (nx+2)):=
   ca (p:=.loc 4) rfl (Cf S.h4) (aw (ak rfl rfl (fK (DN R) (by decide))) (aw (g:=aj) (p:=.loc (nx+1)) rfl rfl)) g1
  exact(bq (aD (p:=.bool false) (ak rfl X (Cd (fun k Q=>by
   have:∀k∈bP c rs,k∈dL:=uR (p:=fun k=>k∈dL) fun r V=>(j.hr r V).2
   rw [Z]at this
   exact this k Q) M g2)) rfl)).trans rfl
 obtain⟨Y,D,z⟩:=Ow P (σ:=bE seed U x (some (.loc nx)) l10 l11 l12 l13 l14 l15 ((nx+1,.list [])::u1) (nx+2)) (e:=aa 9) (i:=nx) (ks:=cu (97+x) (cQ rs)) rfl M (by show nx<nx+2;exact aH 0x410004000420 rfl) (fun k Q=>by
   have:∀k∈bP c rs,k∈dL:=uR (p:=fun k=>k∈dL) fun r V=>(j.hr r V).2
   rw [Z]at this
   exact this k Q) (by rw [<-Z];exact bJ DD G)
 refine⟨Y,(ad N).trans ((ad C).trans (ad (ax D rfl))),H.agree (fun m X=>z m X) (by exact(aH 0x3080021040010020 rfl))⟩
noncomputable abbrev UK:SR:=ai (lD (aq (ae (ae (aa 1) (aa 8) aO) (ab (.int 1)) jd)) (ab (.int 1)) (cY (ab (.int 1)) im)) (am 11)
noncomputable abbrev UG(P:Params):SR:=ai (bc (ET P) (ac (ae (aa 11) (aa 10) cz) (ac (aa 11) (ac (aa 3) (ac (ae (ae (aa 2) (ab (.int 2700)) de) (aa 3) eu) aj))))) (am 12)
theorem SY(P:Params)(j:J ends sides rs ws kvs st nx)(F:x<5)(N:sides.length=5){h w:Int}(D:h.natAbs<=1000)(W:1<=U)(R:Sm 4300 U)(E:tn (kc (sides.getD x 0)*h) (kc (sides.getD x 0))=some w)(f:SR):
  ap UK (ap (UG P) f) (bE seed U x l9 (some (.int h)) l11 l12 l13 l14 l15 st nx)=f (bE seed U x l9 (some (.int h)) (some (.int (kc (sides.getD x 0)))) (some (.int w)) l13 l14 l15 st nx):=by
 have Y:x<sides.length:=by exact bb 0x40000425084028942000422 rfl F N
 have S:sides.getD x 0=sides[x]:=by rw [gv,fC Y];rfl
 have H:UK (bE seed U x l9 (some (.int h)) l11 l12 l13 l14 l15 st nx)=some (.next,bE seed U x l9 (some (.int h)) (some (.int (kc (sides.getD x 0)))) l12 l13 l14 l15 st nx):=by
  have V:aq (ae (ae (aa 1) (aa 8) aO) (ab (.int 1)) jd) (bE seed U x l9 (some (.int h)) l11 l12 l13 l14 l15 st nx)=some (((sides[x]:Nat):Int)==1,bE seed U x l9 (some (.int h)) l11 l12 l13 l14 l15 st nx):=
   aD (ak (ak rfl rfl (lj (σ:=bE seed U x l9 (some (.int h)) l11 l12 l13 l14 l15 st nx) j.h1 (nE Y) (by rw [cC];exact KU N))) rfl rfl) rfl
  rw [S]
  by_cases O:sides[x]=1
  .rw [O]at V ⊢
   exact ax ((lZ V).trans rfl) rfl
  .have C:Nat.beq sides[x] 1=false:=by rw [kJ];intro q;exact O (ip q)
   rw [show(((sides[x]:Nat):Int)==1)=false by rw [gp];exact fun X=>(eF O).elim (fun T=>aH 0x420004210a4004aa22 rfl X T) (fun T=>aH 0x1084210a4004a822 rfl X T)]at V
   unfold kc;rw [C];exact ax ((kP V).trans rfl) rfl
 have Z:kc (sides.getD x 0)=1\/kc (sides.getD x 0)=-1:=by
  unfold kc;cases Nat.beq (sides.getD x 0) 1
  .exact .inr rfl
  .exact .inl rfl
 generalize kc (sides.getD x 0)=sg at *
 obtain⟨L,M⟩:∃L:Nat,Int.fmod (Int.fdiv seed 2700) (U:Int)=L:=⟨(Int.fmod (Int.fdiv seed 2700) (U:Int)).toNat,by have:=kq (Int.fdiv seed 2700) (show(0:Int)<U by exact aH 0x9005290800108021 rfl W);exact ce (sE (cG (pJ this))) (sM (cG (pJ this)))⟩;have Q:L<U:=by have:=lH (Int.fdiv seed 2700) (show(0:Int)<U by exact aH 0x9005290800108021 rfl W);exact qf 0x10000108409021210012042a22 rfl M this
 have G:(sg*h).natAbs<=1000:=by rcases Z with q|q<;>rw [q]<;>omega
 have A:ae (aa 11) (aa 10) cz (bE seed U x l9 (some (.int h)) (some (.int sg)) l12 l13 l14 l15 st nx)=some (.int (sg*h),bE seed U x l9 (some (.int h)) (some (.int sg)) l12 l13 l14 l15 st nx):=
  ak rfl rfl (nV (em.mono (em.lit (by rcases Z with q|q<;>rw [q]<;>decide)) (by decide)) (em.mono (em.lit (by exact(aH 0x20000500021fa08000021 rfl D))) (by decide)))
 have B:ae (ae (aa 2) (ab (.int 2700)) de) (aa 3) eu (bE seed U x l9 (some (.int h)) (some (.int sg)) l12 l13 l14 l15 st nx)=some (.int (L:Int),bE seed U x l9 (some (.int h)) (some (.int sg)) l12 l13 l14 l15 st nx):=by
  refine ak (ak (r:=some (.int (Int.fdiv seed 2700),bE seed U x l9 (some (.int h)) (some (.int sg)) l12 l13 l14 l15 st nx)) rfl rfl ?_) rfl ?_
  .refine dv (k:=lP) ?_
   rw [jk (by decide) (by decide)]
  .refine dv (k:=yN) ?_
   unfold yN;rw [aC (by exact(fun X=>aH 0x290012a0800108022 rfl W X)),M]
 have I:UG P (bE seed U x l9 (some (.int h)) (some (.int sg)) l12 l13 l14 l15 st nx)=some (.next,bE seed U x l9 (some (.int h)) (some (.int sg)) (some (.int w)) l13 l14 l15 st nx):=
  ax (bp (aw A (aw (g:=ac (aa 3) (ac (ae (ae (aa 2) (ab (.int 2700)) de) (aa 3) eu) aj)) rfl (aw (g:=ac (ae (ae (aa 2) (ab (.int 2700)) de) (aa 3) eu) aj) rfl (aw (g:=aj) B rfl)))) rfl rfl (RE P Z G W R Q E)) rfl
 exact(ad H).trans (ad I)
end
section
variable {ends sides:List Nat}{rs:List (Nat×Nat)}{ws:List Int}{kvs:List (Str×PV)}{seed:Int}{U x:Nat}{l9 l10 l11 l12 l13 l14 l15:Option PV}{st:List (Nat×AO)}{nx:Nat}
noncomputable abbrev Oa:SR:=(ap (di (aq (ae (ae (aa 0) (aa 14) aO) (ae (aa 0) (aa 8) aO) EU)) (ap (ai (ae UQ (aa 14) aO) (am 13)) ah) ah) ah)
theorem oE(j:J ends sides rs ws kvs st nx)(O:x<5)(V:ends.length=5):∀(X:List Nat) (n:Nat) (l14:Option PV),(∀y∈X,y<5)->n∈rZ->
  ∃Z,dZ (am 14) Oa ah (au X) (bE seed U x l9 l10 l11 l12 (some (.str (al [n]))) l14 l15 st nx)=some (.next,bE seed U x l9 l10 l11 l12 (some (.str (al [mM ends (ends.getD x 0) X n]))) Z l15 st nx)/\mM ends (ends.getD x 0) X n∈rZ
 |[],n,l14,_,N=>⟨l14,rfl,N⟩
 |y::X,n,l14,P,N=>by
  have W:=P y (.head _);have S:x<ends.length:=by exact bb 0x40000425084028942000422 rfl O V
  have T:y<ends.length:=by exact bb 0x100425084010942000a22 rfl V W
  have G:ends.getD x 0=ends[x]:=by rw [gv,fC S];rfl
  have H:ends.getD y 0=ends[y]:=by rw [gv,fC T];rfl
  have R:aq (ae (ae (aa 0) (aa 14) aO) (ae (aa 0) (aa 8) aO) EU) (bE seed U x l9 l10 l11 l12 (some (.str (al [n]))) (some (.int (y:Int))) l15 st nx)=some (decide (((ends[x]:Nat):Int)<((ends[y]:Nat):Int)),bE seed U x l9 l10 l11 l12 (some (.str (al [n]))) (some (.int (y:Int))) l15 st nx):=
   aD (ak (ak rfl rfl (lj (σ:=bE seed U x l9 l10 l11 l12 (some (.str (al [n]))) (some (.int (y:Int))) l15 st nx) j.h0 (nE T) (by rw [cC];exact KU V))) (ak rfl rfl (lj (σ:=bE seed U x l9 l10 l11 l12 (some (.str (al [n]))) (some (.int (y:Int))) l15 st nx) j.h0 (nE S) (by rw [cC];exact KU V))) rfl) rfl
  dsimp only [Ea,DX]
  by_cases Y:ends[x]<ends[y]
  .rw [dq (by exact(bb 0x409001290840000421 rfl Y))]at R
   have I:Nat.blt (ends.getD x 0) (ends.getD y 0)=true:=by rw [G,H];exact fX Y
   rw [I,fm];obtain⟨Z,e,M⟩:=oE j O V X (97+y) (some (.int (y:Int))) (fun z Q=>P z (.tail _ Q)) (Kj W);refine⟨Z,(bj (σ₁:=bE seed U x l9 l10 l11 l12 (some (.str (al [n]))) (some (.int (y:Int))) l15 st nx) rfl ?_).trans e,M⟩;exact(ad ((bQ R).trans ((ad (ax (ak rfl rfl (fK (DN W) (by decide))) rfl)).trans rfl))).trans rfl
  .rw [fh (by exact(fun F=>bb 0x409001290840001022 rfl Y F))]at R
   have I:Nat.blt (ends.getD x 0) (ends.getD y 0)=false:=by
    rw [G,H,kJ];intro q;have:ends[x]+1<=ends[y]:=fJ q;exact bb 0x8021000400840001022 rfl Y this
   rw [I,eM];obtain⟨Z,e,M⟩:=oE j O V X n (some (.int (y:Int))) (fun z Q=>P z (.tail _ Q)) N;refine⟨Z,(bj (σ₁:=bE seed U x l9 l10 l11 l12 (some (.str (al [n]))) (some (.int (y:Int))) l15 st nx) rfl ?_).trans e,M⟩;exact(ad (bq R)).trans rfl
noncomputable abbrev UH:SR:=ai (ab (.str (al [122]))) (am 13)
noncomputable abbrev SP:SR:=dD 100 (dj (aB dm (ac (aa 8) aj))) (am 14) Oa ah
theorem UC(j:J ends sides rs ws kvs st nx)(Y:x<5)(T:ends.length=5)(f:SR):
  ∃Z,ap UH (ap SP f) (bE seed U x l9 l10 l11 l12 l13 l14 l15 st nx)=f (bE seed U x l9 l10 l11 l12 (some (.str (al [tC ends x]))) Z l15 st nx)/\tC ends x∈rZ:=by
 obtain⟨Z,e,V⟩:=oE (seed:=seed) (U:=U) (l9:=l9) (l10:=l10) (l11:=l11) (l12:=l12) (l15:=l15) j Y T (List.range' 0 x) 122 l14 (fun y X=>by rw [Gs]at X;exact bb 0xa10802100001104010942000422 rfl Y X.2) (by decide);refine⟨Z,?_,V⟩;have W:aB dm (ac (aa 8) aj) (bE seed U x l9 l10 l11 l12 (some (.str (al [122]))) l14 l15 st nx)=some (.rng 0 (x:Int),bE seed U x l9 l10 l11 l12 (some (.str (al [122]))) l14 l15 st nx):=bN (aw (g:=aj) rfl rfl) rfl;have S:SP (bE seed U x l9 l10 l11 l12 (some (.str (al [122]))) l14 l15 st nx)=some (.next,bE seed U x l9 l10 l11 l12 (some (.str (al [tC ends x]))) Z l15 st nx):=by
  refine(bW (k:=.rng 0 x) (ps:=au (List.range' 0 x)) (jq W ?_) (by show some (pN ((0:Nat):Int) x)=_;rw [ot]) (by rw [cC,List.length_range'];exact aH 0x64200010942000421 rfl Y)).trans e;rw [mT ⟨by exact uZ 0xa7d0900a96a020 rfl,by exact uZ 0xf42402a4014a020 rfl,by exact aH 0x27d0900a96a020 rfl,by exact aH 0x3d0900a9001280942000421 rfl Y⟩,show((x:Int)-0).toNat=x by exact bB (bb 0x400000200a4204b0004a821 rfl (cG (aH 0xa4004b0014a020 rfl))) (bb 0x1000200a4204b0004aa21 rfl (cG (aH 0xa4004b0014a020 rfl)))]
 exact(ad rfl).trans (ad S)
noncomputable abbrev Oi:ER:=ey (ac (lD (aq (ae (ae (aa 8) (aa 2) ba) (ab (.int 2)) eu)) (aK "str" (aa 13) aj uB) (aa 13)) (ac (ae (ae (ab (.str (al [48,95,95]))) (aB FS (ac (ae (aa 12) (ab (.int 128)) ba) aj)) ba) (ab (.str (al [32]))) ba) aj))
theorem Nx{n k:Nat}{w:Int}(N:n∈rZ)(S:k∈dL)(O:w=(k:Int)-128):∃c,mA (c∈sZ) (da c=n) (Oi (bE seed U x l9 l10 l11 (some (.int w)) (some (.str (al [n]))) l14 l15 st nx)=some (dx (c,k),bE seed U x l9 l10 l11 (some (.int w)) (some (.str (al [n]))) l14 l15 st nx)):=by
 obtain⟨D,E,F,G,H,I⟩:=JR N;have V:=qX S;have M:=yU k S;have R:=uH k;have B:ae (aa 12) (ab (.int 128)) ba (bE seed U x l9 l10 l11 (some (.int w)) (some (.str (al [n]))) l14 l15 st nx)=some (.int (k:Int),bE seed U x l9 l10 l11 (some (.int w)) (some (.str (al [n]))) l14 l15 st nx):=by
  refine ak rfl rfl ?_
  show some (PV.int (w+128),_)=_;rw [O,show(k:Int)-128+128=k by exact ce (aH 0x920089200890012c12020 rfl) (aH 0x10044900448009608004a020 rfl)]
 have C:aB FS (ac (ae (aa 12) (ab (.int 128)) ba) aj) (bE seed U x l9 l10 l11 (some (.int w)) (some (.str (al [n]))) l14 l15 st nx)=some (.str (al (wk k)),bE seed U x l9 l10 l11 (some (.int w)) (some (.str (al [n]))) l14 l15 st nx):=by
  refine bN (aw (g:=aj) B rfl) ?_
  have T:((k:Nat):Int).natAbs<2^1000:=by
   have:(208:Nat)<2^1000:=by decide
   omega
  show(if((k:Nat):Int).natAbs<2^1000 then some (PV.str (Str.ofString (toString ((k:Nat):Int))),_)else none)=_;rw [aC T,V.ts]
 have P:ae (ae (ab (.str (al [48,95,95]))) (aB FS (ac (ae (aa 12) (ab (.int 128)) ba) aj)) ba) (ab (.str (al [32]))) ba (bE seed U x l9 l10 l11 (some (.int w)) (some (.str (al [n]))) l14 l15 st nx)=some (.str (al (bV k)),bE seed U x l9 l10 l11 (some (.int w)) (some (.str (al [n]))) l14 l15 st nx):=
  ak (ak rfl C (add_str (x:=[48,95,95]) (y:=wk k) (by simp;exact R.elim (fun Y=>aH 0x3e81400184400842000821 rfl Y) (fun Y=>Y.elim (fun Z=>aH 0x3e81400184400882000821 rfl Z) (fun Z=>aH 0x3e814001844008c2000821 rfl Z))))) rfl (add_str (x:=[48,95,95]++wk k) (y:=[32]) (by simp;exact R.elim (fun Y=>aH 0x7cc280000842000821 rfl Y) (fun Y=>Y.elim (fun Z=>aH 0x7cc280000882000821 rfl Z) (fun Z=>aH 0x7cc2800008c2000821 rfl Z))))
 have X:aq (ae (ae (aa 8) (aa 2) ba) (ab (.int 2)) eu) (bE seed U x l9 l10 l11 (some (.int w)) (some (.str (al [n]))) l14 l15 st nx)=some (Int.fmod ((x:Int)+seed) 2 != 0,bE seed U x l9 l10 l11 (some (.int w)) (some (.str (al [n]))) l14 l15 st nx):=
  aD (ak (ak rfl rfl rfl) rfl rfl) rfl
 cases Q:(Int.fmod ((x:Int)+seed) 2 != 0)with
 |true=>
  rw [Q]at X
  have W:aK "str" (aa 13) aj uB (bE seed U x l9 l10 l11 (some (.int w)) (some (.str (al [n]))) l14 l15 st nx)=some (.str (al [n-32]),bE seed U x l9 l10 l11 (some (.int w)) (some (.str (al [n]))) l14 l15 st nx):=by
   refine ca (p:=.str (al [n])) (ps:=[]) rfl jB rfl ?_
   show(if Aw (Txt.upper (al [n]))=false then some (PV.str (Txt.upper (al [n])),_)else none)=_;rw [D,aC E]
  exact⟨n-32,F,H,fN (aw ((lZ X).trans W) (aw (g:=aj) P rfl)) (show 2<=2^20 by decide)⟩
 |false=>
  rw [Q]at X
  exact⟨n,G,I,fN (aw ((kP X).trans rfl) (aw (g:=aj) P rfl)) (show 2<=2^20 by decide)⟩
noncomputable abbrev RG:SR:=ai Oi (am 15)
noncomputable abbrev RF:SR:=di (aq (ae (dI 274 AH (aa 4) (ac (ae (aa 15) (ab (.int 0)) aO) (ac (ae (aa 15) (ab (.int 1)) aO) aj))) (ab .none) cK)) (ap (bF (bD aj)) ah) ah
noncomputable abbrev Fl:SR:=bC (aK "list" (aa 5) (ac (aa 15) aj) aQ)
noncomputable abbrev Es:SR:=ai (ae (aK "dict" (aa 6) (ac (aa 13) (ac (bD aj) aj)) pM) (bD (ac (ae (aa 15) (ab (.int 1)) aO) aj)) ba) (yq (aa 6) (aa 13))
noncomputable abbrev EM:SR:=bC (aK "list" (aa 7) (ac (aa 12) aj) aQ)
theorem J.gotlen{ends sides:List Nat}{rs:List (Nat×Nat)}{ws:List Int}{kvs:List (Str×PV)}{st:List (Nat×AO)}{nx:Nat}(j:J ends sides rs ws kvs st nx){c:Nat}(Z:c∈rZ):(cu c (cQ rs)).length<=rs.length:=by
 have:=DD (rs:=rs) (c:=c);rw [qe,(JR Z).ll]at this
 exact this
theorem SX(j:J ends sides rs ws kvs st nx)(C:rs.length<=40)(t:ws.length<=50){n k:Nat}{w:Int}(o:n∈rZ)(b:k∈dL)(hw:w=(k:Int)-128)(f:SR):
  Vg fun c M I Q N=>mA (ap RG (ap RF (ap Fl (ap Es (ap EM f)))) (bE seed U x l9 l10 l11 (some (.int w)) (some (.str (al [n]))) l14 l15 st nx)=f (bE seed U x l9 l10 l11 (some (.int w)) (some (.str (al [n]))) l14 M Q N)) (da c=n) (J ends sides (rs++[(c,k)]) (ws++[w]) I Q N):=by
 have Y:=j.n6;obtain⟨c,hc,F,hp⟩:=Nx (seed:=seed) (U:=U) (x:=x) (l9:=l9) (l10:=l10) (l11:=l11) (l14:=l14) (l15:=l15) (st:=st) (nx:=nx) o b hw;have s8:RG (bE seed U x l9 l10 l11 (some (.int w)) (some (.str (al [n]))) l14 l15 st nx)=some (.next,bE seed U x l9 l10 l11 (some (.int w)) (some (.str (al [n]))) l14 (some (dx (c,k))) st nx):=ax hp rfl;have e9:=GX (σ:=bE seed U x l9 l10 l11 (some (.int w)) (some (.str (al [n]))) l14 (some (dx (c,k))) st nx) (i:=4) (c:=c) (k:=k) (e1:=ae (aa 15) (ab (.int 0)) aO) (e2:=ae (aa 15) (ab (.int 1)) aO) (rs:=rs) rfl rfl rfl j.h2 (by show 2<nx;exact Gj Y) hc b (by exact(aH 0x644000010a08000021 rfl C));have s9:RF (bE seed U x l9 l10 l11 (some (.int w)) (some (.str (al [n]))) l14 (some (dx (c,k))) st nx)=some (.next,bE seed U x l9 l10 l11 (some (.int w)) (some (.str (al [n]))) l14 (some (dx (c,k))) (av st 2 (.list (ay (rs++[(c,k)])))) nx):=
  (bq (aD (p:=.bool false) (ak e9 rfl rfl) rfl)).trans rfl
 have g3:(av st 2 (.list (ay (rs++[(c,k)])))).lookup 3=some (.list (ay rs)):=by rw [az (by decide)];exact j.h3
 have O:Fl (bE seed U x l9 l10 l11 (some (.int w)) (some (.str (al [n]))) l14 (some (dx (c,k))) (av st 2 (.list (ay (rs++[(c,k)])))) nx)=some (.next,bE seed U x l9 l10 l11 (some (.int w)) (some (.str (al [n]))) l14 (some (dx (c,k))) (av (av st 2 (.list (ay (rs++[(c,k)])))) 3 (.list (ay (rs++[(c,k)])))) nx):=by
  have:=cb (a:=5) (i:=3) (e:=aa 15) (σ:=bE seed U x l9 l10 l11 (some (.int w)) (some (.str (al [n]))) l14 (some (dx (c,k))) (av st 2 (.list (ay (rs++[(c,k)])))) nx) (p:=dx (c,k)) rfl g3 rfl g3 (by rw [ln];exact aH 0x1e84805000010a08000021 rfl C);rw [qY]at this
  exact this
 have q:∀m,m≠2->m≠3->(av (av st 2 (.list (ay (rs++[(c,k)])))) 3 (.list (ay (rs++[(c,k)])))).lookup m=st.lookup m:=fun m h2 h3=>by rw [az h3,az h2]
 have q2:(av (av st 2 (.list (ay (rs++[(c,k)])))) 3 (.list (ay (rs++[(c,k)])))).lookup 2=some (.list (ay (rs++[(c,k)]))):=by rw [az (by decide),aM]
 have q3:(av (av st 2 (.list (ay (rs++[(c,k)])))) 3 (.list (ay (rs++[(c,k)])))).lookup 3=some (.list (ay (rs++[(c,k)]))):=aM;generalize av (av st 2 (.list (ay (rs++[(c,k)])))) 3 (.list (ay (rs++[(c,k)])))=u at q q2 q3 O
 have G:∃i,mA (aK "dict" (aa 6) (ac (aa 13) (ac (bD aj) aj)) pM (bE seed U x l9 l10 l11 (some (.int w)) (some (.str (al [n]))) l14 (some (dx (c,k))) u nx)=some (.loc i,bE seed U x l9 l10 l11 (some (.int w)) (some (.str (al [n]))) l14 (some (dx (c,k))) ((nx,.list [])::u) (nx+1))) (i≠nx+1) (((nx,.list [])::u).lookup i=some (.list (cf (cu n (cQ rs))))):=by
  have S:u.lookup 4=some (.dict kvs):=by rw [q 4 (by decide) (by decide)];exact j.h4
  have z2:((nx,AO.list [])::u).lookup 4=some (.dict kvs):=by rw [bg (by exact(fun Z=>aH 0x10228800608022 rfl Y Z))];exact S
  have hg:pM [.loc 4,.str (al [n]),.loc nx] (bE seed U x l9 l10 l11 (some (.int w)) (some (.str (al [n]))) l14 (some (dx (c,k))) ((nx,.list [])::u) (nx+1))=some ((kvs.lookup (al [n])).getD (.loc nx),bE seed U x l9 l10 l11 (some (.int w)) (some (.str (al [n]))) l14 (some (dx (c,k))) ((nx,.list [])::u) (nx+1)):=by
   exact zl z2
  have W:aK "dict" (aa 6) (ac (aa 13) (ac (bD aj) aj)) pM (bE seed U x l9 l10 l11 (some (.int w)) (some (.str (al [n]))) l14 (some (dx (c,k))) u nx)=some ((kvs.lookup (al [n])).getD (.loc nx),bE seed U x l9 l10 l11 (some (.int w)) (some (.str (al [n]))) l14 (some (dx (c,k))) ((nx,.list [])::u) (nx+1)):=
   ca (p:=.loc 4) rfl (Cf S) (aw rfl (aw (g:=aj) (p:=.loc nx) rfl rfl)) hg
  rcases j.hu n o with⟨i,R,X,D,e4⟩|⟨R,X⟩
  .refine⟨i,by rw [W,R];rfl,by exact fun Z=>bb 0x8420100028840000422 rfl D Z,?_⟩
   rw [bg (by exact(fun Z=>vq D Z)),q i (by exact(fun Z=>aH 0x2080020800608022 rfl X Z)) (by exact(fun Z=>aH 0x3080020800608022 rfl X Z))];exact e4
  .refine⟨nx,by rw [W,R];rfl,by exact fun Z=>aH 0x210004000a21 rfl Z,?_⟩
   rw [cx,X];rfl
 obtain⟨i,W,z0,hi⟩:=G;have V:bD (ac (ae (aa 15) (ab (.int 1)) aO) aj) (bE seed U x l9 l10 l11 (some (.int w)) (some (.str (al [n]))) l14 (some (dx (c,k))) ((nx,.list [])::u) (nx+1))=some (.loc (nx+1),bE seed U x l9 l10 l11 (some (.int w)) (some (.str (al [n]))) l14 (some (dx (c,k))) ((nx+1,.list (cf [k]))::(nx,.list [])::u) (nx+2)):=
by
  have z3:ae (aa 15) (ab (.int 1)) aO (bE seed U x l9 l10 l11 (some (.int w)) (some (.str (al [n]))) l14 (some (dx (c,k))) ((nx,.list [])::u) (nx+1))=some (.str (al (bV k)),bE seed U x l9 l10 l11 (some (.int w)) (some (.str (al [n]))) l14 (some (dx (c,k))) ((nx,.list [])::u) (nx+1)):=rfl;exact qg (aw (g:=aj) z3 rfl) (show 1<=2^20 by decide)
 have z1:=j.gotlen o;have E:ba (.loc i) (.loc (nx+1)) (bE seed U x l9 l10 l11 (some (.int w)) (some (.str (al [n]))) l14 (some (dx (c,k))) ((nx+1,.list (cf [k]))::(nx,.list [])::u) (nx+2))=some (.loc (nx+2),bE seed U x l9 l10 l11 (some (.int w)) (some (.str (al [n]))) l14 (some (dx (c,k))) ((nx+2,.list (cf (cu n (cQ rs)++[k])))::(nx+1,.list (cf [k]))::(nx,.list [])::u) (nx+3)):=by
  have a1:((nx+1,AO.list (cf [k]))::(nx,.list [])::u).lookup i=some (.list (cf (cu n (cQ rs)))):=by rw [bg z0];exact hi
  have a2:((nx+1,AO.list (cf [k]))::(nx,.list [])::u).lookup (nx+1)=some (.list (cf [k])):=cx;refine(tB a1 a2 (by rw [qv,qv];simp only [cm,fG];exact bb 0x400000c10840200400080010a08000022 rfl C z1)).trans ?_
  rw [show cf (cu n (cQ rs))++cf [k]=cf (cu n (cQ rs)++[k])by simp [cf,aE]]
 have v4:((nx+2,AO.list (cf (cu n (cQ rs)++[k])))::(nx+1,.list (cf [k]))::(nx,.list [])::u).lookup 4=some (.dict kvs):=by
  rw [bg (by exact(fun Z=>aH 0x10400110228800608022 rfl Y Z)),bg (by exact(fun Z=>aH 0x8400110228800608022 rfl Y Z)),bg (by exact(fun Z=>aH 0x10228800608022 rfl Y Z)),q 4 (by decide) (by decide)];exact j.h4
 have H:bt (.loc 4) (.str (al [n])) (.loc (nx+2)) (bE seed U x l9 l10 l11 (some (.int w)) (some (.str (al [n]))) l14 (some (dx (c,k))) ((nx+2,.list (cf (cu n (cQ rs)++[k])))::(nx+1,.list (cf [k]))::(nx,.list [])::u) (nx+3))
   = some (bE seed U x l9 l10 l11 (some (.int w)) (some (.str (al [n]))) l14 (some (dx (c,k))) (av ((nx+2,.list (cf (cu n (cQ rs)++[k])))::(nx+1,.list (cf [k]))::(nx,.list [])::u) 4 (.dict (bt.stored' kvs (al [n]) (.loc (nx+2))))) (nx+3)):=by
  have l:=j.hk;have d:kvs.length<=2^20:=by exact bb 0x80000182000400080010a08000022 rfl C l
  exact Hr v4 d
 have P:Es (bE seed U x l9 l10 l11 (some (.int w)) (some (.str (al [n]))) l14 (some (dx (c,k))) u nx)=some (.next,bE seed U x l9 l10 l11 (some (.int w)) (some (.str (al [n]))) l14 (some (dx (c,k))) (av ((nx+2,.list (cf (cu n (cQ rs)++[k])))::(nx+1,.list (cf [k]))::(nx,.list [])::u) 4 (.dict (bt.stored' kvs (al [n]) (.loc (nx+2))))) (nx+3)):=
  ax (ak W V E) (xI rfl rfl H)
 have w4:(av ((nx+2,AO.list (cf (cu n (cQ rs)++[k])))::(nx+1,.list (cf [k]))::(nx,.list [])::u) 4 (.dict (bt.stored' kvs (al [n]) (.loc (nx+2))))).lookup 4=some (.dict (bt.stored' kvs (al [n]) (.loc (nx+2)))):=aM;have wq:(av ((nx+2,AO.list (cf (cu n (cQ rs)++[k])))::(nx+1,.list (cf [k]))::(nx,.list [])::u) 4 (.dict (bt.stored' kvs (al [n]) (.loc (nx+2))))).lookup (nx+2)=some (.list (cf (cu n (cQ rs)++[k]))):=by rw [az (by exact(fun Z=>aH 0x20441000420800608022 rfl Y Z))];exact cx
 have B:∀m,m<nx->m≠4->(av ((nx+2,AO.list (cf (cu n (cQ rs)++[k])))::(nx+1,.list (cf [k]))::(nx,.list [])::u) 4 (.dict (bt.stored' kvs (al [n]) (.loc (nx+2))))).lookup m=u.lookup m:=fun m W S=>by
  rw [az S,bg (by exact(fun Z=>bb 0x10420100028840000422 rfl W Z)),bg (by exact(fun Z=>bb 0x8420100028840000422 rfl W Z)),bg (by exact(fun Z=>vq W Z))]
 generalize av ((nx+2,AO.list (cf (cu n (cQ rs)++[k])))::(nx+1,.list (cf [k]))::(nx,.list [])::u) 4 (.dict (bt.stored' kvs (al [n]) (.loc (nx+2))))=v at P w4 wq B
 have g5:v.lookup 5=some (.list (ws.map .int)):=by rw [B 5 (by exact(aH 0x14210800608021 rfl Y)) (by decide),q 5 (by decide) (by decide)];exact j.h5
 have A:EM (bE seed U x l9 l10 l11 (some (.int w)) (some (.str (al [n]))) l14 (some (dx (c,k))) v (nx+3))=some (.next,bE seed U x l9 l10 l11 (some (.int w)) (some (.str (al [n]))) l14 (some (dx (c,k))) (av v 5 (.list ((ws++[w]).map .int))) (nx+3)):=by
  have:=cb (a:=7) (i:=5) (e:=aa 12) (σ:=bE seed U x l9 l10 l11 (some (.int w)) (some (.str (al [n]))) l14 (some (dx (c,k))) v (nx+3)) (p:=.int w) rfl g5 rfl g5 (by rw [cW];exact aH 0x1e84805000010c88000021 rfl t);rw [show ws.map PV.int++[.int w]=(ws++[w]).map PV.int by simp]at this
  exact this
 refine⟨c,some (dx (c,k)),bt.stored' kvs (al [n]) (.loc (nx+2)),av v 5 (.list ((ws++[w]).map .int)),nx+3,(ad s8).trans ((ad s9).trans ((ad O).trans ((ad P).trans (ad A)))),F,?_⟩;have z:∀m,m<nx->m≠4->m≠5->(av v 5 (.list ((ws++[w]).map .int))).lookup m=u.lookup m:=fun m W S h5=>by rw [az h5,B m W S]
 refine⟨by exact aH 0x18400118200800608021 rfl Y,?_,?_,?_,?_,?_,aM,fun a ha=>?_,?_,?_⟩
 .rw [z 0 (by exact(aH 0x210800608021 rfl Y)) (by decide) (by decide),q 0 (by decide) (by decide)];exact j.h0
 .rw [z 1 (by exact(aH 0x4210800608021 rfl Y)) (by decide) (by decide),q 1 (by decide) (by decide)];exact j.h1
 .rw [z 2 (by exact(Gj Y)) (by decide) (by decide)];exact q2
 .rw [z 3 (by exact(aH 0xc210800608021 rfl Y)) (by decide) (by decide)];exact q3
 .rw [az (by decide)];exact w4
 .rw [tJ,Eh]
  show _\/(_/\cu a (cQ rs)++cond (Nat.beq (da c) a) [k] []=[]);rw [show(da (c,k).1,(c,k).2).1=da c from rfl,show(da (c,k).1,(c,k).2).2=k from rfl,F]
  by_cases T:a=n
  .subst T
   refine .inl ⟨nx+2,mx,by exact aH 0x10400118200800608021 rfl Y,by exact aH 0x3080021040010420 rfl,?_⟩;rw [uu,fm,az (by exact(fun Z=>aH 0x28441000420800608022 rfl Y Z))];exact wq
  .have hb:Nat.beq n a=false:=by rw [kJ];intro q;exact T (ip q).symm
   have s:al [a]≠al [n]:=fun e=>T (by have:=Db.mp e;injection this)
   rw [hb,eM,lT,oQ s];rcases j.hu a ha with⟨y,R,X,D,e4⟩|e
   .exact .inl ⟨y,R,X,by exact bb 0x18420100010840000421 rfl D,by rw [z y D (by exact(fun Z=>aH 0x4080020800608022 rfl X Z)) (by exact(fun Z=>aH 0x5080020800608022 rfl X Z)),q y (by exact(fun Z=>aH 0x2080020800608022 rfl X Z)) (by exact(fun Z=>aH 0x3080020800608022 rfl X Z))];exact e4⟩
   .exact .inr e
 .have:=Av kvs (al [n]) (.loc (nx+2))
  have:=j.hk;rw [df];simp only [cm,fG];omega
 .intro r hr
  rcases kQ.mp hr with h|h
  .exact j.hr r h
  .rw [cJ.mp h];exact⟨hc,b⟩
end
noncomputable abbrev Nz(P:Params):SR:=ap pO (ap jR (ap (pS P) (ap UK (ap (UG P) (ap UH (ap SP (ap RG (ap RF (ap Fl (ap Es (ap EM ah)))))))))))
noncomputable abbrev iC(Z:Int)(U:Nat)(P Q S T V W X Y:Option PV)(st:List (Nat×AO))(R:Nat):AS:=⟨[cL 0,cL 1,cI Z,cI (U:Int),some (.hdr 274 2),cL 3,cL 4,cL 5,P,Q,S,T,V,W,X,Y],st,R⟩
section
variable {ends sides:List Nat}{seed:Int}{U:Nat}
theorem Dm(P:Params)(he:ends.length=5)(hs:sides.length=5)(hU:1<=U)(n:Sm 4300 U):∀(C:List Nat) (Q:List (Nat×Nat)) (B:List Int) (D:List (Str×PV)) (N:List (Nat×Nat)) (R:List Int) (m G T W V X Y Z:Option PV) (st:List (Nat×AO)) (H:Nat),(∀x∈C,x<5)->Q.length+C.length<=20->B.length+C.length<=20->
  J ends sides Q B D st H->xM ends sides C (cQ Q) B=some (N,R)->
  Sg fun O I g i p q r s S M F E=>Ml (dZ (am 8) (Nz P) ah (au C) (iC seed U m G T W V X Y Z st H)=some (.next,iC seed U g i p q r s S M F E)) (J ends sides O R I F E) (cQ O=N) (O.length<=20) (R.length<=20)
 |[],Q,B,D,N,R,m,G,T,W,V,X,Y,Z,st,H,_,v,o,j,h=>by
  cases h;exact⟨Q,D,m,G,T,W,V,X,Y,Z,st,H,rfl,j,rfl,by simpa using v,by simpa using o⟩
 |x::C,Q,B,D,N,R,m,G,T,W,V,X,Y,Z,st,H,hx,v,o,j,h=>by
  have z:=hx x (.head _);simp only [cm]at v o
  dsimp only [NM,Ll]at h
  cases d:tn (kc (sides.getD x 0)*ew (cu (97+x) (cQ Q))) (kc (sides.getD x 0))with
  |none=>rw [d]at h;exact aW h
  |some w=>
   rw [d]at h
   dsimp only at h
   cases l:(Nat.ble (ew (cu (97+x) (cQ Q))).natAbs 1000&&rU (lE w) dL&&decide (w=(lE w:Int)-128))with
   |false=>rw [l]at h;exact aW h
   |true=>
    rw [l,fm]at h
    simp only [cR,gJ]at l
    obtain⟨⟨c1,c2⟩,c3⟩:=l;have c1:=fJ c1;have c2:=kA c2;obtain⟨k,eA,f⟩:=TP (seed:=seed) (U:=U) (l9:=G) (l10:=T) (l11:=W) (l12:=V) (l13:=X) (l14:=Y) (l15:=Z) P j z (by exact(bb 0xc88000034084210080010021 rfl v)) (ap UK (ap (UG P) (ap UH (ap SP (ap RG (ap RF (ap Fl (ap Es (ap EM ah)))))))));have eB:=SY (seed:=seed) (l9:=some (.loc H)) (l11:=W) (l12:=V) (l13:=X) (l14:=Y) (l15:=Z) P f z hs c1 hU n d (ap UH (ap SP (ap RG (ap RF (ap Fl (ap Es (ap EM ah)))))));obtain⟨S,eC,hn⟩:=UC (seed:=seed) (U:=U) (l9:=some (.loc H)) (l10:=some (.int (ew (cu (97+x) (cQ Q))))) (l11:=some (.int (kc (sides.getD x 0)))) (l12:=some (.int w)) (l13:=X) (l14:=Y) (l15:=Z) f z he (ap RG (ap RF (ap Fl (ap Es (ap EM ah)))));obtain⟨c,M,I,F,E,eD,z1,jD⟩:=SX (seed:=seed) (U:=U) (x:=x) (l9:=some (.loc H)) (l10:=some (.int (ew (cu (97+x) (cQ Q))))) (l11:=some (.int (kc (sides.getD x 0)))) (l14:=S) (l15:=Z) f (by exact(bb 0xa08000034084210080010021 rfl v)) (by exact(bb 0xc88000034084210080010021 rfl o)) hn c2 c3 ah;obtain⟨O,A,a8,a9,z7,z6,z5,z4,z3,z2,u,t,e,jj,b,z0,a⟩:=Dm P he hs hU n C (Q++[(c,lE w)]) (B++[w]) I N R (some (.int (x:Int))) (some (.loc H)) (some (.int (ew (cu (97+x) (cQ Q))))) (some (.int (kc (sides.getD x 0)))) (some (.int w)) (some (.str (al [tC ends x]))) S M F E (fun y hy=>hx y (.tail _ hy)) (by rw [df];simp only [cm,fG];exact KY v) (by rw [df];simp only [cm,fG];exact KY o) jD (by rw [tJ];show xM ends sides C (cQ Q++[(da c,lE w)]) (B++[w])=_;rw [z1];exact h);refine⟨O,A,a8,a9,z7,z6,z5,z4,z3,z2,u,t,(bj (σ₁:=bE seed U x G T W V X Y Z st H) rfl (eA.trans (eB.trans (eC.trans (eD.trans rfl))))).trans e,jj,b,z0,a⟩
end
noncomputable def Fd(P:Params):bO:=cB Dv yc wz (fun _=>[]) [] (fun n=>yQ vj (RI P) (ET P) AH sI 100 n)
theorem Nm(a b:AO)(c:PV):dw Dv yc wz ([.loc 0,.loc 1,c]++[]) ([a,b]++[])=⟨[cL 0,cL 1,some c,none,none,none,none,none,none,none,none,none,none,none,none,none],[(0,a),(1,b)],2⟩:=by left
theorem LH:Sm 4300 (3^2700):=by unfold Sm;decide +kernel
theorem Qr{σ:AS}{i:Nat}{Z:List PV}(h:σ.st.lookup i=some (.list Z))(Y:Z.length<=2^20):gz [.loc i] σ=some (.none,{σ with st:=av σ.st i (.list Z.reverse)}):=by show zJ i _ σ=_;rw [mi h Y]
theorem TM:Str.ofString "z"=al [122]:=by left
theorem Tg:Str.ofString "Z"=al [90]:=by left
theorem Ut:Str.ofString "0__"=al [48,95,95]:=by left
theorem Pq:Str.ofString " "=al [32]:=by left
theorem J.zat{Y Z:List Nat}{X:List (Nat×Nat)}{T:List Int}{W:List (Str×PV)}{σ:AS}(j:J Y Z X T W σ.st σ.nx){k:Nat}{S:List Nat}(R:cu 122 (cQ X)=k::S):
  ∃i,mA (i<σ.nx) (aO (.loc 4) (.str (al [122])) σ=some (.loc i,σ)) (σ.st.lookup i=some (.list (cf (cu 122 (cQ X))))):=by
 rcases j.hu 122 (by decide)with⟨i,U,V,P,Q⟩|⟨U,V⟩
 .refine⟨i,P,?_,Q⟩
  exact IU j.h4 U
 .rw [R]at V;exact KC V
theorem KQ(P:Params){W X:List Nat}{seed:Int}{U:Nat}{Z:List (Nat×Nat)}{V:List Int}{T:List (Str×PV)}{l8 l9 l10 l11 l12 l13 l14 l15:Option PV}{st:List (Nat×AO)}{Y:Nat}(j:J W X Z V T st Y)(E:Z.length<=20)(G:V.length<=20){k:Nat}{ks:List Nat}(b:cu 122 (cQ Z)=k::ks):
  ∃R,sR ((ap (bC (aK "list" (dI 274 sI (aa 4) aj) (ac (ey (ac (ab (.str (al [122]))) (ac (ab (.str (al []))) aj))) aj) aQ))
 (ap (di (iy (aq (ae (dI 274 sI (aa 4) aj) (aa 5) mJ)) (iy (aq (ae (dI 274 vj (aa 4) (ac (ab (.str (al [90]))) aj)) (ae (aa 6) (ab (.str (al [122]))) aO) mJ)) ir)) (ap (bF (bD aj))
 ah) ah)
 (ap (bC (aK "list" (aa 7) aj gz))
 (ap (bC (aK "list" (aa 7) (ac (aB Bp (ac (iw 100 1 (dj (ae (aa 6) (ab (.str (al [122]))) aO)) (am 0) gG (pD P)) aj)) aj) aQ))
 (ap (bF (aa 7))
 ah))))) (iC seed U l8 l9 l10 l11 l12 l13 l14 l15 st Y)=some (.ret (.loc 5),R)) (R.st.lookup 0=some (.list (au W))) (R.st.lookup 1=some (.list (au X))) (R.st.lookup 5=some (.list ((V.reverse++[ew (cu 122 (cQ Z))]).map .int))):=by
 have n:=j.n6;have O:∀k∈cu 122 (cQ Z),k∈dL:=fun a ha=>by
  have:∀k∈bP 122 Z,k∈dL:=uR (p:=fun k=>k∈dL) fun r t=>(j.hr r t).2
  rw [qe]at this
  exact this a ha
 have l:=rA (σ:=iC seed U l8 l9 l10 l11 l12 l13 l14 l15 st Y) (i:=4) (rs:=Z) rfl j.h2 (by show 2<Y;exact Gj n) (by exact(aH 0x32200000d02000021 rfl E));have h:bC (aK "list" (dI 274 sI (aa 4) aj) (ac (ey (ac (ab (.str (al [122]))) (ac (ab (.str (al []))) aj))) aj) aQ) (iC seed U l8 l9 l10 l11 l12 l13 l14 l15 st Y)
   = some (.next,iC seed U l8 l9 l10 l11 l12 l13 l14 l15 (av ((Y,.list (ay Z))::av st 2 (.list (ay Z))) Y (.list (ay Z++[.tup [.str (al [122]),.str (al [])]]))) (Y+1)):=by
  have ht:((Y,AO.list (ay Z))::av st 2 (.list (ay Z))).lookup Y=some (.list (ay Z)):=cx;exact fV (ca l (gK ht) (aw (g:=aj) (fN (ps:=[.str (al [122]),.str (al [])]) rfl (show 2<=2^20 by decide)) rfl) (eH (σ:=iC seed U l8 l9 l10 l11 l12 l13 l14 l15 ((Y,.list (ay Z))::av st 2 (.list (ay Z))) (Y+1)) ht (by rw [ln];exact aH 0x100000300000d02000021 rfl E)))
 have w:J W X Z V T (av ((Y,.list (ay Z))::av st 2 (.list (ay Z))) Y (.list (ay Z++[.tup [.str (al [122]),.str (al [])]]))) (Y+1):=j.agree (fun m N=>by
  rw [az (by exact(fun Q=>vq N Q)),bg (by exact(fun Q=>vq N Q))]
  by_cases M:m=2
  .subst M;rw [aM,j.h2]
  .rw [az M]) (by exact(vX))
 generalize av ((Y,AO.list (ay Z))::av st 2 (.list (ay Z))) Y (.list (ay Z++[.tup [.str (al [122]),.str (al [])]]))=u1 at h w
 have y:=rA (σ:=iC seed U l8 l9 l10 l11 l12 l13 l14 l15 u1 (Y+1)) (i:=4) (rs:=Z) rfl w.h2 (by show 2<Y+1;exact aH 0x8400108210800608021 rfl n) (by exact(aH 0x32200000d02000021 rfl E));have H:J W X Z V T ((Y+1,.list (ay Z))::av u1 2 (.list (ay Z))) (Y+2):=w.agree (fun m N=>by
  rw [bg (by exact(fun Q=>bb 0x42100800144210804000422 rfl N Q))]
  by_cases M:m=2
  .subst M;rw [aM,w.h2]
  .rw [az M]) (by exact(aH 0x2080020840010020 rfl))
 have d:((Y+1,AO.list (ay Z))::av u1 2 (.list (ay Z))).lookup (Y+1)=some (.list (ay Z)):=cx;generalize ((Y+1,AO.list (ay Z))::av u1 2 (.list (ay Z)))=u2 at y H d
 have b2:aq (ae (dI 274 sI (aa 4) aj) (aa 5) mJ) (iC seed U l8 l9 l10 l11 l12 l13 l14 l15 u1 (Y+1))=some (false,iC seed U l8 l9 l10 l11 l12 l13 l14 l15 u2 (Y+2)):=
  aD (p:=.bool false) (ak y rfl (KT j.hr d H.h3)) rfl
 have z:=wl (σ:=iC seed U l8 l9 l10 l11 l12 l13 l14 l15 u2 (Y+2)) (i:=4) (c:=90) (e:=ab (.str (al [90]))) (rs:=Z) rfl rfl H.h2 (by show 2<Y+2;exact aH 0x10400108210800608021 rfl n) (by decide) (fun r t=>(j.hr r t).1) (by exact(aH 0x32200000d02000021 rfl E));have A:bP 90 Z=cu 122 (cQ Z):=qe;rw [A]at z
 have S:J W X Z V T ((Y+2,.list (cf (cu 122 (cQ Z))))::av u2 2 (.list (ay Z))) (Y+3):=H.agree (fun m N=>by
  rw [bg (by exact(fun Q=>bb 0x82100800144410804000422 rfl N Q))]
  by_cases M:m=2
  .subst M;rw [aM,H.h2]
  .rw [az M]) (by exact(aH 0x3080021040010020 rfl))
 have f:((Y+2,AO.list (cf (cu 122 (cQ Z))))::av u2 2 (.list (ay Z))).lookup (Y+2)=some (.list (cf (cu 122 (cQ Z)))):=cx;generalize ((Y+2,AO.list (cf (cu 122 (cQ Z))))::av u2 2 (.list (ay Z)))=u3 at z S f
 obtain⟨i,z0,q,s⟩:=J.zat (σ:=iC seed U l8 l9 l10 l11 l12 l13 l14 l15 u3 (Y+3)) S b;have b3:aq (ae (dI 274 vj (aa 4) (ac (ab (.str (al [90]))) aj)) (ae (aa 6) (ab (.str (al [122]))) aO) mJ) (iC seed U l8 l9 l10 l11 l12 l13 l14 l15 u2 (Y+2))=some (false,iC seed U l8 l9 l10 l11 l12 l13 l14 l15 u3 (Y+3)):=
  aD (p:=.bool false) (ak z (ak rfl rfl q) (Cd O f s)) rfl
 have v:bC (aK "list" (aa 7) aj gz) (iC seed U l8 l9 l10 l11 l12 l13 l14 l15 u3 (Y+3))=some (.next,iC seed U l8 l9 l10 l11 l12 l13 l14 l15 (av u3 5 (.list (V.map .int).reverse)) (Y+3)):=
  fV (ca (p:=.loc 5) (ps:=[]) rfl (gK S.h5) rfl (Qr (σ:=iC seed U l8 l9 l10 l11 l12 l13 l14 l15 u3 (Y+3)) S.h5 (by rw [cW];exact aH 0x100000300000d02000021 rfl G)))
 have F:(V.map PV.int).reverse=V.reverse.map .int:=by rw [Au]
 rw [F]at v
 have x:J W X Z V.reverse T (av u3 5 (.list (V.reverse.map .int))) (Y+3):=by
  refine⟨S.n6,?_,?_,?_,?_,?_,aM,fun c hc=>?_,S.hk,S.hr⟩
  .rw [az (by decide)];exact S.h0
  .rw [az (by decide)];exact S.h1
  .rw [az (by decide)];exact S.h2
  .rw [az (by decide)];exact S.h3
  .rw [az (by decide)];exact S.h4
  .rcases S.hu c hc with⟨i,l,y,z,e4⟩|e
   .exact .inl ⟨i,l,y,z,by rw [az (by exact(fun Q=>aH 0x5080020800608022 rfl y Q))];exact e4⟩
   .exact .inr e
 generalize av u3 5 (AO.list (V.reverse.map .int))=u4 at v x
 obtain⟨i',B,C,D⟩:=J.zat (σ:=iC seed U l8 l9 l10 l11 l12 l13 l14 l15 u4 (Y+3)) x b;have o:=j.gotlen (c:=122) (by decide);obtain⟨I,e5,ag⟩:=Ow P (σ:=iC seed U l8 l9 l10 l11 l12 l13 l14 l15 u4 (Y+3)) (e:=ae (aa 6) (ab (.str (al [122]))) aO) (i:=i') (ks:=cu 122 (cQ Z)) (ak rfl rfl C) D B O (by exact(bb 0xc88100020004000d02000022 rfl E o));have u:J W X Z V.reverse T I (Y+3+1):=x.agree (fun m N=>ag m N) (by exact(aH 0x8461000421840010020 rfl));have s5:=cb (a:=7) (i:=5) (σ:=iC seed U l8 l9 l10 l11 l12 l13 l14 l15 u4 (Y+3)) rfl x.h5 e5 u.h5 (by rw [cW,BK];exact aH 0xf4240280000d02000021 rfl G);refine⟨iC seed U l8 l9 l10 l11 l12 l13 l14 l15 (av I 5 (.list (V.reverse.map .int++[.int (ew (cu 122 (cQ Z)))]))) (Y+3+1),(ad h).trans ((ad ((bq ((lF b2).trans ((lF b3).trans rfl))).trans rfl)).trans ((ad v).trans ((ad s5).trans (aG rfl)))),?_,?_,?_⟩
 .show(av _ _ _).lookup 0=_;rw [az (by decide)];exact u.h0
 .show(av _ _ _).lookup 1=_;rw [az (by decide)];exact u.h1
 .show(av _ _ _).lookup 5=_;rw [aM];simp
theorem Rx(P:Params){Y Z:List Nat}{seed:Int}{B:List Int}(b:Y.length=5)(g:Z.length=5)(h:zb Y Z=some B):Fd P [.loc 0,.loc 1,.int seed] [.list (au Y),.list (au Z)]=some (.loc 2,[.list (au Y),.list (au Z)],[.list (B.map .int)]):=by
 unfold zb at h
 cases M:xM Y Z [4,3,2,1,0] [] []with
 |none=>rw [M]at h;exact aW h
 |some l=>
  obtain⟨x,W⟩:=l;rw [M]at h
  dsimp only at h
  cases R:cu 122 x with
  |nil=>rw [R]at h;exact aW h
  |cons k Q=>
   rw [R]at h
   obtain rfl:=aZ h;unfold Fd;rw [cc (σ:=⟨[cL 0,cL 1,cI seed,none,none,none,none,none,none,none,none,none,none,none,none,none],[(0,.list (au Y)),(1,.list (au Z))],2⟩) rfl (Nm _ _ _)]
   suffices d:∃X,sR (yQ vj (RI P) (ET P) AH sI 100 ([AO.list (au Y),.list (au Z)]++([]:List AO)).length ⟨[cL 0,cL 1,cI seed,none,none,none,none,none,none,none,none,none,none,none,none,none],[(0,.list (au Y)),(1,.list (au Z))],2⟩=some (.ret (.loc 5),X)) (X.st.lookup 0=some (.list (au Y))) (X.st.lookup 1=some (.list (au Z))) (X.st.lookup 5=some (.list ((W.reverse++[ew (k::Q)]).map .int)))by
    obtain⟨X,e,g0,g1,a⟩:=d;rw [e];exact dn (ids:=[0,1,5]) rfl (bM g0 (cZ _) (bM g1 (cZ _) (bM a (eW _) rfl))) rfl
   obtain⟨m,v⟩:∃m:Nat,Int.fmod seed 2700=m:=⟨(Int.fmod seed 2700).toNat,by have:=kq seed (show(0:Int)<2700 by decide);exact ce (sE (cG (pJ this))) (sM (cG (pJ this)))⟩;have V:m<2700:=by have:=lH seed (show(0:Int)<2700 by decide);exact hH 0x546140008402a30a9021210012042a22 rfl v this
   have u:1<=3^(1+m):=zz (by decide);have S:Sm 4300 (3^(1+m)):=Sm.le LH (rF (by decide) (by exact(aH 0x2a30a00042200402a30a000421 rfl V)));generalize I:3^(1+m)=U at u S
   unfold yQ;rw [zZ,zr,TM,Tg,Ut,Pq,RZ];have p:ai (ae (ab (.int 3)) (ae (ab (.int 1)) (ae (aa 2) (ab (.int 2700)) eu) ba) xK) (am 3) ⟨[cL 0,cL 1,cI seed,none,none,none,none,none,none,none,none,none,none,none,none,none],[(0,.list (au Y)),(1,.list (au Z))],2⟩=some (.next,⟨[cL 0,cL 1,cI seed,cI (U:Int),none,none,none,none,none,none,none,none,none,none,none,none],[(0,.list (au Y)),(1,.list (au Z))],2⟩):=by
    have n:ae (ab (.int 3)) (ae (ab (.int 1)) (ae (aa 2) (ab (.int 2700)) eu) ba) xK ⟨[cL 0,cL 1,cI seed,none,none,none,none,none,none,none,none,none,none,none,none,none],[(0,.list (au Y)),(1,.list (au Z))],2⟩=some (.int (U:Int),⟨[cL 0,cL 1,cI seed,none,none,none,none,none,none,none,none,none,none,none,none,none],[(0,.list (au Y)),(1,.list (au Z))],2⟩):=by
     refine ak (q:=.int ((1+m:Nat):Int)) (σ₂:=⟨[cL 0,cL 1,cI seed,none,none,none,none,none,none,none,none,none,none,none,none,none],[(0,.list (au Y)),(1,.list (au Z))],2⟩) rfl (ak rfl (ak (r:=some (.int (m:Int),⟨[cL 0,cL 1,cI seed,none,none,none,none,none,none,none,none,none,none,none,none,none],[(0,.list (au Y)),(1,.list (au Z))],2⟩)) rfl rfl (by rw [<-v];rfl)) ?_) ?_
     .show some (PV.int (1+(m:Int)),_)=_
      rw [show((1+m:Nat):Int)=1+(m:Int)by exact ce (aH 0x1210a440004224a020 rfl) (aH 0x21124004842912020 rfl)]
     .refine dv (k:=Hc) ?_
      unfold Hc;rw [aC ⟨by exact aH 0x21124014a020 rfl,by exact aH 0xf42402a4000844940402a30a000421 rfl V,by decide⟩,fp,<-I];rw [show((3:Int)^(1+m))=((3^(1+m):Nat):Int)by push_cast;rfl]
    exact ax n rfl
   have i:J Y Z [] [] [] [(5,.list []),(4,.dict []),(3,.list []),(2,.list []),(0,.list (au Y)),(1,.list (au Z))] 6:=⟨by decide,rfl,rfl,rfl,rfl,rfl,rfl,fun c hc=>.inr ⟨rfl,rfl⟩,by decide,fun r f=>by cases f⟩;obtain⟨o,w,a8,a9,C,D,E,F,G,H,z,y,e,j,T,N,O⟩:=Dm (seed:=seed) P b g u S [4,3,2,1,0] [] [] [] x W none none none none none none none none [(5,.list []),(4,.dict []),(3,.list []),(2,.list []),(0,.list (au Y)),(1,.list (au Z))] 6 (by decide) (by decide) (by decide) i M;obtain⟨X,eT,s,t,A⟩:=KQ P (seed:=seed) (U:=U) (l8:=a8) (l9:=a9) (l10:=C) (l11:=D) (l12:=E) (l13:=F) (l14:=G) (l15:=H) j N O (k:=k) (ks:=Q) (by rw [T];exact R);rw [T,R]at A
   refine⟨X,?_,s,t,A⟩;rw [ad p];rw [ad (σ₁:=⟨[cL 0,cL 1,cI seed,cI (U:Int),some (.hdr 274 2),none,none,none,none,none,none,none,none,none,none,none],[(2,.list []),(0,.list (au Y)),(1,.list (au Z))],3⟩) rfl];rw [ad (σ₁:=⟨[cL 0,cL 1,cI seed,cI (U:Int),some (.hdr 274 2),cL 3,none,none,none,none,none,none,none,none,none,none],[(3,.list []),(2,.list []),(0,.list (au Y)),(1,.list (au Z))],4⟩) rfl];rw [ad (σ₁:=⟨[cL 0,cL 1,cI seed,cI (U:Int),some (.hdr 274 2),cL 3,cL 4,none,none,none,none,none,none,none,none,none],[(4,.dict []),(3,.list []),(2,.list []),(0,.list (au Y)),(1,.list (au Z))],5⟩) rfl];rw [ad (σ₁:=iC seed U none none none none none none none none [(5,.list []),(4,.dict []),(3,.list []),(2,.list []),(0,.list (au Y)),(1,.list (au Z))] 6) rfl];exact(ad ((bW (k:=.tup (au [4,3,2,1,0])) (ps:=au [4,3,2,1,0]) rfl rfl (by decide)).trans e)).trans eT
theorem bz{w Y Z:List Nat}(U:qq w Y=true)(V:AZ Y=true)(W:Ax w Z=true)(X:qO (qd Y Z)=true):ij w Y Z=true:=by unfold ij;rw [U,V,W,X];rfl
theorem Vc:ij [97,65,98,66,99,67,100,68,101,69] [1,2,4,8,16] [1,3,5,7,9]=true:=bz (by decide +kernel) (by decide +kernel) (by decide +kernel) (by decide +kernel)
theorem VH:ij [97,65,98,66,99,67,100,101,69,68] [1,2,4,24,16] [1,3,5,9,8]=true:=bz (by decide +kernel) (by decide +kernel) (by decide +kernel) (by decide +kernel)
theorem Vq:ij [97,65,98,66,99,100,68,67,101,69] [1,2,12,8,16] [1,3,7,6,9]=true:=bz (by decide +kernel) (by decide +kernel) (by decide +kernel) (by decide +kernel)
theorem Vf:ij [97,65,98,66,99,100,68,101,69,67] [1,2,28,8,16] [1,3,9,6,8]=true:=bz (by decide +kernel) (by decide +kernel) (by decide +kernel) (by decide +kernel)
theorem UW:ij [97,65,98,66,99,100,101,69,68,67] [1,2,28,24,16] [1,3,9,8,7]=true:=bz (by decide +kernel) (by decide +kernel) (by decide +kernel) (by decide +kernel)
theorem Vw:ij [97,65,98,99,67,66,100,68,101,69] [1,6,4,8,16] [1,5,4,7,9]=true:=bz (by decide +kernel) (by decide +kernel) (by decide +kernel) (by decide +kernel)
theorem VE:ij [97,65,98,99,67,66,100,101,69,68] [1,6,4,24,16] [1,5,4,9,8]=true:=bz (by decide +kernel) (by decide +kernel) (by decide +kernel) (by decide +kernel)
theorem VB:ij [97,65,98,99,67,100,68,66,101,69] [1,14,4,8,16] [1,7,4,6,9]=true:=bz (by decide +kernel) (by decide +kernel) (by decide +kernel) (by decide +kernel)
theorem Vl:ij [97,65,98,99,67,100,68,101,69,66] [1,30,4,8,16] [1,9,4,6,8]=true:=bz (by decide +kernel) (by decide +kernel) (by decide +kernel) (by decide +kernel)
theorem UT:ij [97,65,98,99,67,100,101,69,68,66] [1,30,4,24,16] [1,9,4,8,7]=true:=bz (by decide +kernel) (by decide +kernel) (by decide +kernel) (by decide +kernel)
theorem TC:ij [97,65,98,99,100,68,67,66,101,69] [1,14,12,8,16] [1,7,6,5,9]=true:=bz (by decide +kernel) (by decide +kernel) (by decide +kernel) (by decide +kernel)
theorem ST:ij [97,65,98,99,100,68,67,101,69,66] [1,30,12,8,16] [1,9,6,5,8]=true:=bz (by decide +kernel) (by decide +kernel) (by decide +kernel) (by decide +kernel)
theorem Uu:ij [97,65,98,99,100,68,101,69,67,66] [1,30,28,8,16] [1,9,8,5,7]=true:=bz (by decide +kernel) (by decide +kernel) (by decide +kernel) (by decide +kernel)
theorem Ux:ij [97,65,98,99,100,101,69,68,67,66] [1,30,28,24,16] [1,9,8,7,6]=true:=bz (by decide +kernel) (by decide +kernel) (by decide +kernel) (by decide +kernel)
theorem Td:ij [97,98,66,65,99,67,100,68,101,69] [3,2,4,8,16] [3,2,5,7,9]=true:=bz (by decide +kernel) (by decide +kernel) (by decide +kernel) (by decide +kernel)
theorem TV:ij [97,98,66,65,99,67,100,101,69,68] [3,2,4,24,16] [3,2,5,9,8]=true:=bz (by decide +kernel) (by decide +kernel) (by decide +kernel) (by decide +kernel)
theorem Uc:ij [97,98,66,65,99,100,68,67,101,69] [3,2,12,8,16] [3,2,7,6,9]=true:=bz (by decide +kernel) (by decide +kernel) (by decide +kernel) (by decide +kernel)
theorem Sf:ij [97,98,66,65,99,100,68,101,69,67] [3,2,28,8,16] [3,2,9,6,8]=true:=bz (by decide +kernel) (by decide +kernel) (by decide +kernel) (by decide +kernel)
theorem TN:ij [97,98,66,65,99,100,101,69,68,67] [3,2,28,24,16] [3,2,9,8,7]=true:=bz (by decide +kernel) (by decide +kernel) (by decide +kernel) (by decide +kernel)
theorem SI:ij [97,98,66,99,67,65,100,68,101,69] [7,2,4,8,16] [5,2,4,7,9]=true:=bz (by decide +kernel) (by decide +kernel) (by decide +kernel) (by decide +kernel)
theorem Tw:ij [97,98,66,99,67,65,100,101,69,68] [7,2,4,24,16] [5,2,4,9,8]=true:=bz (by decide +kernel) (by decide +kernel) (by decide +kernel) (by decide +kernel)
theorem Sn:ij [97,98,66,99,67,100,68,65,101,69] [15,2,4,8,16] [7,2,4,6,9]=true:=bz (by decide +kernel) (by decide +kernel) (by decide +kernel) (by decide +kernel)
theorem Tk:ij [97,98,66,99,67,100,68,101,69,65] [31,2,4,8,16] [9,2,4,6,8]=true:=bz (by decide +kernel) (by decide +kernel) (by decide +kernel) (by decide +kernel)
theorem SS:ij [97,98,66,99,67,100,101,69,68,65] [31,2,4,24,16] [9,2,4,8,7]=true:=bz (by decide +kernel) (by decide +kernel) (by decide +kernel) (by decide +kernel)
theorem Sl:ij [97,98,66,99,100,68,67,65,101,69] [15,2,12,8,16] [7,2,6,5,9]=true:=bz (by decide +kernel) (by decide +kernel) (by decide +kernel) (by decide +kernel)
theorem Tl:ij [97,98,66,99,100,68,67,101,69,65] [31,2,12,8,16] [9,2,6,5,8]=true:=bz (by decide +kernel) (by decide +kernel) (by decide +kernel) (by decide +kernel)
theorem Ur:ij [97,98,66,99,100,68,101,69,67,65] [31,2,28,8,16] [9,2,8,5,7]=true:=bz (by decide +kernel) (by decide +kernel) (by decide +kernel) (by decide +kernel)
theorem Su:ij [97,98,66,99,100,101,69,68,67,65] [31,2,28,24,16] [9,2,8,7,6]=true:=bz (by decide +kernel) (by decide +kernel) (by decide +kernel) (by decide +kernel)
theorem SQ:ij [97,98,99,67,66,65,100,68,101,69] [7,6,4,8,16] [5,4,3,7,9]=true:=bz (by decide +kernel) (by decide +kernel) (by decide +kernel) (by decide +kernel)
theorem Tt:ij [97,98,99,67,66,65,100,101,69,68] [7,6,4,24,16] [5,4,3,9,8]=true:=bz (by decide +kernel) (by decide +kernel) (by decide +kernel) (by decide +kernel)
theorem TO:ij [97,98,99,67,66,100,68,65,101,69] [15,6,4,8,16] [7,4,3,6,9]=true:=bz (by decide +kernel) (by decide +kernel) (by decide +kernel) (by decide +kernel)
theorem SK:ij [97,98,99,67,66,100,68,101,69,65] [31,6,4,8,16] [9,4,3,6,8]=true:=bz (by decide +kernel) (by decide +kernel) (by decide +kernel) (by decide +kernel)
theorem Ti:ij [97,98,99,67,66,100,101,69,68,65] [31,6,4,24,16] [9,4,3,8,7]=true:=bz (by decide +kernel) (by decide +kernel) (by decide +kernel) (by decide +kernel)
theorem TI:ij [97,98,99,67,100,68,66,65,101,69] [15,14,4,8,16] [7,6,3,5,9]=true:=bz (by decide +kernel) (by decide +kernel) (by decide +kernel) (by decide +kernel)
theorem Us:ij [97,98,99,67,100,68,66,101,69,65] [31,14,4,8,16] [9,6,3,5,8]=true:=bz (by decide +kernel) (by decide +kernel) (by decide +kernel) (by decide +kernel)
theorem TD:ij [97,98,99,67,100,68,101,69,66,65] [31,30,4,8,16] [9,8,3,5,7]=true:=bz (by decide +kernel) (by decide +kernel) (by decide +kernel) (by decide +kernel)
theorem Ta:ij [97,98,99,67,100,101,69,68,66,65] [31,30,4,24,16] [9,8,3,7,6]=true:=bz (by decide +kernel) (by decide +kernel) (by decide +kernel) (by decide +kernel)
theorem TL:ij [97,98,99,100,68,67,66,65,101,69] [15,14,12,8,16] [7,6,5,4,9]=true:=bz (by decide +kernel) (by decide +kernel) (by decide +kernel) (by decide +kernel)
theorem Uo:ij [97,98,99,100,68,67,66,101,69,65] [31,14,12,8,16] [9,6,5,4,8]=true:=bz (by decide +kernel) (by decide +kernel) (by decide +kernel) (by decide +kernel)
theorem Ss:ij [97,98,99,100,68,67,101,69,66,65] [31,30,12,8,16] [9,8,5,4,7]=true:=bz (by decide +kernel) (by decide +kernel) (by decide +kernel) (by decide +kernel)
theorem RU:ij [97,98,99,100,68,101,69,67,66,65] [31,30,28,8,16] [9,8,7,4,6]=true:=bz (by decide +kernel) (by decide +kernel) (by decide +kernel) (by decide +kernel)
theorem Sz:ij [97,98,99,100,101,69,68,67,66,65] [31,30,28,24,16] [9,8,7,6,5]=true:=bz (by decide +kernel) (by decide +kernel) (by decide +kernel) (by decide +kernel)
noncomputable def CU:List (List Nat×List Nat×List Nat):=[([97,65,98,66,99,67,100,68,101,69],[1,2,4,8,16],[1,3,5,7,9]),([97,65,98,66,99,67,100,101,69,68],[1,2,4,24,16],[1,3,5,9,8]),([97,65,98,66,99,100,68,67,101,69],[1,2,12,8,16],[1,3,7,6,9]),([97,65,98,66,99,100,68,101,69,67],[1,2,28,8,16],[1,3,9,6,8]),([97,65,98,66,99,100,101,69,68,67],[1,2,28,24,16],[1,3,9,8,7]),([97,65,98,99,67,66,100,68,101,69],[1,6,4,8,16],[1,5,4,7,9]),([97,65,98,99,67,66,100,101,69,68],[1,6,4,24,16],[1,5,4,9,8]),([97,65,98,99,67,100,68,66,101,69],[1,14,4,8,16],[1,7,4,6,9]),([97,65,98,99,67,100,68,101,69,66],[1,30,4,8,16],[1,9,4,6,8]),([97,65,98,99,67,100,101,69,68,66],[1,30,4,24,16],[1,9,4,8,7]),([97,65,98,99,100,68,67,66,101,69],[1,14,12,8,16],[1,7,6,5,9]),([97,65,98,99,100,68,67,101,69,66],[1,30,12,8,16],[1,9,6,5,8]),([97,65,98,99,100,68,101,69,67,66],[1,30,28,8,16],[1,9,8,5,7]),([97,65,98,99,100,101,69,68,67,66],[1,30,28,24,16],[1,9,8,7,6]),([97,98,66,65,99,67,100,68,101,69],[3,2,4,8,16],[3,2,5,7,9]),([97,98,66,65,99,67,100,101,69,68],[3,2,4,24,16],[3,2,5,9,8]),([97,98,66,65,99,100,68,67,101,69],[3,2,12,8,16],[3,2,7,6,9]),([97,98,66,65,99,100,68,101,69,67],[3,2,28,8,16],[3,2,9,6,8]),([97,98,66,65,99,100,101,69,68,67],[3,2,28,24,16],[3,2,9,8,7]),([97,98,66,99,67,65,100,68,101,69],[7,2,4,8,16],[5,2,4,7,9]),([97,98,66,99,67,65,100,101,69,68],[7,2,4,24,16],[5,2,4,9,8]),([97,98,66,99,67,100,68,65,101,69],[15,2,4,8,16],[7,2,4,6,9]),([97,98,66,99,67,100,68,101,69,65],[31,2,4,8,16],[9,2,4,6,8]),([97,98,66,99,67,100,101,69,68,65],[31,2,4,24,16],[9,2,4,8,7]),([97,98,66,99,100,68,67,65,101,69],[15,2,12,8,16],[7,2,6,5,9]),([97,98,66,99,100,68,67,101,69,65],[31,2,12,8,16],[9,2,6,5,8]),([97,98,66,99,100,68,101,69,67,65],[31,2,28,8,16],[9,2,8,5,7]),([97,98,66,99,100,101,69,68,67,65],[31,2,28,24,16],[9,2,8,7,6]),([97,98,99,67,66,65,100,68,101,69],[7,6,4,8,16],[5,4,3,7,9]),([97,98,99,67,66,65,100,101,69,68],[7,6,4,24,16],[5,4,3,9,8]),([97,98,99,67,66,100,68,65,101,69],[15,6,4,8,16],[7,4,3,6,9]),([97,98,99,67,66,100,68,101,69,65],[31,6,4,8,16],[9,4,3,6,8]),([97,98,99,67,66,100,101,69,68,65],[31,6,4,24,16],[9,4,3,8,7]),([97,98,99,67,100,68,66,65,101,69],[15,14,4,8,16],[7,6,3,5,9]),([97,98,99,67,100,68,66,101,69,65],[31,14,4,8,16],[9,6,3,5,8]),([97,98,99,67,100,68,101,69,66,65],[31,30,4,8,16],[9,8,3,5,7]),([97,98,99,67,100,101,69,68,66,65],[31,30,4,24,16],[9,8,3,7,6]),([97,98,99,100,68,67,66,65,101,69],[15,14,12,8,16],[7,6,5,4,9]),([97,98,99,100,68,67,66,101,69,65],[31,14,12,8,16],[9,6,5,4,8]),([97,98,99,100,68,67,101,69,66,65],[31,30,12,8,16],[9,8,5,4,7]),([97,98,99,100,68,101,69,67,66,65],[31,30,28,8,16],[9,8,7,4,6]),([97,98,99,100,101,69,68,67,66,65],[31,30,28,24,16],[9,8,7,6,5])]
theorem all_cons{Z:Type}{p:Z->Bool}{a:Z}{l:List Z}(h:p a=true)(Y:l.all p=true):(a::l).all p=true:=by rw [List.all_cons,h,Y];rfl
theorem AM:CU.all (fun e=>ij e.1 e.2.1 e.2.2)=true:=all_cons Vc (all_cons VH (all_cons Vq (all_cons Vf (all_cons UW (all_cons Vw (all_cons VE (all_cons VB (all_cons Vl (all_cons UT (all_cons TC (all_cons ST (all_cons Uu (all_cons Ux (all_cons Td (all_cons TV (all_cons Uc (all_cons Sf (all_cons TN (all_cons SI (all_cons Tw (all_cons Sn (all_cons Tk (all_cons SS (all_cons Sl (all_cons Tl (all_cons Ur (all_cons Su (all_cons SQ (all_cons Tt (all_cons TO (all_cons SK (all_cons Ti (all_cons TI (all_cons Us (all_cons TD (all_cons Ta (all_cons TL (all_cons Uo (all_cons Ss (all_cons RU (all_cons Sz rfl)))))))))))))))))))))))))))))))))))))))))
theorem kU(Y:List Int)(k Z:Nat)(h:0<Z):dt Y k Z<Z:=by
 have W:=kq ((Y[k]?).getD 0) (show(0:Int)<Z by exact Fr h);have X:=lH ((Y[k]?).getD 0) (show(0:Int)<Z by exact Fr h);unfold dt;exact qf 0x40108101025410012042422 rfl X (cG (pJ W))
theorem mY(Z:List Int)(k Y:Nat):oN Z k Y<2:=by
 have W:=kq (Int.fdiv ((Z[k]?).getD 0) Y) (show(0:Int)<2 by decide);have X:=lH (Int.fdiv ((Z[k]?).getD 0) Y) (show(0:Int)<2 by decide);unfold oN;exact hH 0x20800108100025411052042422 rfl X (cG (pJ W))
theorem Az(Z:List Int):TQ fun(V:Nat) (W:Nat) (X:Nat) (Y:Nat) (P:Nat) (Q:Nat) (R:Nat) (S:Nat) (T:Nat) (U:Nat)=>Ud (V<1) (W<V+2) (X<W+2) (Y<X+2) (P<Y+2) ((Q<2/\R<2/\S<2/\T<2/\U<2)) (md Z=Kl V W X Y P) (wg Z=[Q,R,S,T,U]):=
 ⟨_,_,_,_,_,_,_,_,_,_,kU Z 0 1 (by decide),kU Z 1 _ (by exact(FE)),kU Z 2 _ (by exact(FE)),kU Z 3 _ (by exact(FE)),kU Z 4 _ (by exact(FE)),⟨mY Z 0 _,mY Z 1 _,mY Z 2 _,mY Z 3 _,mY Z 4 _⟩,rfl,rfl⟩
theorem EE:∀W,W<1->∀X,X<W+2->∀Y,Y<X+2->∀Z,Z<Y+2->∀V,V<Z+2->(CU.any fun e=>oW e.1 (Kl W X Y Z V))=true:=by decide +kernel
theorem nh{s:Nat}(h:s<2):s∈Fs:=by
 match s,h with
 |0,_=>decide
 |1,_=>decide
theorem wV{f:List Nat->Bool}(h:qO f=true){a b c d e:Nat}(V:a<2)(W:b<2)(X:c<2)(Y:d<2)(Z:e<2):f [a,b,c,d,e]=true:=
 dl.mp (dl.mp (dl.mp (dl.mp (dl.mp h a (nh V)) b (nh W)) c (nh X)) d (nh Y)) e (nh Z)
theorem Pi{o:Option Bool}(h:VM o=true):o=some false:=by
 cases o with
 |none=>exact mU h
 |some b=>cases b<;>first|rfl|exact mU h
theorem PQ{o:Option Bool}(h:VJ o=true):o=some true:=by
 cases o with
 |none=>exact mU h
 |some b=>cases b<;>first|rfl|exact mU h
theorem HG{w Y:List Nat}(h:qq w Y=true):Gh w Y:=by
 unfold qq at h
 simp only [cR]at h
 obtain⟨⟨⟨X,R⟩,S⟩,Z⟩:=h;refine⟨?_,fun t T=>Pi (dl.mp R t T),PQ S,?_⟩
 .cases V:iN w [0,1,2,3,4] []with
  |none=>rw [V]at X;exact mU X
  |some l=>rw [V]at X;rw [(jL l Y).mp X]
 .cases Y with
  |nil=>exact mU Z
  |cons m W=>
   refine⟨m,W,rfl,?_⟩;dsimp only at Z
   cases U:nT ([97]++bn++[65]) w with
   |none=>rw [U]at Z;exact mU Z
   |some r=>rw [U]at Z;dsimp only at Z;rw [oA Z]
theorem qw{X Y:List Int}:∀(V W Z:List Int),oh X Y V W=some Z->Z.length=W.length+V.length
 |[],W,Z,h=>by obtain rfl:=aZ h;rfl
 |m::V,W,Z,h=>by
  obtain⟨⟨lo,U⟩,T,h⟩:=py.mp h
  split at h
  .have:=qw V _ Z h
   rw [this,df];simp only [cm,fG];exact bB (Ng) (Lj)
  .exact aW h
theorem CH{W:Nat}{Z:List Int}(O:Oo W Z):∀(Y:List Nat) (X:List Int),(∀m∈Y,m<Z.length)->tP W Y X=true->X=Y.map fun m:Nat=>Z.getD m 0
 |[],[],_,_=>rfl
 |[],_::_,_,h=>mU h
 |_::_,[],_,h=>mU h
 |m::Y,v::X,Q,h=>by
  dsimp only [IG,IY]at h
  cases V:(Nat.beq (W/2^(10*m)%1024) (v+512).toNat&&decide (0<=v+512))with
  |false=>rw [V]at h;exact mU h
  |true=>
   rw [V,fm]at h
   rw [cR,gJ]at V
   obtain⟨U,N⟩:=V;have U:=ip U;have T:=Q m (.head _);have P:Z[m]?=some Z[m]:=fC T
   obtain⟨R,_⟩:=O.2 m _ P;have S:Z.getD m 0=Z[m]:=by rw [gv,P];rfl
   rw [cP,S,<-CH O Y X (fun x M=>Q x (.tail _ M)) h]
   congr 1
   exact ce (Hw 0x405080c004485020812a8c004481020012a0840000a23 rfl U R (cG (gW 0x1001120408014a03001120408014a021 rfl N))) (Hw 0x1401080c004485020812a0c004481020012a8840000823 rfl U R (cG (gW 0x1001120408014a03001120408014a021 rfl N)))
theorem Jj:QF.map (fun m:Nat=>(m:Int))=Kv:=by decide
theorem LY:∀j m,QF[j]?=some m->m=1+j/\m<=31:=by
 intro j m h;have Z:j<31:=(ig.mp h).1;have:∀j,j<31->QF[j]?=some (1+j):=by decide
 rw [this j Z]at h
 obtain rfl:=aZ h;exact⟨bB (aH 0x4220002110020 rfl) (aH 0x4220002110020 rfl),aH 0xf8400084400fc2000421 rfl Z⟩
theorem Vh:Oo 512 [0]:=by
 refine⟨by decide,fun i v h=>?_⟩;have Z:i<1:=(ig.mp h).1;have:i=0:=by exact bB (aH 0x80000842000421 rfl Z) (aH 0x8020 rfl)
 subst this;obtain rfl:=aZ h;exact⟨by decide,by decide,by decide⟩
structure Tu(ms ends sides:List Nat)(ws vs:List Int):Prop where
 cuts:oh (ms.map fun m:Nat=>(m:Int)) (sides.map fun m:Nat=>(m:Int)) Kv [0]=some ws
 br:zb ends sides=some vs
 len:ws.length=32
 same:vs=(ms++[31]).map fun m:Nat=>ws.getD m 0
theorem Mr{U V W X Y N O P Q R:Nat}{Z:List Nat}(C:AZ [U,V,W,X,Y]=true)(h:qd [U,V,W,X,Y] Z [N,O,P,Q,R]=true):vS fun I H=>Tu [U,V,W,X,Y] Z [N,O,P,Q,R] I H:=by
 have D:(U.testBit 0&&V.testBit 1&&W.testBit 2&&X.testBit 3&&Y.testBit 4)=true:=(lb.mp C).2;have E:([U,V,W,X,Y].all fun m=>Nat.ble m 31)=true:=(lb.mp C).1;unfold qd at h
 dsimp only at h
 rw [Co]at h
 cases G:Nat.beq (vu U V W X Y N O P Q R QF 512) 0 with
 |true=>rw [G]at h;exact mU h
 |false=>
  rw [G,eM]at h
  have F:vu U V W X Y N O P Q R QF 512≠0:=fun q=>by rw [q]at G;exact absurd G (by decide)
  obtain⟨I,e,A⟩:=DL D QF 512 [0] Vh (fun j m B=>LY j m B) F;rw [Jj]at e
  have T:I.length=32:=by rw [qw _ _ _ e];rfl
  cases S:zb Z [N,O,P,Q,R]with
  |none=>rw [S]at h;exact mU h
  |some H=>
   rw [S]at h
   refine⟨I,H,e,S,T,CH A [U,V,W,X,Y,31] H (fun m M=>?_) h⟩;rw [T];rcases kQ.mp (show m∈[U,V,W,X,Y]++[31]from M)with M|M
   .have:=fJ (dl.mp E m M);exact aH 0x20200010fc2000021 rfl this
   .rw [cJ.mp M];decide
structure UV(cells:List Int)(w ms ends sides:List Nat)(ws vs:List Int):Prop where
 word:md cells=w
 sid:wg cells=sides
 falls:Gh w ms
 w10:w.length=10
 win:∀c∈w,c∈MQ++MV
 hd:vS fun c w'=>w=c::w'/\69<c
 hbal:bal 0 w=some 0
 hends:Di w=ends
 e5:ends.length=5
 m5:ms.length=5
 s5:sides.length=5
 m31:∀m∈ms,m<=31
 both:Tu ms ends sides ws vs
theorem MI(X:List Int):RQ fun w P Z V R Q=>UV X w P Z V R Q:=by
 obtain⟨A,B,C,D,E,s0,s1,s2,s3,s4,b0,b1,b2,b3,a,⟨b,d,e,f,g⟩,s,r⟩:=Az X;obtain⟨⟨w,P,Z⟩,N,M⟩:=zS.mp (EE A b0 B b1 C b2 D b3 E a);have Y:=dl.mp AM _ N;have O:w=Kl A B C D E:=(jL _ _).mp M;replace Y:ij w P Z=true:=Y;unfold ij at Y
 simp only [cR]at Y
 obtain⟨⟨⟨l,G⟩,H⟩,o⟩:=Y;unfold Ax at H
 simp only [cR]at H
 obtain⟨⟨⟨⟨⟨⟨h,i⟩,j⟩,k⟩,S⟩,F⟩,e7⟩:=H;have U:=wV o b d e f g;obtain⟨t,u,v,x,y,rfl⟩:=NV (ip (lb.mp (lb.mp G).1).1);obtain⟨R,Q,T⟩:=Mr G U;have I:([t,u,v,x,y].all fun m=>Nat.ble m 31)=true:=(lb.mp G).1;refine⟨w,_,Z,_,R,Q,s.trans O.symm,r,HG l,ip j,fun c p=>kA (dl.mp k c p),?_,?_,(jL _ _).mp h,ip i,rfl,rfl,fun m q=>fJ (dl.mp I m q),T⟩
 .cases w with
  |nil=>exact mU F
  |cons c z=>exact⟨c,z,rfl,fJ F⟩
 .cases W:Mine.bal 0 w with
  |none=>rw [W]at S;exact mU S
  |some n=>cases n with
   |zero=>rfl
   |succ n=>rw [W]at S;exact mU S
noncomputable def Rd(P:Params):bO:=cB Cg yR wS (fun _=>[]) [] (fun n=>yE Ew Fi EN Fq DS (Fd P) 100 n)
theorem Mp(a:PV):dw Cg yR wS ([a]++[]) ([]++[])=⟨[some a,none,none,none,none,none],[(0,.cell none)],1⟩:=by left
theorem Cv{ms:List Nat}{ws:List Int}{nx:Nat}(y:ms.length<=50)(N:ws.length=32):∀(Z:List Nat) (j n:Nat) (X:List Int) (st:List (Nat×AO)) (W:Option PV),(∀m∈Z,m<=31)->(au ms).drop j=au Z->Z.length<n->X.length+Z.length<=100->st.lookup 3=some (.list (au ms))->st.lookup 0=some (.cell (some (.loc 5)))->st.lookup 5=some (.list (ws.map .int))->st.lookup 7=some (.list (X.map .int))->
  vS fun O Y=>mA (fU (am 0) gG (ae (bi 0) (aa 0) aO) 7 n (.lst 3 j) ⟨[W],st,nx⟩=some ⟨[O],Y,nx⟩) (Y.lookup 7=some (.list ((X++Z.map fun m:Nat=>ws.getD m 0).map .int))) (∀m,m≠7->Y.lookup m=st.lookup m)
 |_,_,0,_,_,_,_,_,h,_,_,_,_,_=>absurd h (ix _)
 |[],j,n+1,X,st,W,_,R,_,_,Q,_,_,H=>by
  refine⟨W,st,?_,by simpa using H,fun m _=>rfl⟩;have M:(au ms)[j]?=none:=by
   have:=bv List.head? R
   rwa [lJ]at this
  show(match gZ ⟨[W],st,nx⟩ (.lst 3 j)with|some (some (p,C))=>_|some none=>_|none=>_)=_;rw [nJ (σ:=⟨[W],st,nx⟩) Q M]
 |m::Z,j,n+1,X,st,W,G,R,T,I,Q,D,E,H=>by
  have M:(au ms)[j]?=some (.int (m:Int)):=by
   have:=bv List.head? R
   rwa [lJ]at this
  simp only [cm]at T I
  have S:=G m (.head _);have w:ws[m]?=some (ws.getD m 0):=by rw [gv,fC (by exact(bb 0x20087e1080010808000a22 rfl N S))];rfl
  have A:ae (bi 0) (aa 0) aO ⟨[cI (m:Int)],st,nx⟩=some (.int (ws.getD m 0),⟨[cI (m:Int)],st,nx⟩):=
   ak (cp (σ:=⟨[cI (m:Int)],st,nx⟩) D) rfl (gM (σ:=⟨[cI (m:Int)],st,nx⟩) E (fL w (by exact(aH 0x7d04000010808000821 rfl N))))
  have P:fU (am 0) gG (ae (bi 0) (aa 0) aO) 7 (n+1) (.lst 3 j) ⟨[W],st,nx⟩=(match ae (bi 0) (aa 0) aO ⟨[cI (m:Int)],st,nx⟩with
    |some (q,U)=>(match aQ [.loc 7,q] U with
     |some (_,V)=>fU (am 0) gG (ae (bi 0) (aa 0) aO) 7 n (.lst 3 (j+1)) V
     |none=>none)
    |none=>none):=by
   show(match gZ ⟨[W],st,nx⟩ (.lst 3 j)with|some (some (p,C))=>_|some none=>_|none=>_)=_;rw [nK (σ:=⟨[W],st,nx⟩) Q M];rfl
  rw [P,A];dsimp only;rw [eH (σ:=⟨[cI (m:Int)],st,nx⟩) H (by rw [cW];exact bb 0x80000180000464204210080010021 rfl I)];dsimp only;have z:X.map PV.int++[.int (ws.getD m 0)]=(X++[ws.getD m 0]).map PV.int:=by simp
  rw [z];obtain⟨O,Y,e,g2,go⟩:=Cv y N Z (j+1) n (X++[ws.getD m 0]) (av st 7 (.list ((X++[ws.getD m 0]).map .int))) (some (.int (m:Int))) (fun x B=>G x (.tail _ B)) (dH R) (by exact(DV T)) (by rw [df];simp only [cm,fG];exact Mf I) (by rw [az (by decide)];exact Q) (by rw [az (by decide)];exact D) (by rw [az (by decide)];exact E) aM;refine⟨O,Y,e,?_,fun i F=>by rw [go i F,az F]⟩;rw [g2];simp
theorem run337(P:Params){W:List Int}(hn:W.length<=63):Rd P [.fl W] []=some (.bool true,[],[]):=by
 obtain⟨Z,t,D⟩:=Rb hn;obtain⟨w,V,X,Y,U,S,C⟩:=MI Z;obtain⟨c0,w',f,z7⟩:=C.hd;have M:=QW t;rw [C.word,C.sid]at M
 have E:=Qh C.w10 C.falls;have z2:Z[6]?=some (Z.getD 6 0):=by rw [gv,fC (by exact(aH 0x182109c2000a21 rfl t))];rfl
 have z4:Z[5]?=some (Z.getD 5 0):=by rw [gv,fC (by exact(aH 0x142109c2000a21 rfl t))];rfl
 have O:=PY (d:=Z.getD 6 0) C.w10 C.win f z7 C.hbal;rw [C.hends]at O
 have N:=PM C.both.cuts;rw [<-kh,<-kh]at N
 have F:=Rx P (seed:=Z.getD 5 0) C.e5 C.s5 C.both.br;have c:=C.both.same;have Q:=C.both.len;have R:=C.m5;have z1:=C.e5;have y1:=C.s5;have B:=C.m31;generalize Z.getD 6 0=d6 at *
 generalize Z.getD 5 0=d5 at *
 unfold Rd;rw [cc (σ:=⟨[some (.fl W),none,none,none,none,none],[(0,.cell none)],1⟩) rfl (Mp _)]
 suffices b:∃G,yE Ew Fi EN Fq DS (Fd P) 100 0 ⟨[some (.fl W),none,none,none,none,none],[(0,.cell none)],1⟩=some (.ret (.bool true),G)by
  obtain⟨G,e⟩:=b;exact(bv (ie ([]:List AO).length) e).trans rfl
 unfold yE;have s1:ai (bc Ew (ac (aa 0) aj)) (am 1) ⟨[some (.fl W),none,none,none,none,none],[(0,.cell none)],1⟩=some (.next,⟨[some (.fl W),cL 1,none,none,none,none],[(1,.list (Z.map .int)),(0,.cell none)],2⟩):=
  ax (dO (ids:=[]) (os:=[]) (ns:=[.list (Z.map .int)]) (p:=.loc 0) (aw (g:=aj) (p:=.fl W) rfl rfl) rfl rfl (fun _ h=>by cases h) rfl D rfl rfl (fun H h=>by rw [cJ.mp h];exact eW _)) rfl
 rw [ad s1];have s2:ai (bc Fi (ac (aa 1) aj)) (dK 2 (aT (am 2) (aT (am 3) cM))) ⟨[some (.fl W),cL 1,none,none,none,none],[(1,.list (Z.map .int)),(0,.cell none)],2⟩
   = some (.next,⟨[some (.fl W),cL 1,cS (al w),cL 2,none,none],(2,.list (au Y))::av [(1,.list (Z.map .int)),(0,.cell none)] 1 (.list (Z.map .int)),3⟩):=
  ax (dO (ids:=[1]) (os:=[.list (Z.map .int)]) (ns:=[.list (au Y)]) (p:=.tup [.str (al w),.loc 1]) (aw (g:=aj) (p:=.loc 1) rfl rfl) rfl rfl (fun H h=>by rw [cJ.mp h];exact eW _) rfl M rfl rfl (fun H h=>by rw [cJ.mp h];exact cZ _)) rfl
 rw [ad s2];have q0:((2,AO.list (au Y))::av [(1,.list (Z.map .int)),(0,.cell none)] 1 (.list (Z.map .int))).lookup 0=some (.cell none):=by rw [bg (by decide),az (by decide)];rfl
 have j:((2,AO.list (au Y))::av [(1,.list (Z.map .int)),(0,.cell none)] 1 (.list (Z.map .int))).lookup 1=some (.list (Z.map .int)):=by rw [bg (by decide),aM]
 have q2:((2,AO.list (au Y))::av [(1,.list (Z.map .int)),(0,.cell none)] 1 (.list (Z.map .int))).lookup 2=some (.list (au Y)):=cx;generalize ((2,AO.list (au Y))::av [(1,.list (Z.map .int)),(0,.cell none)] 1 (.list (Z.map .int)))=u at q0 j q2 ⊢
 have s3:ai (bc EN (ac (aa 2) aj)) (am 4) ⟨[some (.fl W),cL 1,cS (al w),cL 2,none,none],u,3⟩
   = some (.next,⟨[some (.fl W),cL 1,cS (al w),cL 2,cL 3,none],(3,.list (au V))::u,4⟩):=
  ax (dO (ids:=[]) (os:=[]) (ns:=[.list (au V)]) (p:=.loc 0) (aw (g:=aj) (p:=.str (al w)) rfl rfl) rfl rfl (fun _ h=>by cases h) rfl E rfl rfl (fun H h=>by rw [cJ.mp h];exact cZ _)) rfl
 rw [ad s3];have g6:ae (aa 1) (ab (.int 6)) aO ⟨[some (.fl W),cL 1,cS (al w),cL 2,cL 3,none],(3,.list (au V))::u,4⟩=some (.int d6,⟨[some (.fl W),cL 1,cS (al w),cL 2,cL 3,none],(3,.list (au V))::u,4⟩):=
  ak rfl rfl (gM (σ:=⟨_,(3,.list (au V))::u,4⟩) (by show List.lookup 1 _=_;rw [bg (by decide)];exact j) (fL (i:=6) z2 (by exact(MA t))))
 have s4:ai (bc Fq (ac (aa 2) (ac (ae (aa 1) (ab (.int 6)) aO) aj))) (am 5) ⟨[some (.fl W),cL 1,cS (al w),cL 2,cL 3,none],(3,.list (au V))::u,4⟩
   = some (.next,⟨[some (.fl W),cL 1,cS (al w),cL 2,cL 3,cL 4],(4,.list (au X))::(3,.list (au V))::u,5⟩):=
  ax (dO (ids:=[]) (os:=[]) (ns:=[.list (au X)]) (p:=.loc 0) (aw (p:=.str (al w)) rfl (aw (g:=aj) g6 rfl)) rfl rfl (fun _ h=>by cases h) rfl O rfl rfl (fun H h=>by rw [cJ.mp h];exact cZ _)) rfl
 rw [ad s4];have t0:((4,AO.list (au X))::(3,.list (au V))::u).lookup 0=some (.cell none):=by rw [bg (by decide),bg (by decide)];exact q0
 have t1:((4,AO.list (au X))::(3,.list (au V))::u).lookup 1=some (.list (Z.map .int)):=by rw [bg (by decide),bg (by decide)];exact j
 have t2:((4,AO.list (au X))::(3,.list (au V))::u).lookup 2=some (.list (au Y)):=by rw [bg (by decide),bg (by decide)];exact q2
 have k:((4,AO.list (au X))::(3,.list (au V))::u).lookup 3=some (.list (au V)):=by rw [bg (by decide),cx]
 have n:((4,AO.list (au X))::(3,.list (au V))::u).lookup 4=some (.list (au X)):=cx;generalize ((4,AO.list (au X))::(3,.list (au V))::u)=v at t0 t1 t2 k n ⊢
 have I:∀(a i:Nat) (l:List Nat),fB [some (.fl W),cL 1,cS (al w),cL 2,cL 3,cL 4] a=some (.loc i)->v.lookup i=some (.list (au l))->l.length=5->aq (ae (aB cX (ac (aa a) aj)) (ab (.int 5)) mJ) ⟨[some (.fl W),cL 1,cS (al w),cL 2,cL 3,cL 4],v,5⟩=some (false,⟨[some (.fl W),cL 1,cS (al w),cL 2,cL 3,cL 4],v,5⟩):=fun a i l ha hi hl=>by
  refine aD (p:=.bool false) (ak (bN (aw (g:=aj) (eS ha) rfl) (qm (σ:=⟨_,v,5⟩) hi (by rw [cC];exact KU hl))) rfl ?_) rfl;rw [cC,hl];exact vI
 have s5:di (iy (aq (ae (aB cX (ac (aa 4) aj)) (ab (.int 5)) mJ)) (iy (aq (ae (aB cX (ac (aa 5) aj)) (ab (.int 5)) mJ)) ir)) (ap (bF (ab (.bool false))) ah) ah ⟨[some (.fl W),cL 1,cS (al w),cL 2,cL 3,cL 4],v,5⟩
   = some (.next,⟨[some (.fl W),cL 1,cS (al w),cL 2,cL 3,cL 4],v,5⟩):=
  (bq ((lF (I 4 3 V rfl k R)).trans ((lF (I 5 4 X rfl n z1)).trans rfl))).trans rfl
 rw [ad s5];have s6:ai (bc DS (ac (aa 4) (ac (aa 3) aj))) (gi 0) ⟨[some (.fl W),cL 1,cS (al w),cL 2,cL 3,cL 4],v,5⟩
   = some (.next,⟨[some (.fl W),cL 1,cS (al w),cL 2,cL 3,cL 4],av ((5,.list (U.map .int))::av (av v 3 (.list (au V))) 2 (.list (au Y))) 0 (.cell (some (.loc 5))),6⟩):=by
  refine ax (dO (ids:=[3,2]) (os:=[.list (au V),.list (au Y)]) (ns:=[.list (U.map .int)]) (p:=.loc 2) (aw (p:=.loc 3) rfl (aw (g:=aj) (p:=.loc 2) rfl rfl)) rfl (by show [v.lookup 3,v.lookup 2]=_;rw [k,t2];rfl) (fun H h=>?_) rfl N rfl rfl (fun H h=>by rw [cJ.mp h];exact eW _)) (kH (o:=none) ?_)
  .rcases cN.mp h with rfl|h
   .exact cZ _
   .rw [cJ.mp h];exact cZ _
  .show List.lookup 0 ((5,_)::av (av v 3 _) 2 _)=_
   rw [bg (by decide),az (by decide),az (by decide)];exact t0
 rw [ad s6];have x0:(av ((5,AO.list (U.map .int))::av (av v 3 (.list (au V))) 2 (.list (au Y))) 0 (.cell (some (.loc 5)))).lookup 0=some (.cell (some (.loc 5))):=aM;have x1:(av ((5,AO.list (U.map .int))::av (av v 3 (.list (au V))) 2 (.list (au Y))) 0 (.cell (some (.loc 5)))).lookup 1=some (.list (Z.map .int)):=by rw [az (by decide),bg (by decide),az (by decide),az (by decide)];exact t1
 have x2:(av ((5,AO.list (U.map .int))::av (av v 3 (.list (au V))) 2 (.list (au Y))) 0 (.cell (some (.loc 5)))).lookup 2=some (.list (au Y)):=by rw [az (by decide),bg (by decide),aM]
 have x3:(av ((5,AO.list (U.map .int))::av (av v 3 (.list (au V))) 2 (.list (au Y))) 0 (.cell (some (.loc 5)))).lookup 3=some (.list (au V)):=by rw [az (by decide),bg (by decide),az (by decide),aM]
 have x4:(av ((5,AO.list (U.map .int))::av (av v 3 (.list (au V))) 2 (.list (au Y))) 0 (.cell (some (.loc 5)))).lookup 4=some (.list (au X)):=by rw [az (by decide),bg (by decide),az (by decide),az (by decide)];exact n
 have x5:(av ((5,AO.list (U.map .int))::av (av v 3 (.list (au V))) 2 (.list (au Y))) 0 (.cell (some (.loc 5)))).lookup 5=some (.list (U.map .int)):=by rw [az (by decide),cx]
 generalize av ((5,AO.list (U.map .int))::av (av v 3 (.list (au V))) 2 (.list (au Y))) 0 (.cell (some (.loc 5)))=y at x0 x1 x2 x3 x4 x5 ⊢
 have g5:ae (aa 1) (ab (.int 5)) aO ⟨[some (.fl W),cL 1,cS (al w),cL 2,cL 3,cL 4],y,6⟩=some (.int d5,⟨[some (.fl W),cL 1,cS (al w),cL 2,cL 3,cL 4],y,6⟩):=
  ak rfl rfl (gM (σ:=⟨_,y,6⟩) x1 (fL (i:=5) z4 (by exact(MA t))))
 have e7:bc (Fd P) (ac (aa 5) (ac (aa 3) (ac (ae (aa 1) (ab (.int 5)) aO) aj))) ⟨[some (.fl W),cL 1,cS (al w),cL 2,cL 3,cL 4],y,6⟩
   = some (.loc 6,⟨[some (.fl W),cL 1,cS (al w),cL 2,cL 3,cL 4],(6,.list (S.map .int))::av (av y 4 (.list (au X))) 2 (.list (au Y)),7⟩):=by
  refine dO (ids:=[4,2]) (os:=[.list (au X),.list (au Y)]) (ns:=[.list (S.map .int)]) (p:=.loc 2) (aw (p:=.loc 4) rfl (aw (p:=.loc 2) rfl (aw (g:=aj) g5 rfl))) rfl (by show [y.lookup 4,y.lookup 2]=_;rw [x4,x2];rfl) (fun H h=>?_) rfl F rfl rfl (fun H h=>by rw [cJ.mp h];exact eW _);rcases cN.mp h with rfl|h
  .exact cZ _
  .rw [cJ.mp h];exact cZ _
 have q:((6,AO.list (S.map .int))::av (av y 4 (.list (au X))) 2 (.list (au Y))).lookup 0=some (.cell (some (.loc 5))):=by rw [bg (by decide),az (by decide),az (by decide)];exact x0
 have r:((6,AO.list (S.map .int))::av (av y 4 (.list (au X))) 2 (.list (au Y))).lookup 3=some (.list (au V)):=by rw [bg (by decide),az (by decide),az (by decide)];exact x3
 have s:((6,AO.list (S.map .int))::av (av y 4 (.list (au X))) 2 (.list (au Y))).lookup 5=some (.list (U.map .int)):=by rw [bg (by decide),az (by decide),az (by decide)];exact x5
 have z6:((6,AO.list (S.map .int))::av (av y 4 (.list (au X))) 2 (.list (au Y))).lookup 6=some (.list (S.map .int)):=cx;generalize ((6,AO.list (S.map .int))::av (av y 4 (.list (au X))) 2 (.list (au Y)))=z at q r s z6 e7
 obtain⟨l',T,ec,gc,go⟩:=Cv (nx:=8) (ws:=U) (ms:=V) (by exact(aH 0x32200000942000821 rfl R)) Q V 0 100 [] ((7,.list [])::z) none B rfl (by exact(aH 0x64200010942000821 rfl R)) (by simp;exact aH 0x64200000942000821 rfl R) (by rw [bg (by decide)];exact r) (by rw [bg (by decide)];exact q) (by rw [bg (by decide)];exact s) cx;rw [pp]at gc
 have e8:iw 100 1 (dj (aa 4)) (am 0) gG (ae (bi 0) (aa 0) aO) ⟨[some (.fl W),cL 1,cS (al w),cL 2,cL 3,cL 4],z,7⟩=some (.loc 7,⟨[some (.fl W),cL 1,cS (al w),cL 2,cL 3,cL 4],T,8⟩):=by
  have b:dj (aa 4) ⟨[some (.fl W),cL 1,cS (al w),cL 2,cL 3,cL 4],z,7⟩=some (.lst 3 0,⟨[some (.fl W),cL 1,cS (al w),cL 2,cL 3,cL 4],z,7⟩):=by
   refine jq (p:=.loc 3) rfl ?_
   show(dN (z.lookup 3)).bind _=_;rw [r];rfl
  unfold iw;rw [b];dsimp only;rw [show(List.replicate 1 (none:Option PV))=[none]from rfl,ec]
 have w0:T.lookup 0=some (.cell (some (.loc 5))):=by rw [go 0 (by decide),bg (by decide)];exact q
 have w5:T.lookup 5=some (.list (U.map .int)):=by rw [go 5 (by decide),bg (by decide)];exact s
 have w6:T.lookup 6=some (.list (S.map .int)):=by rw [go 6 (by decide),bg (by decide)];exact z6
 have A:U[31]?=some (U.getD 31 0):=by rw [gv,fC (by exact(aH 0xf84210808000a21 rfl Q))];rfl
 have e9:ae (bi 0) (ab (.int 31)) aO ⟨[some (.fl W),cL 1,cS (al w),cL 2,cL 3,cL 4],T,8⟩=some (.int (U.getD 31 0),⟨[some (.fl W),cL 1,cS (al w),cL 2,cL 3,cL 4],T,8⟩):=
  ak (cp (σ:=⟨_,T,8⟩) w0) rfl (gM (σ:=⟨_,T,8⟩) w5 (fL (i:=31) A (by exact(aH 0x7d04000010808000821 rfl Q))))
 have y0:bD (ac (ae (bi 0) (ab (.int 31)) aO) aj) ⟨[some (.fl W),cL 1,cS (al w),cL 2,cL 3,cL 4],T,8⟩=some (.loc 8,⟨[some (.fl W),cL 1,cS (al w),cL 2,cL 3,cL 4],(8,.list [.int (U.getD 31 0)])::T,9⟩):=
  qg (aw (g:=aj) e9 rfl) (show 1<=2^20 by decide)
 have x:(V.map fun m:Nat=>U.getD m 0).map PV.int++[.int (U.getD 31 0)]=S.map PV.int:=by rw [c];simp
 have z9:ba (.loc 7) (.loc 8) ⟨[some (.fl W),cL 1,cS (al w),cL 2,cL 3,cL 4],(8,.list [.int (U.getD 31 0)])::T,9⟩=some (.loc 9,⟨[some (.fl W),cL 1,cS (al w),cL 2,cL 3,cL 4],(9,.list (S.map .int))::(8,.list [.int (U.getD 31 0)])::T,10⟩):=by
  have a1:((8,AO.list [.int (U.getD 31 0)])::T).lookup 7=some (.list ((V.map fun m:Nat=>U.getD m 0).map .int)):=by rw [bg (by decide)];exact gc
  have a2:((8,AO.list [.int (U.getD 31 0)])::T).lookup 8=some (.list [.int (U.getD 31 0)]):=cx;refine(tB a1 a2 (by rw [cW,cW];simp only [cm,fG];exact aH 0x800001821000400942000821 rfl R)).trans ?_
  rw [x]
 have z8:jd (.loc 6) (.loc 9) ⟨[some (.fl W),cL 1,cS (al w),cL 2,cL 3,cL 4],(9,.list (S.map .int))::(8,.list [.int (U.getD 31 0)])::T,10⟩=some (.bool true,⟨[some (.fl W),cL 1,cS (al w),cL 2,cL 3,cL 4],(9,.list (S.map .int))::(8,.list [.int (U.getD 31 0)])::T,10⟩):=
  LO (ws:=S) (by show List.lookup 6 _=_;rw [bg (by decide),bg (by decide)];exact w6) cx
 exact⟨_,aG (cT (ak e7 (ak e8 y0 z9) z8))⟩
noncomputable def qB(K:Frag)(x:Str):Option (Option Value):=(K.lookup mainGlobals).bind (lookIn x)
noncomputable def OO(Z:List Addr)(h:Heap):Addr->Option Obj:=fun a=>if a∈Z then none else h.get? a
theorem je{Z:List Addr}{h:Heap}{a:Addr}{o:Obj}:OO Z h a=some o↔a∉Z/\h.get? a=some o:=by
 unfold OO
 by_cases Y:a∈Z
 .rw [aC Y];exact⟨fun e=>(nomatch e),fun e=>absurd Y e.1⟩
 .rw [aF Y];exact⟨fun e=>⟨Y,e⟩,fun e=>e.2⟩
set_option tactic.hygienic true in
theorem tX{Z:Array DictEntry}{X:Nat}{o:Obj}{x:Str}{r:Option Value}(Y:o.data=.dict Z X)(h:lookIn x o=some r):nsFind Z x=r:=by
 unfold lookIn at h
 rw [Y]at h
 dsimp only at h
 unfold nsFind findBy;rw [<-By]
 split at h
 .rename_i e q;obtain rfl:=aZ h;rw [q];rfl
 .rename_i q
  split at h
  .exact aW h
  .obtain rfl:=aZ h;rw [q];rfl
structure qx(T:Tp)(s₁:Shared)(p:Program)(loose:List Str)(mean:ExcName->Option Value)(mg mb:Str->Option Value):Prop where
 KX:T.K.In s₁.heap
 top:Top p loose mean mg mb s₁.heap
 tab:∀P∈T.tabs,s₁.heap.get? P=some (tabObj #[])
 ktab:T.tabs.all (fun P=>(T.K.lookup P).isNone)=true
 gl:∀e∈T.gl,qB T.K e.1=some (some e.2)
 bl:∀e∈T.bl,qB T.K e.1=some none/\bootBuiltins e.1=some e.2/\e.1≠"__name__"
 big:∃a o,T.K.lookup a=some o/\sysModules<a
 os:s₁.os=T.os
 bare:AllBare s₁.gens
theorem qx.topOK{T:Tp}{Z:Shared}{p:Program}{W:List Str}{R:ExcName->Option Value}{S F:Str->Option Value}(B:qx T Z p W R S F):ki T (OO T.tabs Z.heap):=by
 have keep:∀{h:Heap},FH (OO T.tabs Z.heap) h->∀a o,(∀G,o.data≠.fields G)->Z.heap.get? a=some o->h.get? a=some o:=fun Y a o w e=>by
  refine Y a o (je.mpr ⟨fun N=>?_,e⟩);have:=B.tab a N;rw [e]at this;obtain rfl:=aZ this
  exact w _ rfl
 have X:∀{h:Heap},FH (OO T.tabs Z.heap) h->∀{a:Addr} {m:Str->Option Value},Z.heap.Ns a m->h.Ns a m:=fun Y a m ⟨o,D,C,H,M,r⟩=>⟨o,D,C,keep Y a o (fun G e=>by rw [M]at e;cases e) H,M,r⟩
 have Q:∀a o,T.K.lookup a=some o->OO T.tabs Z.heap a=some o:=fun a o e=>by
  refine je.mpr ⟨fun N=>?_,B.KX a o e⟩;have:=dl.mp B.ktab a N;rw [e]at this;exact mU this
 have O:∀x r,qB T.K x=some r->S x=r:=fun x r e=>by
  obtain⟨o,H,u⟩:=py.mp e;obtain⟨n,D,C,P,M,l,t⟩:=B.top.g;have:=B.KX _ _ H;rw [this]at P;obtain rfl:=aZ P
  rw [<-t];exact tX M u
 refine⟨Q,fun i x v e h Y=>⟨S,X Y B.top.g,O x _ (B.gl (x,v) (ic e))⟩,fun i x v e h Y=>?_,fun h Y=>?_,?_,fun h Y=>?_⟩
 .obtain⟨U,V,I⟩:=B.bl (x,v) (ic e)
  exact⟨S,F,X Y B.top.g,O x _ U,X Y B.top.b,(B.top.builtins x I).trans V⟩
 .obtain⟨y,U,V⟩:=B.top.nolimit
  exact⟨y,X Y U,V⟩
 .obtain⟨a,o,U,V⟩:=B.big
  exact⟨a,o,Q a o U,V⟩
 .obtain⟨A,z,U,V,I,q,s,E⟩:=B.top.bmain
  refine⟨S,A,z,X Y B.top.g,U,V,je.mpr ⟨fun N=>?_,I⟩,q,s,E⟩;have:=B.tab A N;rw [I]at this;obtain rfl:=aZ this
  cases E
theorem qx.rel{T:Tp}{Z:Shared}{p:Program}{Y:List Str}{X:ExcName->Option Value}{U S:Str->Option Value}(B:qx T Z p Y X U S):gQ T QR ⟨OO T.tabs Z.heap,fun _=>0,0⟩ (gr 0 []) Z:=
 ⟨B.topOK,fun a o e=>(je.mp e).2,fun a o e=>(nomatch e),fun g x e=>(nomatch e),fun i R e=>(nomatch e),fun i W=>absurd W (ix i),fun i j W=>absurd W (ix i),
  fun P V=>⟨aC V,rfl,#[],B.tab P V,.inl rfl⟩,B.bare,B.os,fun i W=>absurd W (ix i)⟩
theorem Ab{Y:List Value}{X:List Int}(h:IntsAre Y X):∃Z:List (Int×Tok),Y=Z.map (fun x=>Value.int x.1 x.2)/\Z.map (·.1)=X:=by
 induction h with
 |nil=>exact⟨[],rfl,rfl⟩
 |cons _ _ _ W=>obtain⟨Z,rfl,rfl⟩:=W;exact⟨(_,_)::Z,rfl,rfl⟩
set_option tactic.hygienic true in
theorem HQ{T:Tp}{b:Nat}{Z:Shared}{p:Program}{U:List Str}{Q:ExcName->Option Value}{j i:Str->Option Value}(B:qx T Z p U Q j i)
  {l a:Addr} {C:bO} {N:List Value} {u:List Int} (hC:aU T b (.ref l) (fun N=>⟨N,[]⟩) C) {t:List AO} (O:C [.fl u] []=some (.bool true,[],t))
  (X:b<=100) (d:Z.heap.IsList a N.toArray) (hI:IntsAre N u) (H:∀P∈T.tabs,isCodeTable Z.heap P)
  {z:ClaimW} {cl:Str->Option Addr} {V:ExcName->Option Value} {Y:List WData} (G:∀y,z.raises Y y=false) (S:z.post Y (.bool true) Y=true):
  codeAny (model T.prog T.w) callerA (.call (.ref l) ⟨[.ref a],[]⟩) (GoodWG z cl V Y Z) Z:=by
 have hA:jb b callerA:=⟨by show 1+claimMargin+b<_;unfold recursionLimit claimMargin;exact aH 0x7d040012d208211908000021 rfl X,by show 4+8*b+100<_;unfold cLine;exact aH 0x9ab0a32100040c81108211908000101 rfl X,rfl⟩;obtain⟨M,rfl,rfl⟩:=Ab hI;obtain⟨o,q,m,n,c⟩:=d;have E:a∉T.tabs:=fun D=>by
  have:=B.tab a D;rw [q]at this;obtain rfl:=aZ this
  exact absurd m (by decide)
 have h:aP (⟨OO T.tabs Z.heap,fun _=>0,0⟩:Wd) [.fl (M.map (·.1))] [.ref a]:=⟨_,[],rfl,⟨a,o,n,M,rfl,je.mpr ⟨E,q⟩,m,c,rfl⟩,rfl⟩;refine mt (hC callerA QR _ Z [.ref a] [.fl (M.map (·.1))] [] (.bool true) [] t hA O rfl h rfl B.rel) fun r k s=>?_
 rcases r with e|(_|_|_|_)<;>first|exact s.elim|skip
 rename_i v;obtain⟨W',g,I,W,f⟩:=s;rw [show v=.bool true from I];have R:∀b o,b∉T.tabs->Z.heap.get? b=some o->k.heap.get? b=some o:=fun b o X e=>W.hF b o (g.F b o (je.mpr ⟨X,e⟩))
 refine⟨.inl ⟨_,.bool true,[],rfl,G,?_,S,fun _=>⟨rX,fun a D=>by cases D⟩⟩,⟨fun b o e=>?_,fun b o e=>?_⟩,W.os.trans B.os.symm,W.bare⟩
 .exact .bool _
 .by_cases X:b∈T.tabs
  .have:=B.tab b X
   rw [e]at this;cases this
   obtain⟨_,_,x,A,_⟩:=W.tabs b X;exact .inr (.inl ⟨H b X,rfl,#[],x,rfl,by rw [Array.empty_append];exact A⟩)
  .exact .inl (R b o X e)
 .by_cases X:b∈T.tabs
  .obtain⟨_,_,x,A,_⟩:=W.tabs b X
   exact⟨_,A⟩
  .exact⟨o,R b o X e⟩
theorem DW{T:Tp}{b:Nat}{Z:Shared}{p:Program}{W:List Str}{S:ExcName->Option Value}{E D:Str->Option Value}(B:qx T Z p W S E D)
  {G a:Addr} {C:bO} {O:List Value} {U:List Int} (v:aU T b (.ref G) (fun O=>⟨O,[]⟩) C) (R:∀U:List Int,U.length<=63->∃F,C [.fl U] []=some (.bool true,[],F)) (y:b<=100) (z:Z.heap.IsList a O.toArray) (x:IntsAre O U) (Q:U.length<=63) (N:∀P∈T.tabs,isCodeTable Z.heap P)
  {I:ClaimW} {u:Str->Option Addr} {X:ExcName->Option Value} {Y:List WData} (M:∀H,I.raises Y H=false) (V:I.post Y (.bool true) Y=true):
  codeAny (model T.prog T.w) callerA (.call (.ref G) ⟨[.ref a],[]⟩) (GoodWG I u X Y Z) Z:=
 let⟨_,A⟩:=R U Q
 HQ B v A y z x N M V
theorem Tr(P):∀e∈VG,qB (hd.heap_1 P) e.1=some (some e.2):=by
 intro e Z;simp only [VG,cN,lM,iY]at Z
 rcases Z with rfl|rfl|rfl|rfl|rfl|rfl|rfl|rfl|rfl|rfl|rfl|rfl|rfl|rfl|rfl|rfl|rfl|rfl|rfl|rfl|rfl|rfl|rfl|rfl|rfl|rfl|rfl|rfl|rfl|rfl<;>left
theorem Vt(P):∀e∈Vz,qB (hd.heap_1 P) e.1=some none/\bootBuiltins e.1=some e.2/\e.1≠"__name__":=by
 intro e Z;simp only [Vz,cN,lM,iY]at Z
 rcases Z with rfl|rfl|rfl|rfl|rfl|rfl|rfl|rfl|rfl|rfl|rfl|rfl|rfl|rfl|rfl|rfl|rfl|rfl|rfl<;>exact⟨by left,by left,by decide⟩
theorem LX{P:Params}{prog:Program}{w:World}{Z:Shared}{p:Program}{Y:List Str}{X:ExcName->Option Value}{V U:Str->Option Value}(N:(hd.heap_1 P).In Z.heap)(T:Top p Y X V U Z.heap)
  (W:∀Q∈[104,97,69],Z.heap.get? Q=some (tabObj #[])) (R:Z.gens=#[]):qx (TT P prog w Z.os) Z p Y X V U:=
 ⟨N,T,fun Q O=>W Q (by
  have h:Q=69\/Q=97\/Q=104:=by simpa [TT]using O
  rcases h with rfl|rfl|rfl<;>simp),by left,Tr P,Vt P,⟨337,ck P 337,by left,by decide⟩,rfl,by rw [R];intro x S;simp at S⟩
set_option maxHeartbeats 4000000 in
theorem law1_of{C:Params->bO}{b:Nat}(hb:b<=100)(hC:∀P prog w os,aU (TT P prog w os) b (.ref 337) (fun vs=>⟨vs,[]⟩) (C P))(hrun:∀P,∀ns:List Int,ns.length<=63->∃nl,C P [.fl ns] []=some (.bool true,[],nl)):PySem.Challenge.rw_wk0052_01.Holds:=hd (by
 k_fill
 intro w s₀ s₁ mg mb G Y fa o pm cd doc dV kV ho hd hcd hD hmg hg args vals as hpre hlay hrd hwl hlo;have KX:=km_in_of Y;have hT8:=km_tabs_of Y;have X:=(Ground.X G).1;have V:=(Ground.X G).2;refine Ground.open G ?_
 intro T B D TE TW
 try (refine guard_noD D (by decide +kernel) ?_;clear D)
 have BB:=LX (prog:=PySem.Challenge.rw_wk0052_01.row.prog) (w:=w) KX T hT8 hg;have hfa:fa=337:=by
  obtain⟨o',es,ep,ho',hd',hk',hf'⟩:=T.g;have h1:=Tr w.params (Str.ofString "law",.ref 337) (by trivial);obtain⟨o'',ho'',hl''⟩:=py.mp h1;have h2:=KX _ _ ho'';rw [ho']at h2;obtain rfl:=aZ h2
  have h3:=tX hd' hl'';rw [hf',hmg]at h3
  cases h3;rfl
 subst hfa
 wrow_args hpre hlay hrd hwl hlo
 all_goals (
  first|refine callC_kw (enter_call ?_)|refine enter_call ?_|refine callC_kw (enter_callW ?_)|refine enter_callW ?_|w_how)
 rename_i hL _ _ _ hI _ hcond _;refine DW BB (hC _ _ _ _) (hrun _) hb hL hI (by exact(aH 0x1f900000400487e44b021 rfl hcond)) (fun Q hQ=>?_) (fun _=>rfl) ?_
 .have h:Q=69\/Q=97\/Q=104:=by simpa [TT]using hQ
  rcases h with rfl|rfl|rfl
  .exact((oj (c:=73) (P:=69) KX (by left)).tab (hT8 69 (by exact .tail _ (.tail _ (.head _))))).isCodeTable
  .exact((oj (c:=101) (P:=97) KX (by left)).tab (hT8 97 (by exact .tail _ (.head _)))).isCodeTable
  .exact((oj (c:=108) (P:=104) KX (by left)).tab (hT8 104 (by exact oI))).isCodeTable
 .left)
theorem aU.up{T:Tp}{b Y:Nat}{f:Value}{Z:List Value->Args}{C:bO}(h:aU T b f Z C)(X:b<=Y):aU T Y f Z C:=h.mono (fun _ _ _ e=>e) X
theorem all_ok(P prog w os):aU (TT P prog w os) 31 (.ref 337) (fun Z=>⟨Z,[]⟩) (Rd P):=by
 have T:=fun b r=>PK P prog w os b r
 have s:aU (TT P prog w os) 21 (.ref 52) (fun Z=>⟨Z,[]⟩) RK:=SH P prog w os 20 1000 (T 20 (by decide));have t:aU (TT P prog w os) 22 (.ref 59) (fun Z=>⟨Z,[]⟩) Br:=Sh P prog w os 21 1000 s (T 21 (by decide));have Q:aU (TT P prog w os) 23 (.ref 320) (fun Z=>⟨Z,[]⟩) Fq:=Pd P prog w os 22 1000 t;have D:aU (TT P prog w os) 21 (.ref 130) (fun Z=>⟨Z,[]⟩) sX:=Qn P prog w os 20 100;have M:aU (TT P prog w os) 22 (.ref 299) (fun Z=>⟨Z,[]⟩) EN:=Rk P prog w os 21 100 D;have u:aU (TT P prog w os) 21 (.ref 67) (fun Z=>⟨Z,[]⟩) Od:=Uf P prog w os 20 100;have v:aU (TT P prog w os) 22 (.ref 74) (fun Z=>⟨Z,[]⟩) (UP P):=RS P prog w os 21 100 10 (by decide) u;have x:aU (TT P prog w os) 23 (.ref 81) (fun Z=>⟨Z,[]⟩) (RI P):=RV P prog w os 22 100 v;have U:aU (TT P prog w os) 21 (.ref 88) (fun Z=>⟨Z,[]⟩) (DG AI):=OP P prog w os 20 100 aU.never;have z:aU (TT P prog w os) 22 (.ref 95) (fun Z=>⟨Z,[]⟩) (Lk (DG AI)):=SN P prog w os 21 100 U;have y:aU (TT P prog w os) 23 (.ref 88) (fun Z=>⟨Z,[]⟩) RN:=OP P prog w os 22 100 z;have A:aU (TT P prog w os) 23 (.ref 102) (fun Z=>⟨Z,[]⟩) (JQ P):=QI P prog w os 22 100 10 (by decide);have B:aU (TT P prog w os) 23 (.ref 109) (fun Z=>⟨Z,[]⟩) (Jv P):=PA P prog w os 22 100 10 (by decide);have Y:aU (TT P prog w os) 24 (.ref 116) (fun Z=>⟨Z,[]⟩) (MC P):=Ql P prog w os 23 100 A y B;have V:aU (TT P prog w os) 25 (.ref 123) (fun Z=>⟨Z,[]⟩) (jZ P AI):=BS P prog w os 24 100 aU.never Y;have W:aU (TT P prog w os) 26 (.ref 123) (fun Z=>⟨Z,[]⟩) (jZ P (jZ P AI)):=BS P prog w os 25 100 V (Y.up (by decide));have C:aU (TT P prog w os) 27 (.ref 123) (fun Z=>⟨Z,[]⟩) (Iu P):=BS P prog w os 26 100 W (Y.up (by decide));have R:aU (TT P prog w os) 28 (.ref 327) (fun Z=>⟨Z,[]⟩) (ET P):=QV P prog w os 27 100 C;have X:=PG P prog w os 20 100;have E:aU (TT P prog w os) 22 (.ref 213) (fun Z=>⟨Z,[]⟩) vj:=Px P prog w os 21 100 X;have G:aU (TT P prog w os) 22 (.ref 271) (fun Z=>⟨Z,[]⟩) AH:=PB P prog w os 21 100 X;have F:aU (TT P prog w os) 21 (.ref 238) (fun Z=>⟨Z,[]⟩) sI:=RB P prog w os 20 100;have S:aU (TT P prog w os) 29 (.ref 332) (fun Z=>⟨Z,[]⟩) (Fd P):=PD P prog w os 28 100 (E.up (by decide)) (x.up (by decide)) R (G.up (by decide)) (F.up (by decide)) (Mv P prog w os 26);have H:aU (TT P prog w os) 21 (.ref 285) (fun Z=>⟨Z,[]⟩) Ew:=Qe P prog w os 20 100;have I:aU (TT P prog w os) 21 (.ref 292) (fun Z=>⟨Z,[]⟩) Fi:=Pa P prog w os 20 100;have N:aU (TT P prog w os) 21 (.ref 306) (fun Z=>⟨Z,[]⟩) Fc:=PN P prog w os 20 100;have O:aU (TT P prog w os) 22 (.ref 313) (fun Z=>⟨Z,[]⟩) DS:=Pt P prog w os 21 100 N;exact PU P prog w os 30 100 (H.up (by decide)) (I.up (by decide)) (M.up (by decide)) (Q.up (by decide)) (O.up (by decide)) (S.up (by decide))
end Mine
end
set_option maxHeartbeats 8000000 in
theorem PySem.Challenge.cw_wk0052_01_holds : PySem.Challenge.rw_wk0052_01.Holds :=
 Mine.law1_of (b:=31) (by decide) Mine.all_ok (fun P ns hn=>⟨[],Mine.run337 P hn⟩)
