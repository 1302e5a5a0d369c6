import PyProof.Rows.All
import Wide.All
import OpenK.AllK
import Wide.FinOn
import KE.IntBitsLaws
import KE.KIntText
import KE.KSortTup
import PyProof.Rows.FactsExc_ZeroDivisionError
import Lean
import PySem.Challenge.RW_wk0052_02
set_option Elab.async false
set_option linter.all false
set_option maxRecDepth 1000000
set_option maxHeartbeats 8000000
set_option exponentiation.threshold 200000
section
open PySem PySem.W PyProof.Rows
namespace Mine
def viewQ:Program:=view PySem.Challenge.pw_wk0052_02 [0,1,3,4,7,8,9,10,11,12,13,14,15,17,18,19,21,22,23,25,27,28,29,30,31,32,33,34,35,36,37,38]
def looseQ:List Str:=["compute_powers","tspecials","_name_disallowed_re","_value_disallowed_re","_formatparam"]
def xtQ(s:Shared):Bool:=xlAt viewQ [] s&&recOk (RowW.records PySem.Challenge.rw_wk0052_02.row.toRowW) s
theorem left_two{p q:Program}{Z:List Str}{U:Shared->Bool}{X:Type}{W:Shared->X}{V:World->X}{N:Nat}(R:∀w,(openEnds treeTable p w N).map (fun s=>openSeen q Z (importedModules p.main.body) U true s)=some (openGood q Z))(S:∀w,(openEnds treeTable p w N).map W=some (V w)):LeftO p q Z U W V N:=fun w=>by
 obtain⟨s,T,Q⟩:=Option.map_eq_some_iff.mp (R w);have Y:=S w;rw [T]at Y ⊢
 rw [Option.map_some,Option.some.injEq]at Y
 rw [Option.map_some,Q,Y]
end Mine
local macro_rules | `(tactic| o_law) => `(tactic| refine holds_law (l := PySem.Challenge.rw_wk0052_02) (by decide +kernel) fun said => ?_)
open PySem.W.Fast in
theorem Mine.quick_ends{w:World}{N:Nat}{X:Type}{f:Shared->X}{x:X}(h:((((tw10274390034422433532 tw14364793385576792824 (opening PySem.Challenge.pw_wk0052_02) w N (tw1435165496053646825 (opening PySem.Challenge.pw_wk0052_02)).1 (tw1435165496053646825 (opening PySem.Challenge.pw_wk0052_02)).2).bind (tw14289696077712309145 PySem.Challenge.pw_wk0052_02)).bind fun Z=>match Z.heap.isNs mainGlobals&&Z.gens.size==0 with
  |true=>(tw14082659384304107361 tw14364793385576792824 PySem.Challenge.pw_wk0052_02 w Z.heap.objs.size (Z.heap.nsMap mainGlobals "__annotations__") N Z (topStub PySem.Challenge.pw_wk0052_02)).bind fun Y=>match staticsOk (importedModules PySem.Challenge.pw_wk0052_02.main.body) Z.heap Y.heap&&namesBound PySem.Challenge.pw_wk0052_02 Y.heap&&gensDone Y&&laidKept Z.heap Y.heap with
   |true=>some Y
   |false=>none
  |false=>none).map f)=some x):(openEnds treeTable PySem.Challenge.pw_wk0052_02 w N).map f=some x:=by
 unfold openEnds fencedOpening topFrom;rw [te14082659384304107361,te14364793385576792824,te10274390034422433532,te14289696077712309145,te1435165496053646825];exact h
open PySem.W.Fast in
theorem Mine.quick_seen{w:World}:(openEnds treeTable PySem.Challenge.pw_wk0052_02 w 3900).map (fun s=>openSeen Mine.viewQ Mine.looseQ (importedModules PySem.Challenge.pw_wk0052_02.main.body) Mine.xtQ true s)=some (openGood Mine.viewQ Mine.looseQ):=by
 rw [te4187177175401517315];exact Mine.quick_ends (by kernel_rfl)
local macro_rules | `(tactic| o_head $H) => `(tactic| (
  refine holds_open (q := Mine.viewQ) (loose := Mine.looseQ) (Xt := Mine.xtQ) (XP := XL Mine.viewQ []) (Yf := Hook.obs $H) (Ya := Hook.val $H) (YP := Hook.says $H) (N := 3900) ?hl (Hook.of $H) (Hook.keeps $H) (fun s e => xl_of s (Bool.and_eq_true_iff.mp e).1) XL.keeps (by rfl) (by rfl) (by rfl) (fun s e => recFacts_of (Bool.and_eq_true_iff.mp e).2) (by rfl) (by first | assumption | decide +kernel) (by decide +kernel) ⟨rfl, rfl, rfl, rfl, rfl, by decide +kernel⟩ ?hw ?hc
  (case hl => exact Mine.left_two (fun w => Mine.quick_seen) (fun w => Mine.quick_ends (by kernel_rfl)))))
namespace Mine
set_option compiler.extract_closed false in
open_top hd for PySem.Challenge.rw_wk0052_02
end Mine
end
set_option genSizeOf false
set_option genInjectivity false
namespace Mine
inductive L|v(i:Nat)|n(k:Nat)|a(x y:L)|m(k:Nat)(x:L)|w(i:Nat)|s(x y:L)|g(x:L)|c(x:L)
noncomputable def L.nat(c:List Nat):L->Nat
 |.v i=>c.getD i 0
 |.n k=>k
 |.a x y=>x.nat c+y.nat c
 |.m k x=>k*x.nat c
 |_=>0
noncomputable def L.int(c:List Nat)(d:List Int):L->Int
 |.a x y=>x.int c d+y.int c d
 |.m k x=>(k:Int)*x.int c d
 |.w i=>d.getD i 0
 |.s x y=>x.int c d-y.int c d
 |.g x=>- x.int c d
 |.c x=>(x.nat c:Int)
 |_=>0
noncomputable def Po:List Int->List Int->List Int
 |[],q=>q
 |x::p,q=>(x+q.headD 0)::Po p q.tail
noncomputable def Ro(k:Int)(p:List Int):List Int:=p.map (k*·)
noncomputable def one(i:Nat):List Int:=List.replicate i 0++[1]
noncomputable def L.pn:L->List Int
 |.v i=>one (i+1)
 |.n k=>[(k:Int)]
 |.a x y=>Po x.pn y.pn
 |.m k x=>Ro k x.pn
 |_=>[]
abbrev P2:=List Int×List Int
noncomputable def md(k:Int)(p:P2):P2:=(Ro k p.1,Ro k p.2)
noncomputable def jS(p q:P2):P2:=(Po p.1 q.1,Po p.2 q.2)
noncomputable def L.pz:L->P2
 |.a x y=>jS x.pz y.pz
 |.m k x=>md k x.pz
 |.w i=>([],one i)
 |.s x y=>jS x.pz (md (-1) y.pz)
 |.g x=>md (-1) x.pz
 |.c x=>(x.pn,[])
 |_=>([],[])
noncomputable def nK:List Int->List Int->Int
 |x::p,y::c=>x*y+nK p c
 |_,_=>0
theorem Tl(c:List Int):nK [] c=0:=rfl
theorem Gk:∀p:List Int,nK p []=0
 |[]=>rfl
 |_::_=>rfl
theorem mP:∀(p q:List Int) (c:List Int),nK (Po p q) c=nK p c+nK q c
 |[],q,c=>(Int.zero_add _).symm
 |x::p,q,[]=>by rw [Gk,Gk,Gk];rfl
 |x::p,[],z::c=>by
  show(x+0)*z+nK (Po p []) c=x*z+nK p c+0;rw [mP p [] c,Int.add_zero,Int.add_zero];show _+(nK p c+0)=_;rw [Int.add_zero]
 |x::p,y::q,z::c=>by
  show(x+y)*z+nK (Po p q) c=x*z+nK p c+(y*z+nK q c);rw [mP p q c,Int.add_mul,Int.add_assoc,Int.add_assoc,Int.add_left_comm (y*z)]
theorem pR(k:Int):∀(p:List Int) (c:List Int),nK (Ro k p) c=k*nK p c
 |[],c=>(Int.mul_zero k).symm
 |x::p,[]=>(Int.mul_zero k).symm
 |x::p,z::c=>by
  show k*x*z+nK (Ro k p) c=k*(x*z+nK p c);rw [pR k p c,Int.mul_add,Int.mul_assoc]
theorem vk:∀(i:Nat) (c:List Int),nK (one i) c=c.getD i 0
 |0,[]=>rfl
 |0,z::c=>(Int.add_zero _).trans (Int.one_mul z)
 |i+1,[]=>rfl
 |i+1,z::c=>by
  show 0*z+nK (one i) c=_;rw [vk i c,Int.zero_mul,Int.zero_add];rfl
noncomputable def QE:List Nat->List Int
 |[]=>[]
 |x::c=>(x:Int)::QE c
theorem xA:∀(c:List Nat) (i:Nat),(QE c).getD i 0=((c.getD i 0:Nat):Int)
 |[],i=>rfl
 |x::c,0=>rfl
 |x::c,i+1=>xA c i
theorem L.pn_nat(c:List Nat)(e:L):nK e.pn (1::QE c)=(e.nat c:Int):=by
 induction e with
 |v i=>exact(vk (i+1) _).trans (xA c i)
 |n k=>exact(Int.add_zero _).trans (Int.mul_one _)
 |a x y Z Y=>exact(mP _ _ _).trans (by rw [Z,Y];rfl)
 |m k x Z=>exact(pR _ _ _).trans (by rw [Z];rfl)
 |_=>rfl
noncomputable def ev(c:List Nat)(d:List Int)(p:P2):Int:=nK p.1 (1::QE c)+nK p.2 d
theorem jx(c d)(k:Int)(p):ev c d (md k p)=k*ev c d p:=by
 unfold ev md;rw [pR,pR,Int.mul_add]
theorem jn(c d)(p q):ev c d (jS p q)=ev c d p+ev c d q:=by
 unfold ev jS;rw [mP,mP,Int.add_assoc,Int.add_assoc,Int.add_left_comm (nK q.1 _)]
theorem L.pz_int(c:List Nat)(d:List Int)(e:L):ev c d e.pz=e.int c d:=by
 induction e with
 |a x y Z Y=>exact(jn _ _ _ _).trans (by rw [Z,Y];rfl)
 |m k x Z=>exact(jx _ _ _ _).trans (by rw [Z];rfl)
 |w i=>exact(Int.zero_add _).trans (vk i d)
 |s x y Z Y=>exact(jn _ _ _ _).trans (by rw [jx,Z,Y,Int.neg_mul,Int.one_mul];rfl)
 |g x Z=>exact(jx _ _ _ _).trans (by rw [Z,Int.neg_mul,Int.one_mul];rfl)
 |c x=>exact(Int.add_zero _).trans (pn_nat c x)
 |_=>rfl
noncomputable def SW(a b:Nat):Nat->Prop
 |0=>a<=b
 |1=>a<b
 |2=>a=b
 |3=>¬a<=b
 |_=>¬a<b
noncomputable def Ol(a b:Int):Nat->Prop
 |0=>a<=b
 |1=>a<b
 |2=>a=b
 |3=>¬a<=b
 |_=>¬a<b
noncomputable def Ra(a b:Int):Nat->Int
 |0=>b-a
 |1=>b-a-1
 |2=>b-a
 |3=>a-b-1
 |_=>a-b
theorem Pi(a b:Nat):∀o,SW a b o->Ol (a:Int) (b:Int) o
 |0,h=>Int.ofNat_le.mpr h
 |1,h=>Int.ofNat_lt.mpr h
 |2,h=>congrArg _ h
 |3,h=>fun q=>h (Int.ofNat_le.mp q)
 |_+4,h=>fun q=>h (Int.ofNat_lt.mp q)
theorem Ck(a b:Int):∀o,Ol a b o->0<=Ra a b o
 |0,h=>Int.sub_nonneg_of_le h
 |1,h=>Int.le_sub_one_of_lt (Int.sub_pos_of_lt h)
 |2,h=>Int.sub_nonneg_of_le (Int.le_of_eq h)
 |3,h=>Int.le_sub_one_of_lt (Int.sub_pos_of_lt (Int.not_le.mp h))
 |_+4,h=>Int.sub_nonneg_of_le (Int.not_lt.mp h)
noncomputable def IO(p q:P2):Nat->P2
 |0=>jS q (md (-1) p)
 |1=>jS (jS q (md (-1) p)) ([-1],[])
 |2=>jS q (md (-1) p)
 |3=>jS (jS p (md (-1) q)) ([-1],[])
 |_=>jS p (md (-1) q)
theorem qA(c d)(p q:P2):ev c d (jS p (md (-1) q))=ev c d p-ev c d q:=by
 rw [jn,jx,Int.neg_mul,Int.one_mul];rfl
theorem uU(c d)(p q:P2):∀o,ev c d (IO p q o)=Ra (ev c d p) (ev c d q) o
 |0=>qA c d q p
 |1=>by show ev c d (jS _ _)=_;rw [jn,qA];rfl
 |2=>qA c d q p
 |3=>by show ev c d (jS _ _)=_;rw [jn,qA];rfl
 |_+4=>qA c d p q
noncomputable def fz{Z:Type}(k:Nat)(f:Nat->Z):Z:=Nat.rec (f 0) (fun k _=>f (k+1)) k
theorem lr{Z:Type}(k:Nat)(f:Nat->Z):fz k f=f k:=by cases k<;>rfl
noncomputable def sm(c:List Nat)(d:List Int)(o:Nat)(l r:L):Prop:=cond (Nat.ble 8 o) (Ol (l.int c d) (r.int c d) (o-8)) (SW (l.nat c) (r.nat c) o)
noncomputable def AT(o:Nat)(l r:L):P2:=cond (Nat.ble 8 o) (IO l.pz r.pz (o-8)) (IO (l.pn,[]) (r.pn,[]) o)
theorem Sx(c d)(o:Nat)(l r:L)(h:sm c d o l r):0<=ev c d (AT o l r):=by
 unfold sm at h
 unfold AT;cases Z:Nat.ble 8 o with
 |true=>rw [Z]at h;rw [cond_true,uU,L.pz_int,L.pz_int];exact Ck _ _ _ h
 |false=>
  rw [Z]at h
  have e (x:L):ev c d (x.pn,[])=(x.nat c:Int):=L.pz_int c d (.c x);rw [cond_false,uU,e,e];exact Ck _ _ _ (Pi _ _ _ h)
noncomputable def MU(o:Nat):Bool:=Nat.beq o 2||Nat.beq o 10
theorem Ur(c d)(o:Nat)(l r:L)(Z:MU o=true)(h:sm c d o l r):ev c d (AT o l r)=0:=by
 unfold MU at Z
 rw [Bool.or_eq_true]at Z
 rcases Z with Z|Z<;>(have Z:=Nat.eq_of_beq_eq_true Z;subst Z)
 .show ev c d (IO _ _ 2)=0
  have h:l.nat c=r.nat c:=h;have e (x:L):ev c d (x.pn,[])=(x.nat c:Int):=L.pz_int c d (.c x);rw [uU,e,e,h];exact Int.sub_self _
 .show ev c d (IO _ _ 2)=0
  have h:l.int c d=r.int c d:=h;rw [uU,L.pz_int,L.pz_int,h];exact Int.sub_self _
noncomputable def take(k o:Nat)(l r:L):P2:=cond (Nat.ble 16 k&&MU o) (md (16-(k:Int)) (AT o l r)) (md k (AT o l r))
theorem Rx(c d)(k o:Nat)(l r:L)(h:sm c d o l r):0<=ev c d (take k o l r):=by
 unfold take;cases Z:Nat.ble 16 k&&MU o with
 |true=>
  rw [Bool.and_eq_true]at Z
  rw [cond_true,jx,Ur c d o l r Z.2 h,Int.mul_zero];exact Int.le_refl 0
 |false=>rw [cond_false,jx];exact Int.mul_nonneg (Int.natCast_nonneg k) (Sx c d o l r h)
noncomputable def Tm:Int->Bool|.ofNat n=>Nat.beq n 0|_=>true
noncomputable def Sd(p:P2):Bool:=match p.1 with
 |.negSucc _::q=>q.all Tm&&p.2.all fun x=>x==0
 |_=>false
theorem Qj:∀{x:Int},Tm x=true->x<=0
 |.ofNat n,h=>Int.le_of_eq (congrArg Int.ofNat (Nat.eq_of_beq_eq_true h))
 |.negSucc n,_=>Int.le_of_lt (Int.negSucc_lt_zero n)
theorem IM:∀(q:List Int),q.all Tm=true->∀c:List Nat,nK q (QE c)<=0
 |[],_,c=>Int.le_refl 0
 |x::q,h,[]=>Int.le_refl 0
 |x::q,h,z::c=>by
  rw [List.all_cons,Bool.and_eq_true]at h
  exact Int.add_le_add (Int.mul_nonpos_of_nonpos_of_nonneg (Qj h.1) (Int.natCast_nonneg z)) (IM q h.2 c)
theorem wM:∀(q:List Int),(q.all fun x=>x==0)=true->∀c:List Int,nK q c=0
 |[],_,c=>rfl
 |x::q,h,[]=>rfl
 |x::q,h,z::c=>by
  rw [List.all_cons,Bool.and_eq_true]at h
  have Z:x=0:=eq_of_beq h.1;show x*z+nK q c=0;rw [Z,wM q h.2 c,Int.zero_mul];rfl
theorem JA(c d){p:P2}(h:Sd p=true)(V:0<=ev c d p):False:=by
 obtain⟨W,Z⟩:=p
 match W,h with
 |.negSucc k::q,h=>
  have h:(q.all Tm&&Z.all fun x=>x==0)=true:=h;rw [Bool.and_eq_true]at h
  have X:0<=(Int.negSucc k*(1:Int)+nK q (QE c))+nK Z d:=V;have Y:=Int.add_le_add_left (IM q h.1 c) (Int.negSucc k);rw [wM Z h.2 d,Int.add_zero,Int.mul_one]at X
  rw [Int.add_zero]at Y
  exact absurd (Int.le_trans X Y) (Int.not_le.mpr (Int.negSucc_lt_zero k))
noncomputable def rd{Z:Type}:Nat->Nat->(L->Nat->Z)->Z
 |0,k,f=>f (.n 0) k
 |u+1,k,f=>match k%32 with
  |0=>fz (k/32%32) fun i=>fz (k/1024) fun k=>f (.v i) k
  |1=>fz (k/32%32) fun i=>fz (k/1024) fun k=>f (.n i) k
  |2=>fz (k/32) fun k=>rd u k fun x k=>rd u k fun y k=>f (.a x y) k
  |3=>fz (k/32%32) fun i=>fz (k/1024) fun k=>rd u k fun x k=>f (.m i x) k
  |4=>fz (k/32%1024) fun i=>fz (k/32768) fun k=>f (.n i) k
  |5=>fz (k/32%1048576) fun i=>fz (k/33554432) fun k=>f (.n i) k
  |6=>fz (k/32%34359738368) fun i=>fz (k/1099511627776) fun k=>f (.n i) k
  |7=>fz (k/32%1180591620717411303424) fun i=>fz (k/37778931862957161709568) fun k=>f (.n i) k
  |8=>fz (k/32%32) fun i=>fz (k/1024) fun k=>f (.w i) k
  |9=>fz (k/32) fun k=>rd u k fun x k=>f (.c x) k
  |12=>fz (k/32) fun k=>rd u k fun x k=>rd u k fun y k=>f (.s x y) k
  |_=>fz (k/32) fun k=>rd u k fun x k=>f (.g x) k
theorem TD{Z:Type}(u k:Nat)(f:L->Nat->Z):rd (u+1) k f=(match k%32 with
  |0=>fz (k/32%32) fun i=>fz (k/1024) fun k=>f (.v i) k
  |1=>fz (k/32%32) fun i=>fz (k/1024) fun k=>f (.n i) k
  |2=>fz (k/32) fun k=>rd u k fun x k=>rd u k fun y k=>f (.a x y) k
  |3=>fz (k/32%32) fun i=>fz (k/1024) fun k=>rd u k fun x k=>f (.m i x) k
  |4=>fz (k/32%1024) fun i=>fz (k/32768) fun k=>f (.n i) k
  |5=>fz (k/32%1048576) fun i=>fz (k/33554432) fun k=>f (.n i) k
  |6=>fz (k/32%34359738368) fun i=>fz (k/1099511627776) fun k=>f (.n i) k
  |7=>fz (k/32%1180591620717411303424) fun i=>fz (k/37778931862957161709568) fun k=>f (.n i) k
  |8=>fz (k/32%32) fun i=>fz (k/1024) fun k=>f (.w i) k
  |9=>fz (k/32) fun k=>rd u k fun x k=>f (.c x) k
  |12=>fz (k/32) fun k=>rd u k fun x k=>rd u k fun y k=>f (.s x y) k
  |_=>fz (k/32) fun k=>rd u k fun x k=>f (.g x) k):=rfl
noncomputable def EI{Z:Type}(k:Nat)(f:Nat->L->L->Nat->Z):Z:=fz (k%32) fun o=>fz (k/32) fun k=>rd 14 k fun x k=>rd 14 k fun y k=>f o x y k
theorem la:∀(u k:Nat),∃x X,∀{Y:Type} (f:L->Nat->Y),rd u k f=f x X
 |0,k=>⟨_,_,fun f=>rfl⟩
 |u+1,k=>by
  have W (g:L->L->L):∃x X,∀{Y:Type} (f:L->Nat->Y),(fz (k/32) fun k=>rd u k fun x k=>rd u k fun y k=>f (g x y) k)=f x X:=by
   obtain⟨x,V,U⟩:=la u (k/32);obtain⟨y,T,S⟩:=la u V;exact⟨g x y,T,fun f=>by rw [lr,U,S]⟩
  have Z (g:L->L):∃x X,∀{Y:Type} (f:L->Nat->Y),(fz (k/32) fun k=>rd u k fun x k=>f (g x) k)=f x X:=by
   obtain⟨x,V,U⟩:=la u (k/32);exact⟨g x,V,fun f=>by rw [lr,U]⟩
  have lit (g:Nat->L) (a b:Nat):∃x X,∀{Y:Type} (f:L->Nat->Y),(fz a fun i=>fz b fun k=>f (g i) k)=f x X:=⟨g a,b,fun f=>by rw [lr,lr]⟩;dsimp only [TD]
  match k%32 with
  |0=>exact lit .v _ _
  |1=>exact lit .n _ _
  |2=>exact W .a
  |3=>
   obtain⟨x,V,U⟩:=la u (k/1024);exact⟨.m _ x,V,fun f=>by show fz _ _=_;rw [lr,lr,U]⟩
  |4=>exact lit .n _ _
  |5=>exact lit .n _ _
  |6=>exact lit .n _ _
  |7=>exact lit .n _ _
  |8=>exact lit .w _ _
  |9=>exact Z .c
  |10=>exact Z .g
  |11=>exact Z .g
  |12=>exact W .s
  |_+13=>exact Z .g
theorem wX(k:Nat):∃o l r W,∀{Z:Type} (f:Nat->L->L->Nat->Z),EI k f=f o l r W:=by
 obtain⟨x,X,U⟩:=la 14 (k/32);obtain⟨y,Y,V⟩:=la 14 X;exact⟨k%32,x,y,Y,fun f=>by unfold EI;rw [lr,lr,U,V]⟩
noncomputable def GK(c:List Nat)(d:List Int):Nat->Nat->Prop
 |0,k=>match k%32 with
  |0=>False
  |_=>EI (k/32) fun o l r _=>sm c d o l r
 |n+1,k=>EI (k/32) fun o l r Z=>sm c d o l r->GK c d n Z
theorem OJ(c d k):GK c d 0 k=(match k%32 with
  |0=>False
  |_=>EI (k/32) fun o l r _=>sm c d o l r):=rfl
noncomputable def RE(o:Nat):Bool:=(Nat.beq o 0||Nat.beq o 1)||(Nat.beq o 8||Nat.beq o 9)
theorem MM(c d)(o:Nat)(l r:L)(Z:RE o=true)(Y:¬sm c d o l r):sm c d (o+3) l r:=by
 unfold RE at Z
 rw [Bool.or_eq_true,Bool.or_eq_true,Bool.or_eq_true]at Z
 rcases Z with(Z|Z)|(Z|Z)<;>(have Z:=Nat.eq_of_beq_eq_true Z;subst Z;exact Y)
noncomputable def JQ:Nat->Nat->P2->P2
 |0,k,s=>match k%32 with
  |0=>s
  |j=>EI (k/32) fun o l r _=>cond (RE o) (jS s (md j (AT (o+3) l r))) ([],[])
 |n+1,k,s=>EI (k/32) fun o l r Z=>JQ n Z (jS s (take (k%32) o l r))
theorem Ov(k s):JQ 0 k s=(match k%32 with
  |0=>s
  |j=>EI (k/32) fun o l r _=>cond (RE o) (jS s (md j (AT (o+3) l r))) ([],[])):=rfl
theorem HN(c d):∀(n k:Nat) (s:P2),0<=ev c d s->Sd (JQ n k s)=true->GK c d n k
 |0,k,s,X,Z=>by
  rw [Ov]at Z
  rw [OJ]
  revert Z
  match k%32 with
  |0=>exact fun Z=>JA c d Z X
  |j+1=>
   obtain⟨o,l,r,Y,h⟩:=wX (k/32);show Sd (EI _ _)=true->EI _ _;rw [h,h];cases V:RE o with
   |false=>exact fun Z=>nomatch Z
   |true=>
    rw [cond_true];intro Z;refine Classical.byContradiction fun U=>JA c d Z ?_
    rw [jn,jx];exact Int.add_nonneg X (Int.mul_nonneg (Int.natCast_nonneg _) (Sx c d _ l r (MM c d o l r V U)))
 |n+1,k,s,X,Z=>by
  obtain⟨o,l,r,Y,h⟩:=wX (k/32);have Z:Sd (EI (k/32) fun o l r Y=>JQ n Y (jS s (take (k%32) o l r)))=true:=Z;show EI (k/32) fun o l r Y=>sm c d o l r->GK c d n Y
  rw [h]at Z ⊢
  intro W;refine HN c d n Y _ ?_ Z
  rw [jn];exact Int.add_nonneg X (Rx c d _ o l r W)
theorem ok{P:Prop}(h:P):P:=h
theorem UT(a:Int):a<=(a.natAbs:Int):=Int.le_natAbs
theorem UW(a:Int):-a<=(a.natAbs:Int):=by rw [<-Int.natAbs_neg];exact Int.le_natAbs
noncomputable def fd(c:List Nat)(d:List Int)(k:Nat):Prop:=fz (k%32) fun n=>fz (k/32) fun k=>GK c d n k
noncomputable def fo(k:Nat):Bool:=Sd (fz (k%32) fun n=>fz (k/32) fun k=>JQ n k ([],[]))
theorem rV(c:List Nat)(d:List Int)(k:Nat)(h:fo k=true):fd c d k:=by
 unfold fo at h;unfold fd
 rw [lr,lr]at h ⊢
 exact HN c d _ _ ([],[]) (Int.le_refl 0) h
theorem wN(k:Nat)(h:fo k=true):fd [] [] k:=rV _ _ k h
theorem mh{Z:Int}(k:Nat)(h:fo k=true):fd [] [Z] k:=rV _ _ k h
theorem UC{Y Z:Int}(k:Nat)(h:fo k=true):fd [] [Y,Z] k:=rV _ _ k h
theorem QH{X Y Z:Int}(k:Nat)(h:fo k=true):fd [] [X,Y,Z] k:=rV _ _ k h
theorem UO{W X Y Z:Int}(k:Nat)(h:fo k=true):fd [] [W,X,Y,Z] k:=rV _ _ k h
theorem aW{Z:Nat}(k:Nat)(h:fo k=true):fd [Z] [] k:=rV _ _ k h
theorem uV{Y:Nat}{Z:Int}(k:Nat)(h:fo k=true):fd [Y] [Z] k:=rV _ _ k h
theorem QF{X:Nat}{Y Z:Int}(k:Nat)(h:fo k=true):fd [X] [Y,Z] k:=rV _ _ k h
theorem bD{Y Z:Nat}(k:Nat)(h:fo k=true):fd [Y,Z] [] k:=rV _ _ k h
theorem Kq{X Y:Nat}{Z:Int}(k:Nat)(h:fo k=true):fd [X,Y] [Z] k:=rV _ _ k h
theorem UU{W X:Nat}{Y Z:Int}(k:Nat)(h:fo k=true):fd [W,X] [Y,Z] k:=rV _ _ k h
theorem cq{X Y Z:Nat}(k:Nat)(h:fo k=true):fd [X,Y,Z] [] k:=rV _ _ k h
theorem iF{W X Y Z:Nat}(k:Nat)(h:fo k=true):fd [W,X,Y,Z] [] k:=rV _ _ k h
theorem su{V W X Y Z:Nat}(k:Nat)(h:fo k=true):fd [V,W,X,Y,Z] [] k:=rV _ _ k h
theorem Gv{U V W X Y Z:Nat}(k:Nat)(h:fo k=true):fd [U,V,W,X,Y,Z] [] k:=rV _ _ k h
theorem Tr{T U V W X Y Z:Nat}(k:Nat)(h:fo k=true):fd [T,U,V,W,X,Y,Z] [] k:=rV _ _ k h
theorem ii{Y Z:Nat}:fd [Y,Z] [] 0x1000000840000421:=bD _ rfl
theorem kT{Y Z:Nat}:fd [Y,Z] [] 0x1000000840000021:=bD _ rfl
theorem sB{Y Z:Nat}:fd [Y,Z] [] 0x4000840001021:=bD _ rfl
theorem yI{Y Z:Nat}:fd [Y,Z] [] 0x8000004200840010021:=bD _ rfl
theorem zW{Z:Int}:fd [] [Z] 0x1000a501020014a421:=mh _ rfl
theorem CY{Y Z:Nat}:fd [Y,Z] [] 0x1000028840000422:=bD _ rfl
theorem Ko{Y Z:Nat}:fd [Y,Z] [] 0x40108002004200840010021:=bD _ rfl
theorem KI{Z:Int}:fd [] [Z] 0x1000a501020014a021:=mh _ rfl
theorem LD{Z:Nat}:fd [Z] [] 0x4200800008421:=aW _ rfl
theorem Lf{Z:Nat}:fd [Z] [] 0xc210800708021:=aW _ rfl
theorem wz{Y Z:Nat}:fd [Y,Z] [] 0x8000084200840010021:=bD _ rfl
theorem AA{Y Z:Nat}:fd [Y,Z] [] 0x1000010840000421:=bD _ rfl
theorem Ad{U V W X Y Z:Nat}:fd [U,V,W,X,Y,Z] [] 0x4050082118080280420880400860084400804000a23:=Gv _ rfl
theorem zb{Z:Nat}:fd [Z] [] 0x210004000020:=aW _ rfl
theorem yO{Z:Nat}:fd [Z] [] 0x7d04000010f08000021:=aW _ rfl
theorem AB{Z:Nat}:fd [Z] [] 0x12a05f200180008413880a000021:=aW _ rfl
theorem DF{Y Z:Nat}:fd [Y,Z] [] 0x4010840000022:=bD _ rfl
theorem Ek{Y Z:Nat}:fd [Y,Z] [] 0x200004000020:=bD _ rfl
theorem DL{Z:Nat}:fd [Z] [] 0xa4004a421:=aW _ rfl
theorem Do{Z:Nat}:fd [Z] [] 0x4200800108021:=aW _ rfl
theorem DP{X Y Z:Nat}:fd [X,Y,Z] [] 0x10000004400800010821:=cq _ rfl
theorem EC{Z:Nat}:fd [Z] [] 0x24014a020:=aW _ rfl
theorem DY{Z:Nat}:fd [Z] [] 0x2184200800108041:=aW _ rfl
theorem Ef{Z:Nat}:fd [Z] [] 0x48784488014a020:=aW _ rfl
theorem Kd{Y Z:Nat}:fd [Y,Z] [] 0x20084210804000422:=bD _ rfl
theorem JV{W X Y Z:Nat}:fd [W,X,Y,Z] [] 0x42300800004400842010c02144400800010822:=iF _ rfl
theorem EU{W X Y Z:Nat}:fd [W,X,Y,Z] [] 0xc0108002004400806010a22004210080010822:=iF _ rfl
theorem JU{Y Z:Nat}:fd [Y,Z] [] 0x40000421084020840010421:=bD _ rfl
theorem Fv{Z:Nat}:fd [Z] [] 0x61a8140000403e80a000021:=aW _ rfl
theorem JP{X Y Z:Nat}:fd [X,Y,Z] [] 0x40200020008010840000022:=cq _ rfl
theorem Im{Z:Nat}:fd [Z] [] 0x80020800008422:=aW _ rfl
theorem It{Y:Nat}{Z:Int}:fd [Y] [Z] 0x902101020004aa21:=uV _ rfl
theorem Jb{Y:Nat}{Z:Int}:fd [Y] [Z] 0x10002501020004a821:=uV _ rfl
theorem Hs{Z:Nat}:fd [Z] [] 0xc84000211688000021:=aW _ rfl
theorem FM{Z:Nat}:fd [Z] [] 0x7d04000011688000021:=aW _ rfl
theorem Fp{Y Z:Nat}:fd [Y,Z] [] 0xfa081000210000108851fa08000422:=bD _ rfl
theorem Mb{Z:Nat}:fd [Z] [] 0x1210a4210004962020:=aW _ rfl
theorem LP{Z:Nat}:fd [Z] [] 0x8521080024b0004a020:=aW _ rfl
theorem Nf{X Y Z:Nat}:fd [X,Y,Z] [] 0x100840004400800010a21:=cq _ rfl
theorem KW{X Y Z:Nat}:fd [X,Y,Z] [] 0x80000402004400800010821:=cq _ rfl
theorem KK{Y Z:Nat}:fd [Y,Z] [] 0x40000021084020840010021:=bD _ rfl
theorem Mv{Y Z:Nat}:fd [Y,Z] [] 0x8400104010840000422:=bD _ rfl
theorem Kr{Y Z:Nat}:fd [Y,Z] [] 0x138805080010002000427100a000022:=bD _ rfl
theorem Ks{X Y Z:Nat}:fd [X,Y,Z] [] 0x80000022004000840000422:=cq _ rfl
theorem Lr{Z:Int}:fd [] [Z] 0x8520435800a501020014ac21:=mh _ rfl
theorem Me{Z:Nat}:fd [Z] [] 0x2000006000011688000021:=aW _ rfl
theorem Le{X Y:Nat}{Z:Int}:fd [X,Y] [Z] 0x1000000810102551020004a822:=Kq _ rfl
theorem OD{Z:Int}:fd [] [Z] 0x10040000000000000001d2d40408010000000000000000e96a021:=mh _ rfl
theorem OM{Z:Int}:fd [] [Z] 0x40000000000000001d204242020000000000000001d2042421:=mh _ rfl
theorem PM{U V W X Y Z:Nat}:fd [U,V,W,X,Y,Z] [] 0x500c020000110080280428900100c02144400800010823:=Gv _ rfl
theorem Ql{U V W X Y Z:Nat}:fd [U,V,W,X,Y,Z] [] 0x500c000080120020280428900200c02104400800010823:=Gv _ rfl
end Mine
open PySem PySem.W PyProof.Rows PySem.Calls PySem.Spec
set_option genSizeOf false
set_option tactic.hygienic false
set_option bootstrap.genMatcherCode false
set_option genInjectivity false
noncomputable section
namespace Mine
def aV:=@Nat.sub_add_cancel
def bc:=@Option.some.inj
def aM:=@wpAny_bind
def bY:=@Nat.le_antisymm
def cJ:=@List.mem_singleton
def dS:=@Heap.get?_push_of_some
def bt:=@wpAny_mono
def aJ:=@if_pos
def bI:=@wpAny_pure
def eO:=@Int.toNat_of_nonneg
def cr:=@F.plainAttrs_str
def bN:=@Heap.lt_size
def bP:=@Nat.le_trans
def cU:=@Nat.div_add_mod
def fh:=@List.getElem?_eq_getElem
def cX:=@Int.le_antisymm
def aO:=@if_neg
def bU:=@Nat.le_refl
def db:=@List.length_map
def cC:=@List.mem_cons
def dw:=@Bool.and_eq_true
def cz:=@Nat.mul_comm
def eB:=@Nat.lt_of_lt_of_le
def bw:=@congrArg
def eN:=@Nat.lt_or_gt_of_ne
def dU:=@List.lookup_cons
def eJ:=@of_decide_eq_true
def da:=@List.mem_map
def dO:=@decide_eq_true
def eX:=@Nat.le_add_right
def jQ:=@List.getElem?_eq_some_iff
def fx:=@Option.bind_some
def km:=@List.getD_eq_getElem?_getD
def dW:=@Nat.lt_irrefl
def iO:=@Option.map_eq_some_iff
def eh:=@List.map_cons
def iB:=@List.mem_of_getElem?
def fL:=@List.all_eq_true
def fg:=@Nat.not_lt_zero
def ge:=@List.length_cons
def im:=@Heap.get?_push_size
def iA:=@Bool.false_ne_true
def gQ:=@Nat.lt_succ_self
def ik:=@F.plainAttrs_list
def kd:=@Nat.pow_le_pow_right
def iV:=@Int.toNat_natCast
def je:=@decide_eq_true_eq
def jL:=@List.length_append
def jO:=@Nat.lt_of_le_of_lt
def dT:=@Nat.mod_lt
def lq:=@Nat.ble_eq_true_of_le
def fZ:=@wpAny_holding
def ix:=@decide_eq_false
def lp:=@Nat.mul_le_mul_right
def fH:=@Nat.ne_of_lt
def kO:=@F.type_list_append
def ky:=@F.slot_list_append
def ml:=@Nat.div_lt_iff_lt_mul
def lj:=@beq_eq_false_iff_ne
def lz:=@List.filterMap_cons
def iY:=@Nat.two_pow_pos
def ic:=@wpAny_standAt
def kH:=@List.getElem?_map
def kM:=@wpAny_execs_cons
def gz:=@Nat.add_mul
def ku:=@List.mem_append
def qD:=@List.length_eq_one_iff
def gT:=@Nat.one_mul
def qz:=@Nat.le_of_ble_eq_true
def lx:=@List.map_append
def lw:=@List.append_nil
def tI:=@Option.bind_eq_some_iff
def jP:=@codeAny_mono
def oO:=@Nat.lt_succ_of_lt
def lA:=@seg_execs_cons
def mN:=@F.slot_str_find
def mx:=@Nat.min_eq_left
def vO:=@List.getElem?_append_left
def tn:=@Nat.sub_eq_zero_of_le
def oM:=@F.type_str_lower
def oB:=@F.slot_str_lower
def kr:=@Nat.le_of_lt
def tQ:=@Bool.and_eq_true_iff
def mH:=@intBits_le_iff
def tS:=@Int.natAbs_of_nonneg
def qX:=@List.flatten_cons
def qx:=@Bool.not_eq_true'
def oH:=@F.type_str_find
def tb:=@List.replicate_succ
def xb:=@SeqAt.canLay_of_shaped
def xk:=@wpAny_Call_method_late
def yb:=@List.take_of_length_le
def ki:=@Nat.zero_le
def qZ:=@List.length_take
def Cm:=@Int.fdiv_eq_ediv_of_nonneg
def tL:=@List.zip_cons_cons
def Bd:=@Int.fmod_eq_emod_of_nonneg
def sM:=@Int.natCast_nonneg
def vY:=@List.contains_iff_mem
def Dd:=@List.pairwise_iff_getElem
def lT:=@List.nodup_cons
def qV:=@Name_function_global
def iE:=@Nat.pow_add
def nU:=@List.append_assoc
def oa:=@Nat.le_succ_of_le
def iG:=@Nat.le_succ
def qe:=@List.getElem?_of_mem
def gS:=@typeIs_str
def gL:=@beq_iff_eq
def qF:=@Nat.mul_le_mul_left
def qY:=@List.mem_map_of_mem
def lN:=@List.drop_zero
def nh:=@List.getElem_mem
def nD:=@callWith_builtin
def nW:=@List.length_drop
def uD:=@decide_eq_false_iff_not
def vr:=@Nat.le_mul_of_pos_right
def jz:=@Int.neg_mul
def jp:=@wpAny_of_eq
def kp:=@Nat.pow_succ
def rh:=@List.mem_cons_self
def vI:=@List.drop_of_length_le
def uS:=@Around.under_of_weight
def uh:=@Int.fmod_nonneg_of_pos
def kc:=@Nat.succ_pos
def nZ:=@List.head?_drop
def lQ:=@Int.mul_assoc
def tU:=@Nat.eq_of_beq_eq_true
def rf:=@callWith_function
def uY:=@wpAny_newFunctionEnv
def zN:=@List.getElem?_append_right
def zq:=@Array.getElem?_eq_none_iff
def on:=@List.nodup_nil
def nM:=@Nat.mul_le_mul
def rx:=@F.slot_str_upper
def qI:=@List.not_mem_nil
def lK:=@List.map_map
def lS:=@Nat.add_comm
def rA:=@F.type_str_upper
def qo:=@List.mem_reverse
def Ac:=@List.extract_eq_take_drop
def uI:=@Heap.SameBut.update
def ue:=@Array.length_toList
def zU:=@wpAny_assignInOrder_more
def oy:=@Nat.mul_assoc
def rc:=@F.slot_str_join
def qP:=@List.length_nil
def qd:=@Heap.dictOf_iff
def rD:=@Nat.div_le_self
def rt:=@List.forIn_cons
def qG:=@F.type_str_join
def vw:=@Bool.false_eq_true
def uE:=@List.mem_filterMap
def kj:=@call_meets
def kf:=@Nat.not_lt
def uf:=@Int.fmod_lt_of_pos
def yL:=@List.lookup_eq_none_iff
def zP:=@Nat.le_mul_of_pos_left
def rN:=@wpAny_runValue
def nk:=@Nat.le_total
def ow:=@Nat.lt_trans
def uT:=@Sem.bind_eq_wrap'
def ng:=@Nat.ne_of_gt
def tW:=@List.size_toArray
def nJ:=@Int.le_of_lt
def zm:=@List.singleton_append
def zh:=@List.mem_append_right
def AI:=@wpAny_storeName_local
def yZ:=@codeAny_call_function
def yP:=@builtinLookup_eq_fast
def yJ:=@F.slot_int_bit_length
def zi:=@F.type_int_bit_length
def jX:=@cond_true
def uz:=@beq_self_eq_true
def ul:=@F.slot_str_split
def lD:=@cond_false
def vm:=@wpAny_call_entry
def hO:=@if_true
def qf:=@List.cons.inj
def rB:=@Sem.wrap_wrap
def nH:=@codeHd_of_K
def Fy:=@List.take_append_of_le_length
def zA:=@List.drop_eq_nil_iff
def zL:=@List.getLast?_concat
def nO:=@Int.one_mul
def Ay:=@wpAny_loadName_local
def tZ:=@F.slot_list_pop
def uM:=@codeAny_of_tree
def Au:=@wpAny_Constant_bool
def Ax:=@Nat.lt_two_pow_self
def yK:=@List.map_eq_nil_iff
def AN:=@PySem.callWith_type
def AD:=@List.map_congr_left
def Al:=@ne_true_of_eq_false
def qM:=@spliced_cons
def II:=@Nat.two_pow_add_eq_or_of_lt
def lR:=@eq_of_beq
def ub:=@List.tail_drop
def zd:=@Array.find?_toList
def AE:=@Int.lt_or_gt_of_ne
def zV:=@F.args_str_split_2
def uJ:=@List.mem_range
def vB:=@evalArgs_plain
def zC:=@wpAny_Constant_str
def vC:=@Int.natAbs_mul
def AU:=@Nat.eq_zero_or_pos
def Jo:=@Array.getElem?_eq_some_iff
def tX:=@Heap.size_push
def yX:=@loadGlobal_builtin
def HV:=@Int.ofNat_natAbs_of_nonpos
def HA:=@List.drop_eq_getElem_cons
def Gm:=@List.getElem?_eq_none_iff
def IL:=@Array.getElem?_eq_getElem
def Ij:=@List.getLast?_eq_getElem?
def HZ:=@PySem.Calls.call_len_list
def qQ:=@sizeLine_eq
def Ak:=@wpAny_Return_some
def rK:=@spliced_nil
def yN:=@List.reverse_cons
def AM:=@F.entry_str_split
def An:=@List.length_range
def Jg:=@wpAny_assignInOrder_none
def uA:=@wpAny_onRaise
def Ix:=@Option.isSome_iff_exists
def me:=@if_false
def zB:=@List.cons_append
def FJ:=@wpAny_callSpecial?_slot
def zy:=@Nat.div_eq_of_lt
def AP:=@Nat.mod_eq_of_lt
def Aq:=@Nat.succ_ne_zero
def zl:=@F.plainAttrs_int
def JL:=@List.getElem?_cons_succ
def AJ:=@Array.toList_inj
def Aa:=@Sem.bind_eq_wrap
def Hx:=@List.reverse_singleton
def uZ:=@Nat.sub_zero
def EQ:=@Nat.div_div_eq_div_mul
def Jk:=@List.append_eq_nil_iff
def HH:=@wpAny_delete_Subscript
def Fs:=@Nat.lt_of_succ_lt_succ
def vF:=@List.any_map
def uB:=@codeAny_func
def Ap:=@Bool.or_eq_true
def zJ:=@typeLookup_type
def zE:=@Int.natCast_mul
def Aj:=@List.foldl_cons
def yS:=@wpAny_specialOf
def Ah:=@Nat.min_le_left
def Gf:=@List.length_replicate
def JX:=@wpAny_allTrue_Or_cons
def GW:=@wpAny_deleteEach_cons
def Gr:=@List.getElem?_toArray
def Je:=@List.take_append_drop
def EV:=@List.lookup_cons_self
def GH:=@List.mem_cons_of_mem
def Fc:=@Int.ediv_emod_unique
def vA:=@wpAny_noted
def vo:=@Int.add_mul
def Gy:=@List.mem_append_left
def Jc:=@wpAny_deleteEach_nil
def vg:=@Nat.mul_add
def FR:=@Nat.eq_of_testBit_eq
def lW:=@Ne.symm
def Hh:=@Sem.onRaise_eq_wrap
def FE:=@List.getElem?_range
def JG:=@List.getElem_of_mem
def ID:=@List.take_succ_cons
def HP:=@F.slot_list_reverse
def HU:=@BindsTo.of_defaults
def IF:=@Array.toList_append
def GY:=@List.reverse_append
def Jm:=@Int.mul_right_comm
def Jn:=@Heap.IsSliceOf.new
def Hi:=@wpAny_Constant_int
def Hk:=@List.filterMap_nil
def uG:=@wpAny_Name
def IB:=@Nat.mul_right_comm
def Fd:=@Nat.one_lt_two_pow
def IC:=@F.slot_str_rstrip
def Gq:=@Int.natAbs_add_le
def JR:=@wpAny_newObj_type
def FC:=@List.take_add_one
def zM:=@Nat.succ.inj
def Ao:=@call_type_of
def GP:=@Nat.mul_left_comm
def JI:=@bne_self_eq_false
def Ho:=@wpAny_Assign_Name
def Iz:=@Array.toList_push
def Ju:=@wpAny_assign_Name
def IE:=@loadGlobal_global
def Fb:=@F.slot_dict_items
def JC:=@Nat.succ_le_succ
def IP:=@List.take_length
def GE:=@wpAny_askSetting
def Ii:=@List.map_reverse
def HJ:=@Nat.le_of_not_lt
def EM:=@F.entry_list_pop
def ud:=@seg_again
def Ka:=@Nat.min_eq_right
def zx:=@Nat.log2_lt
def Ke:=@Nat.mul_add_div
def Jt:=@F.slot_int_rmul
def IU:=@List.nil_append
def Fi:=@Option.map_some
def Fw:=@PySem.W.kas_sub
def EZ:=@List.of_mem_zip
def Hq:=@List.range_succ
def Ha:=@F.type_list_pop
def Ik:=@Nat.mul_add_mod
def JS:=@F.slot_set_pop
def zF:=@Int.not_le
def JT:=@List.drop_drop
def vu:=@or_false
def FZ:=@Nat.testBit_or
def Gz:=@List.drop_take
def Ih:=@SeqAt.eqv_refl
def zR:=@typeIs_int
def GQ:=@Sem.wrap_congr
def zw:=@bne_iff_ne
def Fx:=@setObjOf_fresh
def ET:=@wpAny_Expr_any
def EK:=@List.forIn_nil
def yY:=@isInt_self
def Hm:=@wpAny_bindName
def Iu:=@wpAny_loadPart
def zk:=@seg_wrap
local macro_rules | `(tactic| left) => `(tactic| kernel_rfl)
@[elab_as_elim] theorem rE.{u}{α:Sort u}{a b:α}{P:α->Prop}(h:a=b)(k:P b):P a:=h▸k
local macro_rules
  | `(tactic| rw [$rs,*]) => do
    let ts ← rs.getElems.mapM fun r => match r with
      | `(Lean.Parser.Tactic.rwRule| ← $t:term) => `(tactic| first | refine rE (Eq.symm $t) ?_ | rewrite [← $t:term])
      | `(Lean.Parser.Tactic.rwRule| $t:term) => `(tactic| first | refine rE $t ?_ | rewrite [$t:term])
      | _ => Lean.Macro.throwUnsupported
    `(tactic| ($[$ts];*; try (with_reducible rfl)))
section
variable {G:Prop}{α β:Type}
theorem aZ{x:α}(h:none=some x):G:=by cases h
theorem kR{x:α}(h:some x=none):G:=by cases h
theorem EJ(h:false=true):G:=by cases h
theorem Ru{x:α}{l:List α}(h:[]=x::l):G:=by cases h
theorem EG{x:α}{l:List α}(h:x::l=[]):G:=by cases h
theorem SK{c:Prop}[Decidable c]{a b r:α}(h:(if c then a else b)=r)(k:c->a=r->G)(Y:¬c->b=r->G):G:=by
 by_cases Z:c
 .rw [aJ Z]at h;exact k Z h
 .rw [aO Z]at h;exact Y Z h
end
structure Wd where
 F:Addr->Option Obj
 ρ:Nat->Addr
 n:Nat
inductive PV where
 |none
 |bool (b:Bool)
 |int (i:Int)
 |str (s:Str)
 |tup (vs:List PV)
 |loc (i:Nat)
 |val (v:Value)
 |hdr (C:Addr) (l:Nat)
 |rng (a b:Int)
 |fl (ns:List Int)
 |clo (name qual:Str) (params:Arguments) (body:List Stmt) (scope:Scope) (cs:List (Str×Nat))
abbrev cI(x:Int):Option PV:=some (.int x)
abbrev cL(x:Nat):Option PV:=some (.loc x)
abbrev cS(x:Str):Option PV:=some (.str x)
noncomputable def FH(F:Addr->Option Obj)(h:Heap):Prop:=∀a o,F a=some o->h.get? a=some o
noncomputable def mz(od:Obj)(x:Addr):Prop:=∃Y X,od.data=.dict Y X/\StrKeys Y/\∀Z,nsFind Y Z=if Z=("_headers":Str)then some (.ref x)else none
noncomputable def AX(F:Addr->Option Obj)(S:Nat->Addr)(W Y:Str)(Z:Arguments)(U:List Stmt)(X:Scope)(P:List (Str×Nat))(o:Obj):Prop:=
 o.cls=.type "function"/\∃T R O V Q,o.data=.func (fnX W Y Z U X (P.map fun x=>(x.1,S x.2)) .none .none T R O V Q)/\(∀h:Heap,FH F h->h.CodeRec V Y)
mutual
noncomputable def bn(W:Wd):PV->Value->Prop
 |.none,v=>v=.none
 |.bool b,v=>v=.bool b
 |.int i,v=>∃t,v=.int i t
 |.str s,v=>∃t,v=.str s t
 |.tup Q,v=>∃a S n,v=.ref a/\W.F a=some {cls:=.type "tuple",data:=.seq S n}/\aN W Q S.toList
 |.loc i,v=>i<W.n/\v=.ref (W.ρ i)
 |.val x,v=>v=x
 |.hdr C l,v=>l<W.n/\∃a D od,v=.ref a/\W.F a=some {cls:=.ref C,dict:=some D,data:=.plain}/\W.F D=some od/\mz od (W.ρ l)
 |.rng a b,v=>∃r t u w,v=.ref r/\W.F r=some {cls:=.type "range",dict:=none,data:=.fields #[.int a t,.int b u,.int 1 w],slots:=#[]}
 |.fl P,v=>∃(a:Addr) (o:Obj) (n:Nat) (T:List (Int×Tok)),v=.ref a/\W.F a=some o/\o.cls=.type "list"/\o.data=.seq (T.map fun x=>Value.int x.1 x.2).toArray n/\T.map (·.1)=P
 |.clo V X Z U Y R,v=>(∀x∈R,x.2<W.n)/\∃a o,v=.ref a/\W.F a=some o/\AX W.F W.ρ V X Z U Y R o
noncomputable def aN(W:Wd):List PV->List Value->Prop
 |[],Y=>Y=[]
 |p::X,Y=>∃v Z,Y=v::Z/\bn W p v/\aN W X Z
end
inductive AO where
 |list (ps:List PV)
 |cell (p:Option PV)
 |dict (kvs:List (Str×PV))
 |set (ps:List PV)
noncomputable def lJ(T:World)(W:Wd):AO->Obj->Prop
 |.list X,o=>∃S n,o={cls:=.type "list",data:=.seq S n}/\aN W X S.toList
 |.cell p,o=>∃v,o.data=.cell v/\(match p with|some p=>∃x,v=some x/\bn W p x|none=>True)
 |.dict Y,o=>∃U:List (Str×Value),(∀Z,o.IsDictOf (PySem.strKind Z T) U)/\U.map (·.1)=Y.map (·.1)/\aN W (Y.map (·.2)) (U.map (·.2))
 |.set X,o=>∃V:List Int,X=V.map .int/\∀Z,o.SetObjOf (PySem.intKind Z T) (fun k=>decide (k∈V)) V.length
structure ci(W:Wd)(h:Heap)(W':Wd)(h':Heap):Prop where
 F:∀a o,W.F a=some o->W'.F a=some o
 fr:∀a o,W'.F a=some o->W.F a=some o\/h.get? a=none
 n:W.n<=W'.n
 ρ:∀i,i<W.n->W'.ρ i=W.ρ i
 th:∀b o,h.get? b=some o->∃o',h'.get? b=some o'
theorem ci.refl(W:Wd)(h:Heap):ci W h W h:=⟨fun _ _ e=>e,fun _ _ e=>.inl e,bU _,fun _ _=>rfl,fun _ o e=>⟨o,e⟩⟩
theorem ci.trans{W P T:Wd}{h Q X:Heap}(g:ci W h P Q)(V:ci P Q T X):ci W h T X where
 F:=fun a o e=>V.F a o (g.F a o e)
 fr:=fun a o e=>by
  rcases V.fr a o e with e|e
  .exact g.fr a o e
  .refine .inr ?_
   cases q:h.get? a with
   |none=>rfl
   |some Z=>
    obtain⟨S,Y⟩:=g.th a Z q;rw [e]at Y
    exact aZ Y
 n:=bP g.n V.n
 ρ:=fun i R=>(V.ρ i (eB R g.n)).trans (g.ρ i R)
 th:=fun b o e=>let⟨Z,U⟩:=g.th b o e;V.th b Z U
theorem ci.heap{W:Wd}{h Z:Heap}(e:∀b o,h.get? b=some o->∃Y,Z.get? b=some Y):ci W h W Z:=⟨fun _ _ e=>e,fun _ _ e=>.inl e,bU _,fun _ _=>rfl,e⟩
theorem ci.keep{W:Wd}{h h':Heap}(e:∀b o,h.get? b=some o->h'.get? b=some o):ci W h W h':=ci.heap fun b o q=>⟨o,e b o q⟩
structure HK(W W':Wd):Prop where
 F:∀a o,W.F a=some o->W'.F a=some o
 n:W.n<=W'.n
 ρ:∀i,i<W.n->W'.ρ i=W.ρ i
theorem ci.ext{W Z:Wd}{h Y:Heap}(g:ci W h Z Y):HK W Z:=⟨g.F,g.n,g.ρ⟩
theorem AX.mono{W S:Wd}(g:HK W S){V X:Str}{Z:Arguments}{U:List Stmt}{Y:Scope}{T:List (Str×Nat)}{o:Obj}
  (N:∀x∈T,x.2<W.n) (h:AX W.F W.ρ V X Z U Y T o):AX S.F S.ρ V X Z U Y T o:=by
 obtain⟨I,R,P,G,Q,H,J,M⟩:=h;refine⟨I,R,P,G,Q,H,?_,fun h e=>M h fun a o q=>e a o (g.F a o q)⟩;have:(T.map fun x=>(x.1,S.ρ x.2))=T.map fun x=>(x.1,W.ρ x.2):=AD fun x O=>by rw [g.ρ x.2 (N x O)]
 rw [this];exact J
mutual
theorem bn.mono{W P:Wd}(g:HK W P):∀{p:PV} {v:Value},bn W p v->bn P p v
 |.none,_,h=>h
 |.bool _,_,h=>h
 |.int _,_,h=>h
 |.str _,_,h=>h
 |.tup G,v,h=>by
  obtain⟨a,N,n,e,I,J⟩:=h;exact⟨a,N,n,e,g.F _ _ I,aN.mono g J⟩
 |.loc i,v,h=>⟨eB h.1 g.n,by rw [g.ρ i h.1];exact h.2⟩
 |.val _,_,h=>h
 |.hdr C l,v,h=>by
  obtain⟨S,a,D,od,e,Z,Y,H⟩:=h;exact⟨eB S g.n,a,D,od,e,g.F _ _ Z,g.F _ _ Y,by rw [g.ρ l S];exact H⟩
 |.rng a b,v,h=>by
  obtain⟨r,t,u,w,e,Z⟩:=h;exact⟨r,t,u,w,e,g.F _ _ Z⟩
 |.fl E,v,h=>by
  obtain⟨a,o,n,O,e,Z,Y⟩:=h;exact⟨a,o,n,O,e,g.F _ _ Z,Y⟩
 |.clo T U X Q V B,v,h=>by
  obtain⟨R,a,o,e,Z,Y⟩:=h;exact⟨fun x M=>eB (R x M) g.n,a,o,e,g.F _ _ Z,Y.mono g R⟩
theorem aN.mono{W V:Wd}(g:HK W V):∀{X:List PV} {Y:List Value},aN W X Y->aN V X Y
 |[],_,h=>h
 |p::X,Y,h=>by
  obtain⟨v,Z,e,T,U⟩:=h;exact⟨v,Z,e,bn.mono g T,aN.mono g U⟩
end
theorem lJ.mono{Y:World}{W X:Wd}(g:HK W X){Z:AO}{o:Obj}(h:lJ Y W Z o):lJ Y X Z o:=by
 cases Z with
 |list T=>obtain⟨V,n,e,r⟩:=h;exact⟨V,n,e,r.mono g⟩
 |cell p=>
  obtain⟨v,e,r⟩:=h;refine⟨v,e,?_⟩;cases p with
  |none=>exact trivial
  |some p=>obtain⟨x,N,U⟩:=r;exact⟨x,N,U.mono g⟩
 |dict S=>obtain⟨R,O,P,Q⟩:=h;exact⟨R,O,P,Q.mono g⟩
 |set T=>exact h
structure Fz where
 h:Addr->Option Obj
 g:Nat->Option GenState
structure Tp where
 prog:Program
 w:World
 gl:List (Str×Value)
 bl:List (Str×Value)
 K:Frag
 tabs:List Addr
 os:OsState
 tl:Addr->Nat×Nat×Str
noncomputable def FT(Z:Nat×Nat×Str)(F:Addr->Option Obj)(Y:Array Value):Prop:=
 Y=#[]\/∃c:Addr,Y=#[rawInt Z.1,rawInt Z.2.1,.ref c]/\∀h:Heap,FH F h->h.CodeRec (.ref c) Z.2.2
structure jc(T:Tp)(F:Addr->Option Obj):Prop where
 kin:∀a o,T.K.lookup a=some o->F a=some o
 glob:∀(i:Nat) x v,T.gl[i]?=some (x,v)->∀h:Heap,FH F h->∃mg,h.Ns mainGlobals mg/\mg x=some v
 blt:∀(i:Nat) x v,T.bl[i]?=some (x,v)->∀h:Heap,FH F h->∃mg mb,h.Ns mainGlobals mg/\mg x=none/\h.Ns builtinsNs mb/\mb x=some v
 nolim:∀h:Heap,FH F h->h.NoLimit
 big:∃a o,F a=some o/\sysModules<a
 bm:∀h:Heap,FH F h->∃mg bm ob,h.Ns mainGlobals mg/\mg "__builtins__"=some (.ref bm)/\bm≠builtinsNs/\F bm=some ob/\ob.cls=.type "module"/\ob.dict=some builtinsNs/\ob.data=.plain
theorem jc.mono{T:Tp}{F X:Addr->Option Obj}(t:jc T F)(e:∀a o,F a=some o->X a=some o):jc T X:=
 ⟨fun a o h=>e a o (t.kin a o h),fun i x v Y h Z=>t.glob i x v Y h fun a o q=>Z a o (e a o q),fun i x v Y h Z=>t.blt i x v Y h fun a o q=>Z a o (e a o q),fun h Z=>t.nolim h fun a o q=>Z a o (e a o q),let⟨a,o,Y,Z⟩:=t.big;⟨a,o,e a o Y,Z⟩,fun h Z=>let⟨V,O,W,P,Q,R,S,U⟩:=t.bm h fun a o q=>Z a o (e a o q);⟨V,O,W,P,Q,R,e _ _ S,U⟩⟩
structure eD(T:Tp)(R:Fz)(W:Wd)(st:List (Nat×AO))(s:Shared):Prop where
 top:jc T W.F
 hF:FH W.F s.heap
 hR:FH R.h s.heap
 hG:∀g x,R.g g=some x->s.gens[g]?=some x
 trk:∀i ao,st.lookup i=some ao->i<W.n/\∃o,s.heap.get? (W.ρ i)=some o/\lJ T.w W ao o
 fre:∀i,i<W.n->W.F (W.ρ i)=none/\R.h (W.ρ i)=none/\W.ρ i∉T.tabs/\∃o,s.heap.get? (W.ρ i)=some o
 inj:∀i j,i<W.n->j<W.n->W.ρ i=W.ρ j->i=j
 tabs:∀P∈T.tabs,W.F P=none/\R.h P=none/\∃ps,s.heap.get? P=some (tabObj ps)/\FT (T.tl P) W.F ps
 bare:AllBare s.gens
 os:s.os=T.os
 sysm:∀i,i<W.n->W.ρ i≠sysModules
structure Cx where
 env:Env
 vars:List Str
 cv:List (Str×Nat)
structure AS where
 loc:List (Option PV)
 st:List (Nat×AO)
 nx:Nat
noncomputable def fQ:List (Option PV)->Nat->Option PV
 |[],_=>none
 |x::_,0=>x
 |_::l,i+1=>fQ l i
theorem Cd(w1_):fQ [] w1_=(none):=rfl
theorem Bx(x w1_):fQ (x::w1_) 0=(x):=rfl
theorem Cv(Z l i):fQ (Z::l) (i+1)=(fQ l i):=rfl
noncomputable def pu:List (Option PV)->Nat->PV->List (Option PV)
 |[],_,_=>[]
 |_::l,0,p=>some p::l
 |x::l,i+1,p=>x::pu l i p
theorem BN(w1_ w2_):pu [] w1_ w2_=([]):=rfl
theorem Bz(Z l p):pu (Z::l) 0 p=(some p::l):=rfl
theorem CI(x l i p):pu (x::l) (i+1) p=(x::pu l i p):=rfl
theorem tr:∀(l:List (Option PV)) (i j:Nat) (p:PV),fQ (pu l i p) j=if i=j/\i<l.length then some p else fQ l j
 |[],i,j,p=>by simp [BN,Bz,CI,Cd,Bx,Cv]
 |x::l,0,0,p=>by rfl
 |x::l,0,j+1,p=>by rfl
 |x::l,i+1,0,p=>by rfl
 |x::l,i+1,j+1,p=>by
  simp only [BN,Bz,CI,Cd,Bx,Cv,tr l i j p,ge];simp
structure LH(T:Tp)(X:Cx)(R:Fz)(W:Wd)(loc:List (Option PV))(s:Shared):Prop where
 m:∃m,s.heap.Ns X.env.locals m/\∀(i:Nat) x p,X.vars[i]?=some x->fQ loc i=some p->∃v,m x=some v/\bn W p v
 nF:W.F X.env.locals=none
 nR:R.h X.env.locals=none
 t:X.env.locals∉T.tabs
 ρ:∀i,i<W.n->W.ρ i≠X.env.locals
 cv:∀(j:Nat) x i,X.cv[j]?=some (x,i)->i<W.n/\X.env.cells.lookup x=some (W.ρ i)
structure bQ(T:Tp)(X:Cx)(R:Fz)(W:Wd)(σ:AS)(s:Shared):Prop where
 r:eD T R W σ.st s
 l:LH T X R W σ.loc s
 nx:σ.nx=W.n
structure bf(X:Cx):Prop where
 kind:X.env.scope.kind=.function
 glob:X.env.globals=mainGlobals
 blt:X.env.builtins=builtinsNs
 vars:∀x∈X.vars,X.env.scope.names.lookup x=some .local
 cvs:∀x∈X.cv,X.env.scope.names.lookup x.1=some .cell\/X.env.scope.names.lookup x.1=some .free
 nodup:X.vars.Nodup
 dbg:∀x∈X.vars,(x==("__debug__":Str))=false
 dbgc:∀x∈X.cv,(x.1==("__debug__":Str))=false/\(x.1==("__classdict__":Str))=false
noncomputable def iI:List Str->Bool
 |[]=>true
 |x::Z=>!Z.contains x&&iI Z
theorem DI:iI []=(true):=rfl
theorem EB(x xs):iI (x::xs)=(!xs.contains x&&iI xs):=rfl
theorem cQ:∀{Z:List Str},iI Z=true->Z.Nodup
 |[],_=>on
 |x::Z,h=>by
  dsimp only [DI,EB]at h
  rw [dw,qx]at h
  refine lT.mpr ⟨fun Y=>?_,cQ h.2⟩;rw [vY.mpr Y]at h
  exact absurd h.1 (by decide)
noncomputable def UI(sc:Scope)(vars Z:List Str):Bool:=
 decide (sc.kind=.function)&&vars.all (fun x=>decide (sc.names.lookup x=some .local)&&!(x==("__debug__":Str)))&&iI vars &&
 Z.all (fun x=>decide (sc.names.lookup x=some .cell\/sc.names.lookup x=some .free)&&!(x==("__debug__":Str))&&!(x==("__classdict__":Str)))
theorem bf.of{X:Cx}(h:UI X.env.scope X.vars (X.cv.map (·.1))=true)(W:X.env.globals=mainGlobals)(Y:X.env.builtins=builtinsNs):bf X:=by
 unfold UI at h
 simp only [dw,fL,je,qx,da]at h
 obtain⟨⟨⟨a,c⟩,d⟩,e⟩:=h;exact⟨a,W,Y,fun x Z=>(c x Z).1,fun x Z=>(e x.1 ⟨x,Z,rfl⟩).1.1,cQ d,fun x Z=>(c x Z).2,fun x Z=>⟨(e x.1 ⟨x,Z,rfl⟩).1.2,(e x.1 ⟨x,Z,rfl⟩).2⟩⟩
structure fJ(b:Nat)(A:Around):Prop where
 dep:A.depth+b<recursionLimit
 uni:A.units+8*b+100<cLine
 hnd:A.handled=none
noncomputable def bg:Value->Shared->Prop:=fun _ _=>False
inductive aT(T:Tp)(X:Cx)(R:Fz)(W:Wd)(s:Shared)(pv:PV)(σ':AS)(v:Value)(s':Shared):Prop
 |mk(W':Wd)(g:ci W s.heap W' s'.heap)(hv:bn W' pv v)(hr:bQ T X R W' σ' s')
noncomputable abbrev ER:=AS->Option (PV×AS)
structure aa(T:Tp)(b:Nat)(X:Cx)(e:Expr)(f:ER):Prop where
 go:
  ∀A R W σ s pv σ',fJ b A->f σ=some (pv,σ')->bQ T X R W σ s->wpAny (model T.prog T.w) A (eval e X.env) (aT T X R W s pv σ') bg s
theorem ay{E:Value->Shared->Prop}:∀e s,bg e s->E e s:=fun _ _ h=>h.elim
section
variable {T:Tp}{X:Cx}{R:Fz}{W:Wd}{σ:AS}{s s':Shared}{b:Nat}{A:Around}
theorem eD.ext(h:eD T R W σ.st s)(Z:∀b o,s.heap.get? b=some o->s'.heap.get? b=some o)(Q:s'.gens=s.gens)(N:s'.os=s.os):eD T R W σ.st s' where
 top:=h.top
 hF:=fun a o e=>Z a o (h.hF a o e)
 hR:=fun a o e=>Z a o (h.hR a o e)
 hG:=fun g x e=>by rw [Q];exact h.hG g x e
 trk:=fun i I e=>let⟨U,o,V,Y⟩:=h.trk i I e;⟨U,o,Z _ _ V,Y⟩
 fre:=fun i M=>let⟨U,V,Y,o,S⟩:=h.fre i M;⟨U,V,Y,o,Z _ _ S⟩
 inj:=h.inj
 tabs:=fun P J=>let⟨U,V,O,Y,S⟩:=h.tabs P J;⟨U,V,O,Z _ _ Y,S⟩
 bare:=by rw [Q];exact h.bare
 os:=by rw [N];exact h.os
 sysm:=h.sysm
theorem LH.ext{loc:List (Option PV)}(h:LH T X R W loc s)(Z:∀b o,s.heap.get? b=some o->s'.heap.get? b=some o):LH T X R W loc s':=
 ⟨let⟨m,V,Y⟩:=h.m;⟨m,V.keeps Z,Y⟩,h.nF,h.nR,h.t,h.ρ,h.cv⟩
theorem bQ.ext(h:bQ T X R W σ s)(Z:∀b o,s.heap.get? b=some o->s'.heap.get? b=some o)(V:s'.gens=s.gens)(Y:s'.os=s.os):bQ T X R W σ s':=
 ⟨h.r.ext Z V Y,h.l.ext Z,h.nx⟩
theorem bQ.tok(h:bQ T X R W σ s)(k:Nat):bQ T X R W σ {s with toks:=k}:=h.ext (fun _ _ e=>e) rfl rfl
theorem bQ.push(h:bQ T X R W σ s)(o:Obj)(k:Nat):bQ T X R W σ {s with heap:=s.heap.push o,toks:=k}:=
 h.ext (fun _ _ e=>dS _ e) rfl rfl
theorem ci.push(W:Wd)(h:Heap)(o:Obj):ci W h W (h.push o):=ci.keep fun _ _ e=>dS _ e
theorem ed{W:Wd}(i:Int)(t:Tok):bn W (.int i) (.int i t):=⟨t,rfl⟩
theorem nc{W:Wd}(x:Str)(t:Tok):bn W (.str x) (.str x t):=⟨t,rfl⟩
theorem eW{W:Wd}(x:Bool):bn W (.bool x) (.bool x):=rfl
theorem Bb{W:Wd}:bn W .none .none:=rfl
theorem aT.same(h:bQ T X R W σ s){Z:PV}{v:Value}{k:Nat}(Y:bn W Z v):aT T X R W s Z σ v {s with toks:=k}:=
 ⟨W,ci.refl ..,Y,h.tok k⟩
theorem aT.same'(h:bQ T X R W σ s){Z:PV}{v:Value}(Y:bn W Z v):aT T X R W s Z σ v s:=
 ⟨W,ci.refl ..,Y,h⟩
theorem aT.from{Y:Shared}{V:Wd}{S:PV}{U:AS}{v:Value}{Z:Shared}(g:ci W s.heap V Y.heap)(h:aT T X R V Y S U v Z):aT T X R W s S U v Z:=
 let⟨N,O,Q,P⟩:=h;⟨N,g.trans O,Q,P⟩
end
noncomputable abbrev GR:=List PV->ER
noncomputable abbrev g1(f:PV->ER):GR
 |[p]=>f p
 |_=>fun _=>none
noncomputable abbrev g2(f:PV->PV->ER):GR
 |[p,q]=>f p q
 |_=>fun _=>none
noncomputable abbrev qR(f:Int->ER):PV->ER
 |.int a=>f a
 |_=>fun _=>none
noncomputable abbrev rW(f:Str->ER):PV->ER
 |.str a=>f a
 |_=>fun _=>none
noncomputable abbrev Ee(f:Nat->ER):PV->ER
 |.loc i=>f i
 |_=>fun _=>none
noncomputable def sJ(i:Nat)(f:List PV->ER):ER:=fun σ=>match σ.st.lookup i with
 |some (.list Z)=>f Z σ
 |_=>none
noncomputable def Ew(i:Nat)(f:List PV->ER):ER:=sJ i fun Z σ=>if Z.length<=2^20 then f Z σ else none
noncomputable def eY{Y Z:Type}(f:AS->Option (Y×AS))(g:Y->AS->Option Z):AS->Option Z:=fun σ=>match f σ with
 |some (p,σ₁)=>g p σ₁
 |none=>none
theorem aX{Y Z:Type}{f:AS->Option (Y×AS)}{g:Y->AS->Option Z}{σ:AS}{r:Z}(h:eY f g σ=some r):∃p σ₁,f σ=some (p,σ₁)/\g p σ₁=some r:=by
 unfold eY at h
 cases e:f σ with
 |none=>rw [e]at h;exact aZ h
 |some x=>rw [e]at h;exact⟨x.1,x.2,rfl,h⟩
theorem bi{Z Y:Type}{f:AS->Option (Z×AS)}{g:Z->AS->Option Y}{σ σ₁:AS}{p:Z}(h:f σ=some (p,σ₁)):eY f g σ=g p σ₁:=by unfold eY;rw [h]
noncomputable def cN:Option AO->Option (List PV)
 |some (.list Z)=>some Z
 |_=>none
theorem dE{o:Option AO}{Z:List PV}(h:cN o=some Z):o=some (.list Z):=by
 cases o with
 |none=>exact aZ h
 |some Y=>cases Y with
  |list l=>obtain rfl:=(bc h).symm;rfl
  |_=>exact aZ h
noncomputable def AH:Option AO->Option (List (Str×PV))
 |some (.dict Z)=>some Z
 |_=>none
theorem xn{o:Option AO}{Z:List (Str×PV)}(h:AH o=some Z):o=some (.dict Z):=by
 cases o with
 |none=>exact aZ h
 |some Y=>cases Y with
  |dict l=>obtain rfl:=(bc h).symm;rfl
  |_=>exact aZ h
section
variable {W:Wd}{σ τ:AS}{r:PV×AS}{p q:PV}{u:Value}{vs:List Value}
@[elab_as_elim] theorem bv{G:PV->AS->Prop}(h:some (p,σ)=some (q,τ))(k:G p σ):G q τ:=by cases h;exact k
theorem fO{c:Prop}[Decidable c]{Y:Type}{a:Option Y}{r:Y}{G:Prop}(h:(if c then a else none)=some r)(k:c->a=some r->G):G:=by
 by_cases Z:c
 .rw [aJ Z]at h;exact k Z h
 .rw [aO Z]at h;exact aZ h
@[elab_as_elim] theorem EE{G:List Value->Prop}{f:PV->ER}{Z:List PV}(h:g1 f Z σ=some r)(X:aN W Z vs)(k:∀p u,f p σ=some r->bn W p u->G [u]):G vs:=by
 cases Z with
 |nil=>exact aZ h
 |cons p Z=>cases Z with
  |cons _ _=>exact aZ h
  |nil=>obtain⟨u,Y,rfl,V,rfl⟩:=X;exact k p u h V
@[elab_as_elim] theorem Kn{G:List Value->Prop}{f:PV->PV->ER}{Z:List PV}(h:g2 f Z σ=some r)(Y:aN W Z vs)(k:∀p q u v,f p q σ=some r->bn W p u->bn W q v->G [u,v]):G vs:=by
 cases Z with
 |nil=>exact aZ h
 |cons p Z=>cases Z with
  |nil=>exact aZ h
  |cons q Z=>cases Z with
   |cons _ _=>exact aZ h
   |nil=>obtain⟨u,_,rfl,V,v,_,rfl,X,rfl⟩:=Y;exact k p q u v h V X
@[elab_as_elim] theorem fD{G:Value->Prop}{f:Int->ER}(h:qR f p σ=some r)(Z:bn W p u)(k:∀a t,f a σ=some r->G (.int a t)):G u:=by
 cases p with
 |int a=>obtain⟨t,rfl⟩:=Z;exact k a t h
 |_=>exact aZ h
@[elab_as_elim] theorem iH{G:Value->Prop}{f:Str->ER}(h:rW f p σ=some r)(Z:bn W p u)(k:∀a t,f a σ=some r->G (.str a t)):G u:=by
 cases p with
 |str a=>obtain⟨t,rfl⟩:=Z;exact k a t h
 |_=>exact aZ h
@[elab_as_elim] theorem pw{G:Value->Prop}{f:Nat->ER}(h:Ee f p σ=some r)(Z:bn W p u)(k:∀i,f i σ=some r->i<W.n->G (.ref (W.ρ i))):G u:=by
 cases p with
 |loc i=>obtain⟨Y,rfl⟩:=Z;exact k i h Y
 |_=>exact aZ h
theorem uk{G:Prop}{i:Nat}{f:List PV->ER}(h:sJ i f σ=some r)(k:∀Z,σ.st.lookup i=some (.list Z)->f Z σ=some r->G):G:=by
 unfold sJ at h
 cases e:σ.st.lookup i with
 |none=>rw [e]at h;exact aZ h
 |some Y=>cases Y with
  |list Z=>rw [e]at h;exact k Z e h
  |_=>rw [e]at h;exact aZ h
theorem nu{i:Nat}{f:List PV->ER}{Z:List PV}(h:σ.st.lookup i=some (.list Z)):sJ i f σ=f Z σ:=by unfold sJ;rw [h]
theorem DK{G:Prop}{i:Nat}{f:List PV->ER}(h:Ew i f σ=some r)(k:∀Z,σ.st.lookup i=some (.list Z)->Z.length<=2^20->f Z σ=some r->G):G:=uk h fun Z e h=>fO h fun Y h=>k Z e Y h
theorem rU{i:Nat}{f:List PV->ER}{Z:List PV}(h:σ.st.lookup i=some (.list Z))(Y:Z.length<=2^20):Ew i f σ=f Z σ:=(nu h).trans (aJ Y)
theorem cE{Y Z:Type}{o:Option Y}{f:Y->Option Z}{r:Z}{G:Prop}(h:o.bind f=some r)(k:∀x,o=some x->f x=some r->G):G:=by
 cases o with
 |none=>exact aZ h
 |some x=>exact k x rfl h
end
noncomputable def vq(T:Tp)(b:Nat)(t:Value->Sem Value)(g:PV->ER):Prop:=
 ∀X A R W σ s p u Y Z,fJ b A->g p σ=some (Y,Z)->bQ T X R W σ s->bn W p u->wpAny (model T.prog T.w) A (t u) (aT T X R W s Y Z) bg s
noncomputable def bC(T:Tp)(b:Nat)(t:Value->Value->Sem Value)(g:PV->PV->ER):Prop:=
 ∀X A R W σ s p q u v Y Z,fJ b A->g p q σ=some (Y,Z)->bQ T X R W σ s->bn W p u->bn W q v->wpAny (model T.prog T.w) A (t u v) (aT T X R W s Y Z) bg s
section
variable {T:Tp}{X:Cx}{b:Nat}
theorem aK{A:Around}{R:Fz}{W:Wd}{s:Shared}{p:PV}{σ₁:AS}{t:Sem Value}{C:Value->Shared->Prop}{E:Value->Shared->Prop}
  (h:wpAny (model T.prog T.w) A t (aT T X R W s p σ₁) bg s)
  (S:∀Y v Z,ci W s.heap Y Z.heap->bn Y p v->bQ T X R Y σ₁ Z->C v Z):wpAny (model T.prog T.w) A t C E s:=
 bt h (fun v Z ⟨Y,g,V,U⟩=>S Y v Z g V U) ay
theorem dl{A:Around}{R:Fz}{W Y:Wd}{s Z:Shared}{t:Sem Value}{U:PV}{V:AS}(g:ci W s.heap Y Z.heap)
  (h:wpAny (model T.prog T.w) A t (aT T X R Y Z U V) bg Z):wpAny (model T.prog T.w) A t (aT T X R W s U V) bg Z:=
 bt h (fun _ _ S=>S.from g) ay
noncomputable def ab(Z:PV):ER:=fun σ=>some (Z,σ)
theorem aa.int(i:Int){k:Nat}{Z:Pos}:aa T b X (.Constant (.int i) k Z) (ab (.int i)):=by
 refine⟨?_⟩;intro A R W σ s S Y Q U V;cases U;exact Hi (aT.same V (ed _ _))
theorem aa.str(x:Str){k:Nat}{Z:Pos}:aa T b X (.Constant (.str x) k Z) (ab (.str x)):=by
 refine⟨?_⟩;intro A R W σ s S Y Q U V;cases U;exact zC (aT.same V (nc _ _))
theorem aa.bool(x:Bool){k:Nat}{Z:Pos}:aa T b X (.Constant (.bool x) k Z) (ab (.bool x)):=by
 refine⟨?_⟩;intro A R W σ s S Y Q U V;cases U;exact Au (aT.same' V rfl)
theorem aa.none{k:Nat}{Z:Pos}:aa T b X (.Constant .none k Z) (ab .none):=by
 refine⟨?_⟩;intro A R W σ s S Y Q U V;cases U;exact wpAny_Constant_none (aT.same' V rfl)
noncomputable def ac(i:Nat):ER:=fun σ=>(fQ σ.loc i).bind fun p=>some (p,σ)
noncomputable def EL:Option AO->Option PV
 |some (.cell (some p))=>some p
 |_=>none
theorem wV{o:Option AO}{p:PV}(h:EL o=some p):o=some (.cell (some p)):=by
 cases o with
 |none=>exact aZ h
 |some Z=>cases Z with
  |cell q=>cases q with
   |none=>exact aZ h
   |some q=>obtain rfl:=(bc h).symm;rfl
  |_=>exact aZ h
noncomputable def aI(i:Nat):ER:=fun σ=>(EL (σ.st.lookup i)).bind fun p=>some (p,σ)
theorem aa.loc(U:bf X)(i:Nat){x:Str}{pos:Pos}(Z:X.vars[i]?=some x:=by rfl):aa T b X (.Name x pos) (ac i):=by
 refine⟨?_⟩;intro A R W σ s M Q J V S;refine cE V fun p e V=>bv V ?_
 obtain⟨m,O,N⟩:=S.l.m;obtain⟨v,P,Y⟩:=N i x p Z e;exact uG (Ay U.kind (U.vars x (iB Z)) O P (aT.same' S Y)) (U.dbg x (iB Z))
theorem aa.glob(V:bf X)(i:Nat){x:Str}{v:Value}{Z:Pos}(S:T.gl[i]?=some (x,v):=by rfl)(Q:X.env.scope.names.lookup x=some .globalImplicit:=by left)(O:(x==("__debug__":Str))=false:=by rfl):
  aa T b X (.Name x Z) (ab (.val v)):=by
 refine⟨?_⟩;intro A R W σ s J U H P Y;cases P;obtain⟨I,M,N⟩:=Y.r.top.glob i x v S s.heap Y.r.hF;exact qV V.kind Q (IE (by rw [V.glob];exact M) N (aT.same' Y rfl)) O
theorem aa.blt(V:bf X)(i:Nat){x:Str}{v:Value}{Z:Pos}(S:T.bl[i]?=some (x,v):=by rfl)(Q:X.env.scope.names.lookup x=some .globalImplicit:=by left)(O:(x==("__debug__":Str))=false:=by rfl):
  aa T b X (.Name x Z) (ab (.val v)):=by
 refine⟨?_⟩;intro A R W σ s H U E P Y;cases P;obtain⟨G,F,I,J,M,N⟩:=Y.r.top.blt i x v S s.heap Y.r.hF;exact qV V.kind Q (yX (by rw [V.glob];exact I) J (by rw [V.blt];exact M) N (aT.same' Y rfl)) O
theorem aa.cell(S:bf X)(j i:Nat){x:Str}{Q:Pos}(P:X.cv[j]?=some (x,i)):aa T b X (.Name x Q) (aI i):=by
 refine⟨?_⟩;intro A R W σ s G J F O U;refine cE O fun p e O=>bv O ?_
 obtain⟨_,V⟩:=U.l.cv j x i P;obtain⟨M,H⟩:=S.dbgc (x,i) (iB P);obtain⟨_,o,I,v,Y,w,rfl,N⟩:=U.r.trk i _ (wV e);have Z:s.heap.IsCell (W.ρ i) (some w):=⟨_,I,Y⟩;rcases S.cvs (x,i) (iB P)with h|h
 .exact uG (wpAny_loadName_cell S.kind h V Z (aT.same' U N)) M
 .exact uG (wpAny_loadName_free S.kind h V Z (aT.same' U N) H) M
noncomputable def ca(f:ER)(g:PV->ER):ER:=eY f g
noncomputable def ai(Y Z:ER)(g:PV->PV->ER):ER:=eY Y fun p=>eY Z (g p)
theorem kX{f:ER}{g:PV->ER}{σ:AS}{r:PV×AS}(h:ca f g σ=some r):∃p σ₁,f σ=some (p,σ₁)/\g p σ₁=some r:=aX h
theorem lg{W Y:ER}{g:PV->PV->ER}{σ:AS}{r:PV×AS}(h:ai W Y g σ=some r):∃p σ₁ q Z,W σ=some (p,σ₁)/\Y σ₁=some (q,Z)/\g p q Z=some r:=
 let⟨p,σ₁,e,h⟩:=aX h
 let⟨q,Z,V,h⟩:=aX h
 ⟨p,σ₁,q,Z,e,V,h⟩
theorem aa.binop{l r:Expr}{z:Operator}{C:Pos}{U V:ER}{g:PV->PV->ER}(M:aa T b X l U)(N:aa T b X r V)(o:bC T b (binaryOp z) g):
  aa T b X (.BinOp l z r C) (ai U V g):=by
 refine⟨?_⟩;intro A R W σ s y D B n t;obtain⟨p,σ₁,q,Z,G,H,I⟩:=lg n;refine wpAny_BinOp (aK (M.1 A R W σ s p σ₁ B G t) fun E u O J w Q=>?_);exact aK (N.1 A R E σ₁ O q Z B H Q) fun F v P Y x S=>dl (J.trans Y) (o X A R F Z P p q u v y D B I S (w.mono Y.ext) x)
theorem aa.unop{x:Expr}{N:UnaryOp}{O:Pos}{f:ER}{g:PV->ER}(h:aa T b X x f)(G:vq T b (unaryOp N) g):
  aa T b X (.UnaryOp N x O) (ca f g):=by
 refine⟨?_⟩;intro A R W σ s J P M F H;obtain⟨p,σ₁,S,U⟩:=kX F;exact wpAny_UnaryOp (aK (h.1 A R W σ s p σ₁ M S H) fun Q u Y V I Z=>dl V (G X A R Q σ₁ Y p u J P M U Z I))
theorem aa.cmp{l r:Expr}{B:CmpOp}{C:Pos}{U V:ER}{g:PV->PV->ER}(M:aa T b X l U)(N:aa T b X r V)(n:bC T b (compareOp B) g)(o:behindInMarks B r=false:=by rfl):
  aa T b X (.Compare l [B] [r] C) (ai U V g):=by
 refine⟨?_⟩;intro A R W σ s y D z m t;obtain⟨p,σ₁,q,Z,G,H,I⟩:=lg m;refine wpAny_Compare1 (aK (M.1 A R W σ s p σ₁ z G t) fun E u O J w Q=>?_) o;exact aK (N.1 A R E σ₁ O q Z z H Q) fun F v P Y x S=>dl (J.trans Y) (n X A R F Z P p q u v y D z I S (w.mono Y.ext) x)
end
noncomputable def fits(a:Int):Bool:=decide (a.natAbs<2^100000)
noncomputable def rM(a:Int):Bool:=decide (a.natAbs<2^8900)
noncomputable def gw(k:Int->Int->Option Int)(p q:PV):ER:=qR (fun a=>qR (fun b σ=>(k a b).bind fun c=>some (.int c,σ)) q) p
noncomputable def MG(a b:Int):Option Int:=some (a+b)
noncomputable def TG(a b:Int):Option Int:=some (a-b)
noncomputable def oz(a b:Int):Option Int:=if fits a&&fits b then some (a*b)else none
noncomputable def wa(a b:Int):Option Int:=if b≠0/\rM b=true then some (Int.fdiv a b)else none
noncomputable def nN(a b:Int):Option Int:=if b≠0 then some (Int.fmod a b)else none
noncomputable def Ft(a n:Int):Option Int:=if 0<=n/\n<=1000000/\a.natAbs<2^64 then some (a^n.toNat)else none
noncomputable def PC(a n:Int):Option Int:=if 0<=n/\n<=100000/\fits a=true then some (a*2^n.toNat)else none
noncomputable def Pr(a n:Int):Option Int:=if 0<=n then some (Int.fdiv a (2^n.toNat))else none
noncomputable def OG(a b:Int):Option Int:=some (Builtin.bitAnd a b)
noncomputable def Uo(a b:Int):Option Int:=some (Builtin.bitOr a b)
noncomputable def PJ(a b:Int):Option Int:=some (Builtin.bitXor a b)
noncomputable def dB:=gw TG
noncomputable def cO:=gw oz
noncomputable def gu:=gw wa
noncomputable def dj:=gw nN
noncomputable def sh:=gw Ft
noncomputable def fC:=gw PC
noncomputable def fq:=gw Pr
noncomputable def lh:=gw OG
noncomputable def Ot:=gw Uo
noncomputable def MD:=gw PJ
noncomputable def Kh(a b:Str):ER:=fun σ=>if a.length+b.length<=2^20 then some (.str (a++b),σ)else none
noncomputable def Uw(i j:Nat):ER:=sJ i fun Y=>sJ j fun Z σ=>if Y.length+Z.length<=2^20 then some (.loc σ.nx,{σ with st:=(σ.nx,.list (Y++Z))::σ.st,nx:=σ.nx+1})else none
noncomputable def bk(p q:PV):ER:=match p with
 |.str a=>rW (fun b=>Kh a b) q
 |.loc i=>Ee (fun j=>Uw i j) q
 |_=>gw MG p q
noncomputable def gv(p q:PV):ER:=match p with
 |.str a=>rW (fun b=>Kh a b) q
 |_=>gw MG p q
noncomputable def eE(p:PV):ER:=qR (fun a=>ab (.int (-a))) p
noncomputable def qS(p:PV):ER:=qR (fun a=>ab (.int (Builtin.bitNot a))) p
noncomputable def Wd.add(W:Wd)(a:Addr):Wd:={W with ρ:=fun i=>if i=W.n then a else W.ρ i,n:=W.n+1}
noncomputable def Wd.fz(W:Wd)(a:Addr)(o:Obj):Wd:={W with F:=fun b=>if b=a then some o else W.F b}
theorem Wd.add_ext(W:Wd)(a:Addr):HK W (W.add a):=
 ⟨fun _ _ e=>e,iG _,fun i Z=>by show(if i=W.n then a else W.ρ i)=W.ρ i;rw [aO (fH Z)]⟩
theorem Wd.fz_ext(W:Wd){a:Addr}{o:Obj}(h:W.F a=none):HK W (W.fz a o):=
 ⟨fun b Z e=>by show(if b=a then some o else W.F b)=some Z;rw [aO (fun q=>by rw [q,h]at e;exact aZ e)];exact e,bU _,fun i Y=>rfl⟩
section
variable {T:Tp}{X:Cx}{R:Fz}{W:Wd}{σ:AS}{s:Shared}{b:Nat}{A:Around}
theorem bb{F:Addr->Option Obj}{h:Heap}(Y:FH F h){a:Addr}(Z:h.objs.size<=a):F a=none:=by
 cases e:F a with
 |none=>rfl
 |some o=>exact absurd (bN (Y a o e)) (kf.mpr Z)
theorem bQ.newId(Z:bQ T X R W σ s){o:Obj}(g:o.isFreed=false){ao:AO}(d:lJ T.w (W.add s.heap.objs.size) ao o)(k:Nat):
  ci W s.heap (W.add s.heap.objs.size) (s.heap.push o)/\bQ T X R (W.add s.heap.objs.size) {σ with st:=(σ.nx,ao)::σ.st,nx:=σ.nx+1} {s with heap:=s.heap.push o,toks:=k}:=by
 have U:=Wd.add_ext W s.heap.objs.size;have Y:(W.add s.heap.objs.size).ρ W.n=s.heap.objs.size:=by show(if W.n=W.n then _ else _)=_;rw [aJ rfl]
 have V:∀i,i<(W.add s.heap.objs.size).n->i≠W.n->i<W.n:=fun i Q M=>by
  have:i<W.n+1:=Q;exact(eN M).elim (fun E=>AA E) (fun E=>(Kd this E:False).elim)
 refine⟨⟨U.F,fun a o e=>.inl e,U.n,U.ρ,fun _ o e=>⟨o,dS _ e⟩⟩,⟨?_,?_,?_⟩⟩
 .refine⟨Z.r.top,fun a O e=>dS _ (Z.r.hF a O e),fun a O e=>dS _ (Z.r.hR a O e),Z.r.hG,fun i B e=>?_,fun i Q=>?_,fun i j Q u e=>?_,fun P C=>?_,Z.r.bare,Z.r.os,fun i Q=>?_⟩
  .rw [dU]at e
   cases D:i==σ.nx with
   |true=>
    rw [D]at e;obtain rfl:=bc e
    have Q:i=W.n:=(lR D).trans Z.nx;subst Q;exact⟨gQ _,o,by rw [Y];exact im _ g,d⟩
   |false=>
    rw [D]at e
    obtain⟨S,O,N,G⟩:=Z.r.trk i B e;exact⟨oO S,O,by rw [U.ρ i S];exact dS _ N,G.mono U⟩
  .by_cases M:i=W.n
   .subst M
    rw [Y];refine⟨bb Z.r.hF (bU _),bb Z.r.hR (bU _),fun C=>?_,o,im _ g⟩;obtain⟨_,_,z,G,_⟩:=Z.r.tabs _ C;exact absurd (bN G) (dW _)
   .have h:=V i Q M
    rw [U.ρ i h];obtain⟨S,N,G,O,H⟩:=Z.r.fre i h;exact⟨S,N,G,O,dS _ H⟩
  .by_cases I:i=W.n<;>by_cases J:j=W.n
   .rw [I,J]
   .subst I
    have h:=V j u J;rw [Y,U.ρ j h]at e
    obtain⟨_,_,_,O,H⟩:=Z.r.fre j h;exact absurd (bN H) (by rw [<-e];exact dW _)
   .subst J
    have h:=V i Q I;rw [Y,U.ρ i h]at e
    obtain⟨_,_,_,O,H⟩:=Z.r.fre i h;exact absurd (bN H) (by rw [e];exact dW _)
   .have h:=V i Q I
    have f:=V j u J;rw [U.ρ i h,U.ρ j f]at e
    exact Z.r.inj i j h f e
  .obtain⟨S,N,z,G,H⟩:=Z.r.tabs P C
   exact⟨S,N,z,dS _ G,H⟩
  .by_cases M:i=W.n
   .subst M;rw [Y]
    obtain⟨a,O,S,N⟩:=Z.r.top.big;exact fun q=>absurd (bN (Z.r.hF a O S)) (by rw [q];exact kf.mpr (kr N))
   .have h:=V i Q M
    rw [U.ρ i h];exact Z.r.sysm i h
 .obtain⟨m,y,c⟩:=Z.l.m
  refine⟨⟨m,y.push o,fun i x p S N=>let⟨v,G,H⟩:=c i x p S N;⟨v,G,H.mono U⟩⟩,Z.l.nF,Z.l.nR,Z.l.t,fun i Q=>?_,fun j x i h=>?_⟩
  .by_cases M:i=W.n
   .subst M;rw [Y];exact ng y.lt
   .have h:=V i Q M
    rw [U.ρ i h];exact Z.l.ρ i h
  .obtain⟨S,N⟩:=Z.l.cv j x i h
   exact⟨oO S,by rw [U.ρ i S];exact N⟩
 .show σ.nx+1=W.n+1
  rw [Z.nx]
theorem bQ.newF(Z:bQ T X R W σ s){o:Obj}(z:o.isFreed=false)(k:Nat):
  ci W s.heap (W.fz s.heap.objs.size o) (s.heap.push o)/\(W.fz s.heap.objs.size o).F s.heap.objs.size=some o/\bQ T X R (W.fz s.heap.objs.size o) σ {s with heap:=s.heap.push o,toks:=k}:=by
 have E:W.F s.heap.objs.size=none:=bb Z.r.hF (bU _);have Q:=Wd.fz_ext W (o:=o) E;have V:∀b,b≠s.heap.objs.size->(W.fz s.heap.objs.size o).F b=W.F b:=fun b h=>by show(if b=_ then _ else _)=_;rw [aO h]
 have M:(W.fz s.heap.objs.size o).F s.heap.objs.size=some o:=by show(if _=_ then _ else _)=_;rw [aJ rfl]
 refine⟨⟨Q.F,fun a Y e=>?_,Q.n,Q.ρ,fun _ Y e=>⟨Y,dS _ e⟩⟩,M,⟨?_,?_,Z.nx⟩⟩
 .by_cases h:a=s.heap.objs.size
  .refine .inr ?_
   cases q:s.heap.get? a with
   |none=>rfl
   |some I=>exact absurd (bN q) (by rw [h];exact dW _)
  .rw [V a h]at e;exact .inl e
 .refine⟨Z.r.top.mono Q.F,fun a Y e=>?_,fun a Y e=>dS _ (Z.r.hR a Y e),Z.r.hG,fun i J e=>?_,fun i C=>?_,Z.r.inj,fun P y=>?_,Z.r.bare,Z.r.os,Z.r.sysm⟩
  .by_cases h:a=s.heap.objs.size
   .subst h;rw [M]at e;obtain rfl:=bc e;exact im _ z
   .rw [V a h]at e;exact dS _ (Z.r.hF a Y e)
  .obtain⟨N,Y,O,S⟩:=Z.r.trk i J e
   exact⟨N,Y,dS _ O,S.mono Q⟩
  .obtain⟨N,O,S,Y,U⟩:=Z.r.fre i C
   exact⟨(V _ (fH (bN U))).trans N,O,S,Y,dS _ U⟩
  .obtain⟨N,O,G,S,U⟩:=Z.r.tabs P y
   refine⟨(V _ (fH (bN S))).trans N,O,G,dS _ S,?_⟩;rcases U with U|⟨c,e,w⟩
   .exact .inl U
   .exact   .inr ⟨c,e,fun h B=>w h fun a Y u=>B a Y (Q.F a Y u)⟩
 .obtain⟨m,H,D⟩:=Z.l.m
  exact⟨⟨m,H.push o,fun i x p N O=>let⟨v,S,U⟩:=D i x p N O;⟨v,S,U.mono Q⟩⟩,(V _ (fH H.lt)).trans Z.l.nF,Z.l.nR,Z.l.t,Z.l.ρ,Z.l.cv⟩
theorem aN.length:∀{Y:List PV} {Z:List Value},aN W Y Z->Y.length=Z.length
 |[],_,h=>by rw [show _=[]from h];rfl
 |p::Y,Z,h=>by
  obtain⟨v,V,rfl,_,U⟩:=h;simp [aN.length U]
theorem aN.append:∀{S U:List PV} {V Z:List Value},aN W S V->aN W U Z->aN W (S++U) (V++Z)
 |[],_,_,_,h,Q=>by rw [show _=[]from h];exact Q
 |p::S,U,V,Z,h,Q=>by
  obtain⟨v,Y,rfl,O,P⟩:=h;exact⟨v,Y++Z,rfl,O,aN.append P Q⟩
theorem aN.get:∀{Y:List PV} {Z:List Value},aN W Y Z->∀{i:Nat} {p:PV},Y[i]?=some p->∃v,Z[i]?=some v/\bn W p v
 |[],_,h,i,p,e=>by trivial
 |p::Y,Z,h,0,q,e=>by
  obtain⟨v,V,rfl,S,U⟩:=h;obtain rfl:=bc e;exact⟨v,rfl,S⟩
 |p::Y,Z,h,i+1,q,e=>by
  obtain⟨v,V,rfl,S,U⟩:=h;exact aN.get U (i:=i) (p:=q) (by simpa using e)
theorem aN.set:∀{V:List PV} {Y:List Value},aN W V Y->∀{i:Nat} {p:PV} {v:Value},bn W p v->aN W (V.set i p) (Y.set i v)
 |[],_,h,i,p,v,U=>by rw [show _=[]from h];rfl
 |p::V,Y,h,0,q,u,U=>by
  obtain⟨v,Z,rfl,Q,S⟩:=h;exact⟨u,Z,rfl,U,S⟩
 |p::V,Y,h,i+1,q,u,U=>by
  obtain⟨v,Z,rfl,Q,S⟩:=h;exact⟨v,Z.set i u,rfl,Q,aN.set S U⟩
theorem vE(V:bQ T X R W σ s){Z:List PV}{Y:List Value}(U:aN W Z Y)(S:Z.length<=2^20):
  wpAny (model T.prog T.w) A (newList Y) (aT T X R W s (.loc σ.nx) {σ with st:=(σ.nx,.list Z)::σ.st,nx:=σ.nx+1}) bg s:=by
 refine wpAny_newList ?_ (by rw [<-U.length];exact bP S (by decide))
 have h:=V.newId (o:={cls:=.type "list",data:=.seq Y.toArray}) rfl (ao:=.list Z) ⟨_,_,rfl,by simpa using U.mono (Wd.add_ext W s.heap.objs.size)⟩ s.toks;refine⟨_,h.1,⟨by rw [V.nx];exact gQ _,?_⟩,h.2⟩;show Value.ref _=.ref (if σ.nx=W.n then _ else _);rw [aJ V.nx]
theorem sC(S:bQ T X R W σ s){Y:List PV}{Z:List Value}(V:aN W Y Z)(U:Y.length<=2^20):
  wpAny (model T.prog T.w) A (newTuple Z) (aT T X R W s (.tup Y) σ) bg s:=by
 refine wpAny_newTuple ?_ (by rw [<-V.length];exact bP U (by decide))
 have h:=S.newF (o:={cls:=.type "tuple",data:=.seq Z.toArray}) rfl s.toks;exact⟨_,h.1,⟨_,Z.toArray,0,rfl,h.2.1,by simpa using V.mono h.1.ext⟩,h.2.2⟩
end
theorem lP{c:Int}(X:fits c=true):Builtin.Int.intBits c<=100001:=by
 unfold Builtin.Int.intBits
 split
 .exact wN 0x61a84a008020 rfl
 .rename_i h
  have W:c≠0:=fun e=>h (by rw [e];rfl)
  have:c.natAbs.log2<100000:=(zx (by exact(fun Y=>(AE W).elim (fun Z=>uV 0x86800954401481090802000823 rfl Y Z (HV (mh 0x29021010052042421 rfl Z))) (fun Z=>uV 0x4000954408005290802000823 rfl Y Z (tS (zW Z)))))).mpr (eJ X);exact aW 0x61a84a10800200461a80a000421 rfl this
theorem yy{a b:Int}(Y:fits a=true)(Z:fits b=true):IntMulOk a b:=by
 have W:=lP Y;have X:=lP Z;unfold IntMulOk Builtin.Int.intTooBig bitsLine;intro h;simp only [dw,je]at h
 exact bD 0x10240048804000000192908c350942000461a84a000023 rfl W X h.2
theorem oU{a b:Int}(X:rM b=true):Builtin.divisionGoesByPylong a b=false:=by
 have:(if b==0 then 0 else b.natAbs.log2/30+1)<=300:=by
  split
  .exact wN 0x4b08008020 rfl
  .rename_i h
   have W:b≠0:=fun e=>h (by rw [e];rfl)
   have:b.natAbs.log2<8900:=(zx (by exact(fun Y=>(AE W).elim (fun Z=>uV 0x86800954401481090802000823 rfl Y Z (HV (mh 0x29021010052042421 rfl Z))) (fun Z=>uV 0x4000954408005290802000823 rfl Y Z (tS (zW Z)))))).mpr (eJ X);exact cq 0x258408420103c0008010786210408b10a000422 rfl this (cU _ 30)
 unfold Builtin.divisionGoesByPylong;simp only [Bool.and_eq_false_imp,je,uD]
 omega
section
variable {T:Tp}{b:Nat}
theorem bC.int{V:Value->Value->Sem Value}{k:Int->Int->Option Int}(h:∀X A R W σ s a c d t Y,fJ b A->k a c=some d->bQ T X R W σ s->wpAny (model T.prog T.w) A (V (.int a t) (.int c Y)) (aT T X R W s (.int d) σ) bg s):bC T b V (gw k):=by
 intro X A R W σ s p q u v M U N Z P Q S;exact fD Z Q fun a t Z=>fD Z S fun c Y Z=>cE Z fun d O Z=>bv Z (h X A R W σ s a c d t Y N O P)
theorem iX:bC T b (binaryOp .Sub) dB:=.int fun X A R W σ s a c d t V U Y Z=>by
 cases Y;with_reducible exact PyProof.Rows.sub_int (aT.same Z (ed _ _))
theorem Rl:bC T b (binaryOp .BitOr) Ot:=.int fun X A R W σ s a c d t V U Y Z=>by
 obtain rfl:=bc Y;with_reducible exact PyProof.Rows.or_int (aT.same Z (ed _ _))
theorem yn{a c:Int}(h:0<=c/\c<=100000/\fits a=true):((Builtin.Int.intBits a:Nat):Int)+c<=2^27:=by have:=lP h.2.2;have:=h.2.1;omega
theorem dN:bC T b (binaryOp .Mult) cO:=.int fun X A R W σ s a c d t U S Y V=>fO Y fun Z Y=>by
 cases Y;with_reducible exact PyProof.Rows.mul_int (aT.same V (ed _ _)) (yy (tQ.mp Z).1 (tQ.mp Z).2)
theorem mW:bC T b (binaryOp .LShift) fC:=.int fun X A R W σ s a c d t U S Y V=>fO Y fun Z Y=>by
 cases Y;with_reducible exact PyProof.Rows.lshift_int Z.1 (yn Z) (aT.same V (ed _ _))
theorem mu:bC T b (binaryOp .RShift) fq:=.int fun X A R W σ s a c d t S U Y V=>fO Y fun Z Y=>by
 cases Y;with_reducible exact PyProof.Rows.rshift_int_or U.hnd (fun h=>absurd Z (zF.mpr h)) (fun _=>aT.same V (ed _ _))
theorem AK:bC T b (inplaceOp .Sub) dB:=.int fun X A R W σ s a c d t V U Y Z=>by
 cases Y;with_reducible exact PyProof.Rows.isub_int (aT.same Z (ed _ _))
theorem Gb:bC T b (inplaceOp .LShift) fC:=.int fun X A R W σ s a c d t U S Y V=>fO Y fun Z Y=>by
 cases Y;with_reducible exact PyProof.Rows.ilshift_int Z.1 (yn Z) (aT.same V (ed _ _))
theorem PO:bC T b (inplaceOp .RShift) fq:=.int fun X A R W σ s a c d t S U Y V=>fO Y fun Z Y=>by
 cases Y;with_reducible exact PyProof.Rows.irshift_int_or U.hnd (fun h=>absurd Z (zF.mpr h)) (fun _=>aT.same V (ed _ _))
theorem Dh:bC T b (binaryOp .BitAnd) lh:=.int fun X A R W σ s a c d t V U Y Z=>by
 obtain rfl:=bc Y;with_reducible exact PyProof.Rows.and_int (aT.same Z (ed _ _))
theorem Td:bC T b (binaryOp .BitXor) MD:=.int fun X A R W σ s a c d t V U Y Z=>by
 obtain rfl:=bc Y;with_reducible exact PyProof.Rows.xor_int (aT.same Z (ed _ _))
theorem ql:bC T b (binaryOp .FloorDiv) gu:=.int fun X A R W σ s a c d t U S Y V=>fO Y fun Z Y=>by
 cases Y;with_reducible exact PyProof.Rows.floordiv_int Z.1 (aT.same V (ed _ _)) (.inl (oU Z.2))
theorem gq:bC T b (binaryOp .Mod) dj:=.int fun X A R W σ s a c d t U S Y V=>fO Y fun Z Y=>by
 cases Y;with_reducible exact PyProof.Rows.mod_int' Z (aT.same V (ed _ _))
theorem Bt:bC T b (binaryOp .Pow) sh:=.int fun X A R W σ s a c d t U S Y V=>fO Y fun Z Y=>by
 cases Y;with_reducible exact PyProof.Rows.pow_int_small Z.1 Z.2.1 Z.2.2 (aT.same V (ed _ _))
theorem PB:bC T b (binaryOp .Add) (gw MG):=.int fun X A R W σ s a c d t V U Y Z=>by
 cases Y;with_reducible exact PyProof.Rows.add_int (aT.same Z (ed _ _))
theorem KZ:bC T b (inplaceOp .Add) (gw MG):=.int fun X A R W σ s a c d t V U Y Z=>by
 cases Y;with_reducible exact PyProof.Rows.iadd_int (aT.same Z (ed _ _))
theorem kF:vq T b (unaryOp .USub) eE:=by
 intro X A R W σ s p u S Y Q Z U V;exact fD Z V fun a t Z=>bv Z (by with_reducible exact PyProof.Rows.neg_int (aT.same U (ed _ _)))
theorem Hb:vq T b (unaryOp .Invert) qS:=by
 intro X A R W σ s p u S Y Q Z U V;exact fD Z V fun a t Z=>bv Z (by with_reducible exact PyProof.Rows.invert_int (aT.same U (ed _ _)))
theorem HE{h:Heap}{l:Addr}{Z:Array Value}{n:Nat}(e:h.get? l=some {cls:=.type "list",data:=.seq Z n}):IsL h l Z n:=e
theorem wK{X:Cx}{R:Fz}{W:Wd}{σ:AS}{s:Shared}{A:Around}{x y:Str}{V:PV}{Z:AS}(U:Kh x y σ=some (V,Z))(S:bQ T X R W σ s)(t Y:Tok):
  wpAny (model T.prog T.w) A (binaryOp .Add (.str x t) (.str y Y)) (aT T X R W s V Z) bg s/\wpAny (model T.prog T.w) A (inplaceOp .Add (.str x t) (.str y Y)) (aT T X R W s V Z) bg s:=by
 refine fO U fun Q U=>bv U ?_
 exact⟨by with_reducible exact PyProof.Rows.add_str (fun Y k=>aT.same S (nc _ _)) (bP Q (by decide)),by with_reducible exact PyProof.Rows.iadd_str (fun Y k=>aT.same S (nc _ _)) (bP Q (by decide))⟩
theorem nV:bC T b (inplaceOp .Add) gv:=by
 intro X A R W σ s p q u v P Y O Z S U V;cases p with
 |str a=>
  obtain⟨t,rfl⟩:=U;exact iH Z V fun c Q Z=>(wK Z S t Q).2
 |int a=>exact KZ X A R W σ s (.int a) q u v P Y O Z S U V
 |_=>exact aZ Z
theorem bG:bC T b (binaryOp .Add) bk:=by
 intro X A R W σ s p q u v F S B Z Y M N;cases p with
 |str a=>
  obtain⟨t,rfl⟩:=M;exact iH Z N fun c G Z=>(wK Z Y t G).1
 |loc i=>
  obtain⟨g,rfl⟩:=M;refine pw Z N fun j Z k=>uk Z fun H w Z=>uk Z fun I x Z=>fO Z fun C Z=>bv Z ?_
  obtain⟨_,o,E,O,n,rfl,U⟩:=Y.r.trk i _ w;obtain⟨_,m,J,Q,l,rfl,V⟩:=Y.r.trk j _ x;have D:O.size+Q.size<=2^20:=by
   have y:H.length=O.size:=U.length;have z:I.length=Q.size:=V.length;exact iF 0x10000030c020080118020144400005100020000060800010023 rfl C y z
  with_reducible refine P.add_list (HE E) (HE J) ?_ (bP D (by decide))
  have h:=Y.newId (o:={cls:=.type "list",data:=.seq (O++Q)}) rfl (ao:=.list (H++I)) ⟨_,_,rfl,by
   rw [IF];exact(U.append V).mono (Wd.add_ext W s.heap.objs.size)⟩ s.toks
  refine⟨_,h.1,⟨by rw [Y.nx];exact gQ _,?_⟩,h.2⟩;show Value.ref _=.ref (if σ.nx=W.n then _ else _);rw [aJ Y.nx]
 |int a=>exact PB X A R W σ s (.int a) q u v F S B Z Y M N
 |_=>exact aZ Z
end
section
variable {prog:Program}{w:World}{A:Around}{E:Value->Shared->Prop}{s:Shared}
theorem xu{a:Addr}{o:Obj}{Y:Array (Int×Value)}{T:Nat}{t:SetTable}{Q:Value->Shared->Prop}
  (W:s.heap.get? a=some o) (hex:o.ExactSet) (U:o.data=.set Y T t) (V:t.fits Y.size=true) (Z:(Y.size:Int)<2^63)
  (h:Q (.int Y.size (s.toks+1)) {s with toks:=s.toks+1+1}):wpAny (model prog w) A (runValue (.builtin "len" ⟨[.ref a],[]⟩)) Q E s:=by
 refine rN (codeAny_builtin entry_len ?_);rw [Around.under_plainId plain_len _];exact bt (wpAny_len_body_set (Q:=Q) W hex U V Z h) (fun fin S ⟨r,e,X⟩=>by subst e;exact X) fun _ _ e=>e
theorem yT{a:Addr}{o:Obj}{Z:List Int}{Q:Bool->Shared->Prop}(T:s.heap.get? a=some o)(M:o.SetObjOf (PySem.intKind prog w) (fun k=>decide (k∈Z)) Z.length)(Y:Z.length<=2^30)
  (h:Q (!Z.isEmpty) {s with toks:=s.toks+1+1}):wpAny (model prog w) A (truthy (.ref a)) Q E s:=by
 obtain⟨hex,O,B,t,G,H,R,S,I⟩:=M;have P:s.TypeIs (.ref a) "set":=⟨o,T,hex.1⟩;have V:((O.size:Int) != 0)=!Z.isEmpty:=by
  rw [S];cases Z with
  |nil=>rfl
  |cons x C=>exact zw.mpr (by simp;exact fun N=>aW 0xa4214800912821 rfl N)
 have X:=xu (A:=A) (E:=E) (prog:=prog) (w:=w) (Q:=fun r U=>r=.int O.size (s.toks+1)/\Q (!Z.isEmpty) U) T hex G I (by rw [S];exact aW 0x80000000000000003a4004a42100000000c000021 rfl Y) ⟨rfl,h⟩;unfold truthy;refine aM (wpAny_callSpecial?_none (name:=Str.ofString "__bool__") P PySem.W.noBool_set ?_);refine aM (yS (name:=Str.ofString "__len__") P F.slot_set_len.lookup ?_);exact aM (bt X (fun r U D=>by obtain⟨rfl,J⟩:=D;exact bI (V▸J)) fun _ _ e=>e)
theorem nB{Q:Nat->Shared->Prop}{src:Source}(h:∀d,Q 0 {s with drawn:=d}):wpAny (model prog w) A (choose src 1) Q E s:=by
 intro Y p Z;show 1≠0/\_;refine⟨Nat.one_ne_zero,?_⟩;rw [Nat.mod_one];exact h _
end
noncomputable def CH:Option AO->Option Bool
 |some (.list Z)=>if Z.length<=2^30 then some (!Z.isEmpty)else none
 |some (.set Z)=>if Z.length<=2^30 then some (!Z.isEmpty)else none
 |_=>none
noncomputable def ia(st:List (Nat×AO)):PV->Option Bool
 |.none=>some false
 |.bool c=>some c
 |.int i=>some (i != 0)
 |.str x=>if x.length<=2^30 then some ((x.length:Int) != 0)else none
 |.tup Z=>if Z.length<=2^30 then some (!Z.isEmpty)else none
 |.loc i=>CH (st.lookup i)
 |_=>none
inductive fb(T:Tp)(X:Cx)(R:Fz)(W:Wd)(s:Shared)(c:Bool)(σ':AS)(v:Bool)(s':Shared):Prop
 |mk(e:v=c)(W':Wd)(g:ci W s.heap W' s'.heap)(hr:bQ T X R W' σ' s')
noncomputable abbrev BR:=AS->Option (Bool×AS)
structure bj(T:Tp)(b:Nat)(X:Cx)(e:Expr)(f:BR):Prop where
 go:
  ∀A R W σ s c σ',fJ b A->f σ=some (c,σ')->bQ T X R W σ s->wpAny (model T.prog T.w) A (isTrue e X.env (eval e X.env)) (fb T X R W s c σ') bg s
theorem fb.same{T:Tp}{X:Cx}{R:Fz}{W:Wd}{σ:AS}{s:Shared}(h:bQ T X R W σ s){c:Bool}{k:Nat}:fb T X R W s c σ c {s with toks:=k}:=
 ⟨rfl,W,ci.refl ..,h.tok k⟩
theorem fb.from{T:Tp}{X:Cx}{R:Fz}{W V:Wd}{s Y:Shared}{c:Bool}{U:AS}{v:Bool}{Z:Shared}(g:ci W s.heap V Y.heap)(h:fb T X R V Y c U v Z):fb T X R W s c U v Z:=
 let⟨e,P,Q,S⟩:=h;⟨e,P,g.trans Q,S⟩
theorem qN{Z:List PV}{n:Nat}(h:Z.length=n):(!Z.isEmpty)=decide (n≠0):=by
 cases Z with
 |nil=>subst h;rfl
 |cons p Z=>subst h;rfl
theorem pe{Z:Array Value}{n:Nat}(h:n=Z.size):(!Z.isEmpty)=decide (n≠0):=by
 subst h;obtain⟨l⟩:=Z;cases l<;>rfl
section
variable {T:Tp}{X:Cx}{R:Fz}{W:Wd}{σ:AS}{s:Shared}{b:Nat}{A:Around}
theorem eS{p:PV}{u:Value}{c:Bool}(h:ia σ.st p=some c)(Y:bQ T X R W σ s)(U:bn W p u):
  wpAny (model T.prog T.w) A (truthy u) (fb T X R W s c σ) bg s:=by
 cases p with
 |none=>subst U;obtain rfl:=bc h;with_reducible exact truthy_none (fb.same (k:=s.toks) Y)
 |bool _=>subst U;obtain rfl:=(bc h).symm;with_reducible exact wpAny_truthy_bool (fb.same (k:=s.toks) Y)
 |int _=>obtain⟨t,rfl⟩:=U;cases h;with_reducible exact PyProof.Rows.truthy_int (fb.same (k:=s.toks) Y)
 |str x=>
  obtain⟨t,rfl⟩:=U;refine fO h fun S h=>?_
  cases h
  with_reducible exact SBL.truthy (by omega) (fb.same Y)
 |tup P=>
  obtain⟨a,Q,n,rfl,J,V⟩:=U;refine fO h fun S h=>?_
  cases h;have Z:P.length=Q.size:=V.length;have N:IsTup s.heap a Q:=⟨_,Y.r.hF _ _ J,rfl,n,rfl⟩;refine truthy_tuple N (by exact(bD 0x20000000000000000e9081290840000a2100000000c000022 rfl S Z)) ?_
  rw [pe Z,qN rfl];exact fb.same Y
 |loc i=>
  obtain⟨G,rfl⟩:=U;have h:CH (σ.st.lookup i)=some c:=h;cases e:σ.st.lookup i with
  |none=>rw [e]at h;exact aZ h
  |some I=>
   rw [e]at h
   obtain⟨_,o,O,V⟩:=Y.r.trk i _ e;cases I with
   |list P=>
    obtain⟨Q,n,rfl,V⟩:=V;refine fO h fun S h=>?_
    cases h;have Z:P.length=Q.size:=V.length;refine wpAny_truthy_list ⟨_,O,rfl,n,rfl⟩ (by exact(bD 0x20000000000000000e9081290840000a2100000000c000022 rfl S Z)) ?_
    rw [pe Z,qN rfl];exact fb.same Y
   |set P=>
    obtain⟨H,rfl,M⟩:=V;refine fO h fun S h=>?_
    cases h;refine yT O (M _) (by simpa using S) ?_
    rw [List.isEmpty_map];exact fb.same Y
   |_=>exact aZ h
 |_=>exact aZ h
noncomputable def au(f:ER):BR:=eY f fun p σ=>(ia σ.st p).bind fun c=>some (c,σ)
theorem oJ{f:ER}{σ:AS}{r:Bool×AS}(h:au f σ=some r):∃p,f σ=some (p,r.2)/\ia r.2.st p=some r.1:=
 let⟨p,_,e,h⟩:=aX h
 cE h fun c Z h=>by cases h;exact⟨p,e,Z⟩
theorem FA{p:PV}{σ₁:AS}{t:Sem Value}{c:Bool}(h:wpAny (model T.prog T.w) A t (aT T X R W s p σ₁) bg s)(S:ia σ₁.st p=some c):
  wpAny (model T.prog T.w) A t (fun v Z=>wpAny (model T.prog T.w) A (truthy v) (fb T X R W s c σ₁) bg Z) bg s:=
 bt h (fun v Z ⟨Y,g,V,U⟩=>bt (eS S U V) (fun _ _ Q=>Q.from g) ay) ay
theorem bj.val{e:Expr}{f:ER}(h:aa T b X e f)(S:∀Z,isTrue e X.env Z=(do let v <-Z;standAt e.pos;holding [v] (truthy v)):=by intro _;rfl):bj T b X e (au f):=by
 refine⟨?_⟩;intro A R W σ s c U O P Q;obtain⟨p,V,Y⟩:=oJ P;exact wpAny_isTrue_value (FA (h.1 A R W σ s p U O V Q) Y) (S _)
noncomputable def zu(f:BR):BR:=eY f fun c σ=>some (!c,σ)
theorem bj.not{e:Expr}{Y:Pos}{f:BR}(h:bj T b X e f):bj T b X (.UnaryOp .Not e Y) (zu f):=by
 refine⟨?_⟩;intro A R W σ s c Q P U V;obtain⟨Z,σ₁,e,U⟩:=aX U;cases U;exact wpAny_isTrue_Not (bt (h.1 A R W σ s Z _ P e V) (fun v S ⟨e,O,g,V⟩=>⟨by rw [e],O,g,V⟩) ay)
theorem bj.cmp{l r:Expr}{x:CmpOp}{y:Pos}{S U:ER}{g:PV->PV->ER}(I:aa T b X l S)(J:aa T b X r U)(e:bC T b (compareOp x) g)(f:behindInMarks x r=false:=by rfl):
  bj T b X (.Compare l [x] [r] y) (au (ai S U g)):=by
 refine⟨?_⟩;intro A R W σ s c z t d h;obtain⟨m,Y,D⟩:=oJ d;obtain⟨p,σ₁,q,Z,Y,E,F⟩:=lg Y;refine wpAny_isTrue_Compare1 (aK (I.1 A R W σ s p σ₁ t Y h) fun B u M G i O=>?_) f;refine aK (J.1 A R B σ₁ M q Z t E O) fun C v N V j P=>?_
 refine aK (e X A R C Z N p q u v m z t F P (i.mono V.ext) j) fun n w o H k Q=>?_
 exact bt (eS D Q k) (fun _ _ a=>a.from ((G.trans V).trans H)) ay
noncomputable def ff:BR:=fun σ=>some (true,σ)
noncomputable def lG:BR:=fun σ=>some (false,σ)
noncomputable def kG(f g:BR):BR:=eY f fun c=>cond c ff g
structure eI(T:Tp)(b:Nat)(X:Cx)(op:BoolOp)(es:List Expr)(f:BR):Prop where
 go:
  ∀A R W σ s c σ',fJ b A->f σ=some (c,σ')->bQ T X R W σ s->wpAny (model T.prog T.w) A (allTrue op es X.env) (fb T X R W s c σ') bg s
theorem eI.orNil:eI T b X .Or [] lG:=by
 refine⟨?_⟩;intro A R W σ s c Z U V Y;cases V;exact bI (fb.same (k:=s.toks) Y)
theorem eI.or{e:Expr}{I:List Expr}{f g:BR}(h:bj T b X e f)(H:eI T b X .Or I g):eI T b X .Or (e::I) (kG f g):=by
 refine⟨?_⟩;intro A R W σ s c O M P J;obtain⟨Q,σ₁,S,P⟩:=aX P;cases Q with
 |false=>
  refine JX (bt (h.1 A R W σ s _ σ₁ M S J) (fun v U N=>?_) ay);obtain⟨rfl,V,Y,Z⟩:=N;exact bt (H.1 A R V σ₁ U c O M P Z) (fun _ _ q=>q.from Y) ay
 |true=>
  cases P;refine JX (bt (h.1 A R W σ s _ _ M S J) (fun v U N=>?_) ay);obtain⟨rfl,V,Y,Z⟩:=N;exact⟨rfl,V,Y,Z⟩
theorem bj.bool{V:BoolOp}{U:List Expr}{Y:Pos}{f:BR}(h:eI T b X V U f):bj T b X (.BoolOp V U Y) f:=by
 refine⟨?_⟩;intro A R W σ s c Z P Q S;exact wpAny_isTrue_BoolOp (h.1 A R W σ s c Z P Q S)
noncomputable def ga(t:BR)(f g:ER):ER:=eY t fun c=>cond c f g
theorem aa.ifexp{t x y:Expr}{O:Pos}{J:BR}{f g:ER}(G:bj T b X t J)(H:aa T b X x f)(I:aa T b X y g):aa T b X (.IfExp t x y O) (ga J f g):=by
 refine⟨?_⟩;intro A R W σ s M S N P F;obtain⟨c,σ₁,Q,P⟩:=aX P;refine wpAny_IfExp (bt (G.1 A R W σ s _ σ₁ N Q F) (fun v Y E=>?_) ay);obtain⟨rfl,U,V,Z⟩:=E;cases v with
 |true=>exact dl V (H.1 A R U σ₁ Y M S N P Z)
 |false=>exact dl V (I.1 A R U σ₁ Y M S N P Z)
noncomputable def KU(f g:ER):ER:=eY f fun p σ=>(ia σ.st p).bind fun c=>cond c (g σ) (some (p,σ))
theorem aa.and{x y:Expr}{J:Pos}{f g:ER}(C:aa T b X x f)(D:aa T b X y g):aa T b X (.BoolOp .And [x,y] J) (KU f g):=by
 refine⟨?_⟩;intro A R W σ s E M G Q B;obtain⟨p,σ₁,N,Q⟩:=aX Q;refine cE Q fun c O Q=>?_
 refine wpAny_And2 (aK (C.1 A R W σ s p σ₁ G N B) fun F u I V H S=>?_);refine bt (eS O S H) (fun v P z=>?_) ay;obtain⟨rfl,U,Y,Z⟩:=z;cases v with
 |true=>exact dl (V.trans Y) (D.1 A R U σ₁ P E M G Q Z)
 |false=>cases Q;exact⟨U,V.trans Y,H.mono Y.ext,Z⟩
noncomputable def JJ:PV->ER:=fun p σ=>(ia σ.st p).bind fun c=>some (.bool (!c),σ)
theorem CS:vq T b (unaryOp .Not) JJ:=by
 intro X A R W σ s p u M Q J U O P;refine cE U fun c e U=>bv U ?_
 refine not_of (bt (eS e O P) (fun v S N=>?_) ay);obtain⟨rfl,V,Y,Z⟩:=N;exact⟨V,Y,eW _,Z⟩
noncomputable def LK(k:Int->Int->Bool)(p q:PV):ER:=qR (fun a=>qR (fun b=>ab (.bool (k a b))) q) p
noncomputable def vJ:=LK fun a b=>decide (a<b)
noncomputable def OO:=LK fun a b=>decide (b<a)
noncomputable def PZ:=LK fun a b=>decide (a<=b)
noncomputable def Qb:=LK fun a b=>decide (b<=a)
theorem yB:bC T b (compareOp .Lt) vJ:=by
 intro X A R W σ s p q u v P Y O Z S U V;exact fD Z U fun a t Z=>fD Z V fun c Q Z=>bv Z (by with_reducible exact PyProof.Rows.lt_int (aT.same' S (eW _)))
theorem Tf:bC T b (compareOp .Gt) OO:=by
 intro X A R W σ s p q u v P Y O Z S U V;exact fD Z U fun a t Z=>fD Z V fun c Q Z=>bv Z (by with_reducible exact PyProof.Rows.gt_int (aT.same' S (eW _)))
theorem OE:bC T b (compareOp .LtE) PZ:=by
 intro X A R W σ s p q u v P Y O Z S U V;exact fD Z U fun a t Z=>fD Z V fun c Q Z=>bv Z (by with_reducible exact PyProof.Rows.le_int (aT.same' S (eW _)))
theorem RV:bC T b (compareOp .GtE) Qb:=by
 intro X A R W σ s p q u v P Y O Z S U V;exact fD Z U fun a t Z=>fD Z V fun c Q Z=>bv Z (by with_reducible exact PyProof.Rows.ge_int (aT.same' S (eW _)))
end
mutual
noncomputable def nP:PV->Option PyData
 |.none=>some .none
 |.bool b=>some (.bool b)
 |.int i=>some (.int i)
 |.str x=>some (.str x)
 |.tup Z=>(di Z).map .tuple
 |_=>none
noncomputable def di:List PV->Option (List PyData)
 |[]=>some []
 |p::Z=>match nP p,di Z with
  |some d,some Y=>some (d::Y)
  |_,_=>none
end
noncomputable def jb(st:List (Nat×AO)):PV->Option PyData
 |.loc i=>match st.lookup i with
  |some (.list Z)=>(di Z).map .list
  |_=>none
 |p=>nP p
set_option tactic.hygienic true in
mutual
theorem qL{W:Wd}{h:Heap}(V:FH W.F h):∀{p:PV} {d:PyData} {u:Value},nP p=some d->bn W p u->∃X,Reads h u d X
 |.none,d,u,e,Z=>by obtain rfl:=bc e;subst Z;exact⟨_,.none⟩
 |.bool b,d,u,e,Z=>by obtain rfl:=bc e;subst Z;exact⟨_,.bool b⟩
 |.int i,d,u,e,Z=>by obtain rfl:=bc e;obtain⟨t,rfl⟩:=Z;exact⟨_,.int i t⟩
 |.str x,d,u,e,Z=>by obtain rfl:=bc e;obtain⟨t,rfl⟩:=Z;exact⟨_,.str x t⟩
 |.tup U,d,u,e,Z=>by
  obtain⟨a,R,n,rfl,S,T⟩:=Z;replace e:(di U).map PyData.tuple=some d:=e;obtain⟨Q,Y,rfl⟩:=iO.mp e;obtain⟨X,r⟩:=jZ V Y T;exact⟨X,.tuple (V _ _ S) rfl rfl r⟩
 |.loc _,d,u,e,Z=>aZ e
 |.val _,d,u,e,Z=>aZ e
 |.hdr _ _,d,u,e,Z=>aZ e
 |.rng _ _,d,u,e,Z=>aZ e
 |.fl _,d,u,e,Z=>aZ e
 |.clo ..,d,u,e,Z=>aZ e
theorem jZ{W:Wd}{h:Heap}(U:FH W.F h):∀{X:List PV} {Z:List PyData} {Y:List Value},di X=some Z->aN W X Y->∃T,ReadsAll h Y Z T
 |[],Z,Y,e,V=>by obtain rfl:=bc e;rw [show Y=[]from V];exact⟨_,.nil⟩
 |p::X,Z,Y,e,V=>by
  obtain⟨v,J,rfl,P,Q⟩:=V;replace e:(match nP p,di X with|some d,some Z=>some (d::Z)|_,_=>none)=some Z:=e
  split at e
  .rename_i d M N O
   obtain rfl:=bc e;obtain⟨T,R⟩:=qL U N P;obtain⟨I,S⟩:=jZ U O Q;exact⟨_,.cons R S⟩
  .exact aZ e
end
section
variable {T:Tp}{X:Cx}{R:Fz}{W:Wd}{σ:AS}{s:Shared}{b:Nat}{A:Around}
set_option tactic.hygienic true in
theorem ee(Y:bQ T X R W σ s){p:PV}{d:PyData}{u:Value}(e:jb σ.st p=some d)(V:bn W p u):∃U,Reads s.heap u d U:=by
 cases p with
 |loc i=>
  obtain⟨M,rfl⟩:=V;simp only [jb]at e
  split at e
  .rename_i N P
   obtain⟨J,Z,rfl⟩:=iO.mp e;obtain⟨_,o,Q,O,n,rfl,S⟩:=Y.r.trk i _ P;obtain⟨U,r⟩:=jZ Y.r.hF Z S;exact⟨_,.list Q rfl rfl r⟩
  .exact aZ e
 |_=>exact qL Y.r.hF e V
noncomputable def eg(Z:Bool)(p q:PV):ER:=fun σ=>(jb σ.st p).bind fun d=>(jb σ.st q).bind fun e=>if SeqAt.shaped d&&SeqAt.shaped e then some (.bool (if Z then !PyData.eqv d e else PyData.eqv d e),σ)else none
theorem oP{Z:Bool}{p q:PV}{r:PV×AS}(h:eg Z p q σ=some r):∃d e,jb σ.st p=some d/\jb σ.st q=some e/\SeqAt.shaped d=true/\SeqAt.shaped e=true/\r=(.bool (if Z then !PyData.eqv d e else PyData.eqv d e),σ):=
 cE h fun d U h=>cE h fun e V h=>fO h fun Y h=>⟨d,e,U,V,(tQ.mp Y).1,(tQ.mp Y).2,(bc h).symm⟩
noncomputable def fE(p q:PV):ER:=match p with
 |.int a=>(match q with|.int b=>ab (.bool (a==b))|_=>eg false p q)
 |.str a=>(match q with|.str b=>ab (.bool (a==b))|_=>eg false p q)
 |_=>eg false p q
noncomputable def pA(p q:PV):ER:=match p with
 |.int a=>(match q with|.int b=>ab (.bool (a != b))|_=>eg true p q)
 |.str a=>(match q with|.str b=>ab (.bool (a != b))|_=>eg true p q)
 |_=>eg true p q
theorem fJ.u64(h:fJ b A):A.units+64<cLine:=by have:=h.uni;exact cq 0x40100800082110064204081800210421 rfl this
theorem ij:bC T b (compareOp .Eq) fE:=by
 intro X A R W σ s p q u v Q U M V S Y Z;have go {p q u v} (V:eg false p q σ=some (Q,U)) (Y:bn W p u) (Z:bn W q v):wpAny (model T.prog T.w) A (compareOp .Eq u v) (aT T X R W s Q U) bg s:=by
  obtain⟨d,e,F,G,I,J,H⟩:=oP V;cases H;obtain⟨D,N⟩:=ee S F Y;obtain⟨E,O⟩:=ee S G Z;exact SeqAt.compareEq_shaped N O I J M.u64 (aT.same' S (eW _))
 cases p with
 |int a=>
  cases q with
  |int b=>obtain⟨t,rfl⟩:=Y;obtain⟨P,rfl⟩:=Z;exact bv V (by with_reducible exact eq_int (aT.same' S (eW _)))
  |_=>exact go V Y Z
 |str a=>
  cases q with
  |str b=>obtain⟨t,rfl⟩:=Y;obtain⟨P,rfl⟩:=Z;exact bv V (by with_reducible exact eq_str (aT.same' S (eW _)))
  |_=>exact go V Y Z
 |_=>exact go V Y Z
theorem wF:bC T b (compareOp .NotEq) pA:=by
 intro X A R W σ s p q u v Q U M V S Y Z;have go {p q u v} (V:eg true p q σ=some (Q,U)) (Y:bn W p u) (Z:bn W q v):wpAny (model T.prog T.w) A (compareOp .NotEq u v) (aT T X R W s Q U) bg s:=by
  obtain⟨d,e,F,G,I,J,H⟩:=oP V;cases H;obtain⟨D,N⟩:=ee S F Y;obtain⟨E,O⟩:=ee S G Z;exact SeqAt.compareNe_shaped N O I J M.u64 (aT.same' S (eW _))
 cases p with
 |int a=>
  cases q with
  |int b=>obtain⟨t,rfl⟩:=Y;obtain⟨P,rfl⟩:=Z;exact bv V (by with_reducible exact ne_int (aT.same' S (eW _)))
  |_=>exact go V Y Z
 |str a=>
  cases q with
  |str b=>obtain⟨t,rfl⟩:=Y;obtain⟨P,rfl⟩:=Z;exact bv V (by with_reducible exact ne_str (aT.same' S (eW _)))
  |_=>exact go V Y Z
 |_=>exact go V Y Z
noncomputable def SI:PV->Option Bool
 |.none=>some true
 |.val _|.rng _ _|.fl _=>none
 |_=>some false
noncomputable def OU(p q:PV):Option Bool:=match q with
 |.none=>SI p
 |.bool d=>(match p with
  |.bool c=>some (c==d)
  |.none=>some false
  |_=>none)
 |.val w=>(match p with
  |.val v=>if plainIs v w then some (v==w)else none
  |_=>none)
 |_=>none
noncomputable def MW(p q:PV):ER:=fun σ=>(OU p q).bind fun c=>some (.bool c,σ)
noncomputable def dI(p q:PV):ER:=fun σ=>(OU p q).bind fun c=>some (.bool (!c),σ)
theorem Hg{p:PV}{u:Value}{c:Bool}(h:SI p=some c)(Z:bn W p u):(u==Value.none)=c:=by
 cases p with
 |none=>rw [show u=.none from Z];exact bc h
 |bool b=>rw [show u=.bool b from Z];exact bc h
 |int i=>obtain⟨t,rfl⟩:=Z;exact bc h
 |str x=>obtain⟨t,rfl⟩:=Z;exact bc h
 |tup V=>obtain⟨a,Y,n,rfl,_⟩:=Z;exact bc h
 |loc i=>rw [Z.2];exact bc h
 |hdr C l=>obtain⟨_,a,D,od,rfl,_⟩:=Z;exact bc h
 |clo _ _ _ _ _ _=>obtain⟨_,a,o,rfl,_⟩:=Z;exact bc h
 |_=>exact aZ h
theorem AY{p q:PV}{u v:Value}{c:Bool}(h:OU p q=some c)(Z:bn W p u)(V:bn W q v)(Q:Value->Shared->Prop)(E:Value->Shared->Prop):
  (Q (.bool c) s->wpAny (model T.prog T.w) A (compareOp .Is u v) Q E s)/\(Q (.bool (!c)) s->wpAny (model T.prog T.w) A (compareOp .IsNot u v) Q E s):=by
 have plain {w u:Value} {c:Bool} (Y:plainIs u w=true) (e:(u==w)=c):(Q (.bool c) s->wpAny (model T.prog T.w) A (compareOp .Is u w) Q E s)/\(Q (.bool (!c)) s->wpAny (model T.prog T.w) A (compareOp .IsNot u w) Q E s):=by
  subst e;exact⟨fun h=>wpAny_is_plain Y h,fun h=>wpAny_isNot_plain Y h⟩
 cases q with
 |none=>
  rw [show v=.none from V];obtain rfl:=Hg h Z;exact⟨fun h=>is_none_gen h,fun h=>isnot_none_gen h⟩
 |bool d=>
  rw [show v=.bool d from V];cases p with
  |none=>rw [show u=.none from Z];exact plain rfl (bc h)
  |bool e=>rw [show u=.bool e from Z];obtain rfl:=bc h;exact⟨fun h=>is_bool h,fun h=>isnot_bool h⟩
  |_=>exact aZ h
 |val w=>
  rw [show v=w from V];cases p with
  |val x=>rw [show u=x from Z];exact fO h fun Y h=>plain Y (bc h)
  |_=>exact aZ h
 |_=>exact aZ h
theorem Ge:bC T b (compareOp .Is) MW:=by
 intro X A R W σ s p q u v Q Y P Z S U V;exact cE Z fun c e Z=>bv Z ((AY e U V _ _).1 (aT.same' S (eW _)))
theorem fW:bC T b (compareOp .IsNot) dI:=by
 intro X A R W σ s p q u v Q Y P Z S U V;exact cE Z fun c e Z=>bv Z ((AY e U V _ _).2 (aT.same' S (eW _)))
noncomputable def CO(x y:Str):Bool:=!(Builtin.Str.occurrences x y 0 x.length 1).isEmpty
noncomputable def QG:PyData->Option (List PyData)
 |.list Z=>some Z
 |_=>none
theorem IY{d:PyData}{Z:List PyData}(h:QG d=some Z):d=.list Z:=by
 cases d with
 |list Y=>obtain rfl:=(bc h).symm;rfl
 |_=>exact aZ h
noncomputable def kJ(Y:Bool)(p q:PV):ER:=fun σ=>(jb σ.st p).bind fun d=>((jb σ.st q).bind QG).bind fun Z=>if SeqAt.shaped d&&SeqAt.shaped (.list Z)then some (.bool (if Y then !(Z.any fun y=>PyData.eqv y d)else(Z.any fun y=>PyData.eqv y d)),σ)else none
noncomputable def Rf(p q:PV):ER:=match p with
 |.str y=>(match q with|.str x=>ab (.bool (CO x y))|_=>kJ false p q)
 |_=>kJ false p q
theorem oN{Y:Bool}{p q:PV}{r:PV×AS}(h:kJ Y p q σ=some r):∃d Z,jb σ.st p=some d/\jb σ.st q=some (.list Z)/\SeqAt.shaped d=true/\SeqAt.shaped (.list Z)=true/\r=(.bool (if Y then !(Z.any fun y=>PyData.eqv y d)else(Z.any fun y=>PyData.eqv y d)),σ):=
 cE h fun d P h=>cE h fun Z Q h=>fO h fun V h=>⟨d,Z,P,cE Q fun y S U=>IY U▸S,(tQ.mp V).1,(tQ.mp V).2,(bc h).symm⟩
theorem mi{Z:List PyData}(h:SeqAt.shaped (.list Z)=true):PyData.canLayAll0 Z=true:=by
 have:=xb h
 simpa [PyData.canLay0]using this
theorem oA{Z:List PyData}(h:SeqAt.shaped (.list Z)=true):PyData.depthAll Z<=64:=by
 have:=SeqAt.depth_of_shaped h;simp only [PyData.depth]at this
 exact aW 0x4020000088040840010021 rfl this
theorem Uz:bC T b (compareOp .In) Rf:=by
 intro X A R W σ s p q u v P Z J U S V Y;have go {p q u v} (U:kJ false p q σ=some (P,Z)) (V:bn W p u) (Y:bn W q v):wpAny (model T.prog T.w) A (compareOp .In u v) (aT T X R W s P Z) bg s:=by
  obtain⟨d,Q,F,G,I,O,H⟩:=oN U;cases H;obtain⟨C,M⟩:=ee S F V;obtain⟨D,N⟩:=ee S G Y;exact SeqAt.in_list_reads N M (mi O) (xb I) (by have:=J.uni;have:=oA O;have:min (PyData.depthAll Q) d.depth<=PyData.depthAll Q:=Ah _ _;omega) (aT.same' S (eW _))
 cases p with
 |str y=>
  cases q with
  |str x=>obtain⟨t,rfl⟩:=V;obtain⟨E,rfl⟩:=Y;exact bv U (by with_reducible exact in_str (aT.same' S (eW _)))
  |_=>exact go U V Y
 |_=>exact go U V Y
end
section
variable {T:Tp}{X:Cx}{R:Fz}{W:Wd}{σ:AS}{s:Shared}{b:Nat}{A:Around}
noncomputable def mS(p q:PV):ER:=rW (fun y=>rW (fun x=>ab (.bool (!CO x y))) q) p
theorem yw:bC T b (compareOp .NotIn) mS:=by
 intro X A R W σ s p q u v P Y O Z S U V;exact iH Z U fun y t Z=>iH Z V fun x Q Z=>bv Z (by with_reducible exact notIn_str (aT.same' S (eW _)))
noncomputable abbrev LR:=AS->Option (List PV×AS)
inductive RZ(T:Tp)(X:Cx)(R:Fz)(W:Wd)(s:Shared)(ps:List PV)(σ':AS)(vs:List Value)(s':Shared):Prop
 |mk(W':Wd)(g:ci W s.heap W' s'.heap)(hv:aN W' ps vs)(hr:bQ T X R W' σ' s')
structure ak(T:Tp)(b:Nat)(X:Cx)(es:List Expr)(f:LR):Prop where
 go:
  ∀A R W σ s ps σ' pos,fJ b A->f σ=some (ps,σ')->bQ T X R W σ s->wpAny (model T.prog T.w) A (spliced (backTo pos (starEach es X.env))) (RZ T X R W s ps σ') bg s
noncomputable def al:LR:=fun σ=>some ([],σ)
noncomputable def ae(f:ER)(g:LR):LR:=eY f fun p=>eY g fun Z σ=>some (p::Z,σ)
theorem ak.nil:ak T b X [] al:=by
 refine⟨?_⟩;intro A R W σ s S Z Y Q U V;cases U;exact rK ⟨W,ci.refl ..,rfl,V⟩
theorem ak.cons{e:Expr}{E:List Expr}{f:ER}{g:LR}(h:aa T b X e f)(r:ak T b X E g)(w:∀S Z,starEach (e::Z) S=(false,eval e S)::starEach Z S:=by intro _ _;rfl):
  ak T b X (e::E) (ae f g):=by
 refine⟨?_⟩;intro A R W σ s q B P C O u;obtain⟨p,σ₁,J,O⟩:=aX O;obtain⟨y,G,M,O⟩:=aX O;cases O;rw [w];show wpAny _ _ (spliced ((false,eval e X.env)::backTo P (starEach E X.env))) _ _ _;refine qM (aK (h.1 A R W σ s p σ₁ C J u) fun H v Q N x U=>?_);refine bt (r.1 A R H σ₁ Q y _ P C M U) (fun z D t=>?_) ay;obtain⟨I,Y,F,V⟩:=t;exact⟨I,N.trans Y,⟨v,z,rfl,x.mono Y.ext,F⟩,V⟩
noncomputable def bH(f:LR):ER:=eY f fun Z σ=>if Z.length<=2^20 then some (.loc σ.nx,{σ with st:=(σ.nx,.list Z)::σ.st,nx:=σ.nx+1})else none
noncomputable def bT(f:LR):ER:=eY f fun Z σ=>if Z.length<=2^20 then some (.tup Z,σ)else none
theorem aa.list{O:List Expr}{Y:Pos}{f:LR}(h:ak T b X O f):aa T b X (.List O Y) (bH f):=by
 refine⟨?_⟩;intro A R W σ s D M F V I;obtain⟨J,σ₁,S,V⟩:=aX V;refine fO V fun G V=>bv V ?_
 refine List_ (bt (h.1 A R W σ s J σ₁ Y F S I) (fun E P H=>?_) ay);obtain⟨N,U,Q,Z⟩:=H;exact dl U (vE Z Q G)
theorem aa.tup{O:List Expr}{k:Nat}{Y:Pos}{f:LR}(h:ak T b X O f):aa T b X (.Tuple O k Y) (bT f):=by
 refine⟨?_⟩;intro A R W σ s D M F V I;obtain⟨J,σ₁,S,V⟩:=aX V;refine fO V fun G V=>bv V ?_
 refine Tuple_ (bt (h.1 A R W σ s J _ Y F S I) (fun E P H=>?_) ay);obtain⟨N,U,Q,Z⟩:=H;exact dl U (sC Z Q G)
noncomputable def oR{Z:Type}(k:Int)(n:Nat)(f:Nat->Option Z)(g:Z->PV):ER:=fun σ=>if -(2^62)<=k/\k<2^62 then((seqIndex? k n).bind f).bind fun p=>some (g p,σ)else none
noncomputable def OA(i:Nat)(q:PV):ER:=match q with
 |.int k=>sJ i fun Y=>oR k Y.length (Y[·]?) id
 |.str x=>fun σ=>(AH (σ.st.lookup i)).bind fun Z=>(Z.lookup x).bind fun p=>some (p,σ)
 |_=>fun _=>none
noncomputable def aH(p q:PV):ER:=match p with
 |.tup Z=>qR (fun k=>oR k Z.length (Z[·]?) id) q
 |.str x=>qR (fun k=>oR k x.length (x.cps[·]?) fun c=>.str ⟨#[c]⟩) q
 |.fl Y=>qR (fun k σ=>if 0<=k/\k<2^62 then(Y[k.toNat]?).bind fun n=>some (.int n,σ)else none) q
 |.loc i=>OA i q
 |_=>fun _=>none
theorem zT{Z:Type}{k:Int}{n:Nat}{f:Nat->Option Z}{g:Z->PV}{r:PV×AS}{G:Prop}(h:oR k n f g σ=some r)(V:(-(2^62)<=k/\k<2^62)->∀j p,seqIndex? k n=some j->f j=some p->some (g p,σ)=some r->G):G:=
 fO h fun Y h=>cE h fun p e h=>cE e fun j S U=>V Y j p S U h
theorem Jw{Z:Type}{k:Int}{n j:Nat}{f:Nat->Option Z}{g:Z->PV}{p:Z}(V:-(2^62)<=k/\k<2^62)(U:seqIndex? k n=some j)(Y:f j=some p):oR k n f g σ=some (g p,σ):=by
 unfold oR;rw [aJ V,U,fx,Y];rfl
theorem tY{i:Nat}{Z:List PV}{k:Int}{j:Nat}{p:PV}(h:σ.st.lookup i=some (.list Z))(V:-(2^62)<=k/\k<2^62)(U:seqIndex? k Z.length=some j)(Y:Z[j]?=some p):aH (.loc i) (.int k) σ=some (p,σ):=by
 show sJ i (fun Z=>oR k Z.length (Z[·]?) id) σ=_;rw [nu h];exact Jw V U Y
theorem Ds(Z:List Int)(k:Int)(σ:AS):aH (.fl Z) (.int k) σ=if 0<=k/\k<2^62 then(Z[k.toNat]?).bind fun n=>some (.int n,σ)else none:=rfl
theorem ME{Z:List (Str×PV)}{Y:List (Str×Value)}(U:Y.map (·.1)=Z.map (·.1))(N:aN W (Z.map (·.2)) (Y.map (·.2)))(x:Str):
  match Z.lookup x with|some p=>∃v,valueAt Y x=some v/\bn W p v|none=>valueAt Y x=none:=by
 induction Z generalizing Y with
 |nil=>
  cases Y with
  |nil=>rfl
  |cons _ _=>exact EG U
 |cons y Z M=>
  cases Y with
  |nil=>exact Ru U
  |cons z Y=>
   rw [eh,eh]at U
   injection U with V P
   rw [eh,eh]at N
   obtain⟨u,D,e,Q,S⟩:=N;injection e with F G
   subst F G;obtain⟨O,E⟩:=y;rw [dU];unfold valueAt;rw [List.find?_cons]
   by_cases h:x=O
   .subst h
    have H:z.1=x:=V;simp only [uz,H,decide_true];exact⟨_,rfl,Q⟩
   .have I:(x==O)=false:=by simp [h]
    have J:¬z.1=x:=fun q=>h (q.symm.trans V)
    simp only [I,J,decide_false];exact M P S
theorem lB{V:Program}{w:World}{E:Value->Shared->Prop}{l:Addr}{Z:Array Value}{k:Int}{t:Tok}{j:Nat}{x:Value}{Q:Value->Shared->Prop}
  (O:s.heap.IsList l Z) (M:-(2^62)<=k) (N:k<2^62) (Y:seqIndex? k Z.size=some j) (P:Z[j]?=some x) (h:Q x s):wpAny (model V w) A (getItem (.ref l) (.int k t)) Q E s:=by
 unfold seqIndex? at Y
 by_cases U:k<0
 .simp only [U,hO]at Y
  split at Y
  .rename_i S
   obtain rfl:=bc Y;simp only [dw,je]at S
   exact wpAny_getItem_list_neg O U (by exact(uV 0x20004b50100120408014a021 rfl S.1)) (by exact(OD M)) P h
  .exact aZ Y
 .simp only [U,me]at Y
  split at Y
  .rename_i S
   obtain rfl:=bc Y;obtain⟨l⟩:=Z;exact getItem_listL O (by exact(mh 0x1000a5010052043021 rfl U)) (by exact(OM N)) (by simpa using P) h
  .exact aZ Y
noncomputable def Kt(slice:Expr):Prop:=∀o i,subscripted slice false o i=operate [o,i] (getItem o i)
noncomputable def RL(Z:Program)(w:World)(A:Around)(o i:Value)(Q:Value->Shared->Prop)(E:Value->Shared->Prop)(s:Shared):Prop:=
 ∃(Y id:String),typeLookup (.type Y) "__getitem__"=pure (some (.builtin id))/\s.TypeIs o Y/\wpAny (model Z w) A (getItem o i) Q E s
theorem mv{p q:PV}{u v:Value}{l:PV}{P:AS}(Z:aH p q σ=some (l,P))(O:bQ T X R W σ s)(h:bn W p u)(D:bn W q v):RL T.prog T.w A u v (aT T X R W s l P) bg s:=by
 cases p with
 |tup I=>
  obtain⟨a,H,n,rfl,hf,U⟩:=h;refine fD Z D fun k t Z=>zT Z fun V j p J M Z=>bv Z ?_
  obtain⟨x,f,N⟩:=U.get M;have ht:IsTup s.heap a H:=⟨_,O.r.hF _ _ hf,rfl,n,rfl⟩;have hl:I.length=H.size:=U.length;exact⟨_,_,F.slot_tuple_getitem.lookup,ht.typeIs,getItem_tuple ht (by exact(OD V.1)) (by exact(OM V.2)) (hl▸J) (by simpa using f) (aT.same' O N)⟩
 |str x=>
  obtain⟨t,rfl⟩:=h;refine fD Z D fun k z Z=>zT Z fun V j c J hc Z=>bv Z ?_
  have Y:(seqIndex? k x.length).bind (x.cps[·]?)=some c:=by rw [J];exact hc
  exact⟨_,_,F.slot_str_getitem.lookup,gS s x t,getItem_str (by rw [Bool.or_eq_false_iff,uD,uD];exact⟨fun G=>mh 0x1000000000000000074b40848408010000000000000000e96a022 rfl V.1 G,fun G=>mh 0x401000000000000000074a02020000000000000001d2042422 rfl V.2 G⟩) Y (aT.same O (nc _ _))⟩
 |fl ns=>
  obtain⟨a,o,n,B,rfl,hf,hc,g,rfl⟩:=h;refine fD Z D fun k z Z=>fO Z fun V Z=>cE Z fun m Y Z=>bv Z ?_
  have S:s.heap.IsList a (B.map fun x=>Value.int x.1 x.2).toArray:=⟨_,O.r.hF _ _ hf,hc,n,g⟩;rw [kH]at Y
  obtain⟨y,hy,rfl⟩:=iO.mp Y;have z0:k.toNat<B.length:=(jQ.mp hy).1;have J:seqIndex? k (B.map fun x=>Value.int x.1 x.2).toArray.size=some k.toNat:=by
   unfold seqIndex?;simp only [tW,db];rw [show(if k<0 then k+(B.length:Int)else k)=k from aO (by exact(fun G=>mh 0x2902121020014a022 rfl V.1 G))];rw [aJ];simp only [dw,je];exact⟨KI V.1,Kq 0x102408484080012a8840000422 rfl z0 (eO (KI V.1))⟩
  exact⟨_,_,slot_list_getitem.lookup,S.typeIs,lB (x:=.int y.1 y.2) S (by exact(mh 0x400800000000000000074b501020014a021 rfl V.1)) V.2 J (by simp [hy]) (aT.same' O (ed _ _))⟩
 |loc i=>
  obtain⟨hi,rfl⟩:=h;cases q with
  |int k=>
   obtain⟨z,rfl⟩:=D;have Z:sJ i (fun I=>oR k I.length (I[·]?) id) σ=some (l,P):=Z;refine uk Z fun I Q Z=>zT Z fun V j p J M Z=>bv Z ?_
   obtain⟨_,o,ho,H,n,rfl,U⟩:=O.r.trk i _ Q;obtain⟨x,f,N⟩:=U.get M;have hl:I.length=H.size:=U.length;have S:s.heap.IsList (W.ρ i) H:=⟨_,ho,rfl,n,rfl⟩;exact⟨_,_,slot_list_getitem.lookup,S.typeIs,lB S V.1 V.2 (hl▸J) (by simpa using f) (aT.same' O N)⟩
  |str x=>
   obtain⟨z,rfl⟩:=D;have Z:(AH (σ.st.lookup i)).bind (fun E=>(E.lookup x).bind fun p=>some (p,σ))=some (l,P):=Z;refine cE Z fun E Q Z=>cE Z fun p Y Z=>bv Z ?_
   obtain⟨_,ob,ho,kv,h1,h2,h3⟩:=O.r.trk i _ (xn Q);have g:s.heap.DictOf (PySem.strKind T.prog T.w) (W.ρ i) kv:=qd.mpr ⟨ob,ho,h1 _⟩;have C:=ME h2 h3 x;rw [Y]at C
   obtain⟨v,d,e⟩:=C;exact⟨_,_,F.slot_dict_getitem.lookup,g.typeIs,wpAny_getItem_of (knd:=PySem.strKind T.prog T.w) (k:=x) (by show Value.isStrOf x (.str x z)=true;simp [Value.isStrOf]) g.mapOf d (aT.same O e)⟩
  |_=>exact aZ Z
 |_=>exact aZ Z
theorem aa.index{Z slice:Expr}{I:Pos}{f g:ER}(h:aa T b X Z f)(r:aa T b X slice g)(z:Kt slice:=by intro _ _;rfl):aa T b X (.Subscript Z slice I) (ai f g aH):=by
 refine⟨?_⟩;intro A R W σ s o E G y B;obtain⟨p,σ₁,q,V,M,N,O⟩:=lg y;refine Subscript_ (aK (h.1 A R W σ s p σ₁ G M B) fun J u Q P C S=>?_);refine aK (r.1 A R J σ₁ Q q V G N S) fun F v H Y D U=>dl (P.trans Y) ?_
 obtain⟨n,id,t,w,x⟩:=mv (A:=A) O U (C.mono Y.ext) D;exact tail_any w t x (z _ _)
end
noncomputable def aG:List (Nat×AO)->Nat->AO->List (Nat×AO)
 |[],i,Z=>[(i,Z)]
 |(j,x)::l,i,Z=>if i=j then(i,Z)::l else(j,x)::aG l i Z
theorem Bs(i ao):aG [] i ao=([(i,ao)]):=rfl
theorem Dl(j x l i ao):aG ((j,x)::l) i ao=(if i=j then(i,ao)::l else(j,x)::aG l i ao):=rfl
theorem gc:∀(st:List (Nat×AO)) (i j:Nat) (Y:AO),(aG st i Y).lookup j=if j=i then some Y else st.lookup j
 |[],i,j,Y=>by
  dsimp only [Bs,Dl];rw [dU]
  by_cases h:j=i
  .subst h;simp
  .have:(j==i)=false:=by simp [h]
   simp [this,h]
 |(k,x)::l,i,j,Y=>by
  dsimp only [Bs,Dl]
  by_cases h:i=k
  .subst h
   rw [aJ rfl,dU,dU]
   by_cases Z:j=i
   .subst Z;simp
   .have:(j==i)=false:=by simp [Z]
    simp [this,Z]
  .rw [aO h,dU,dU,gc l i j Y]
   by_cases Z:j=k
   .subst Z
    have:¬j=i:=fun e=>h e.symm
    simp [this]
   .have:(j==k)=false:=by simp [Z]
    simp [this]
inductive ke(T:Tp)(X:Cx)(R:Fz)(W:Wd)(s:Shared)(σ':AS)(u:Unit)(s':Shared):Prop
 |mk(W':Wd)(g:ci W s.heap W' s'.heap)(hr:bQ T X R W' σ' s')
section
variable {T:Tp}{X:Cx}{R:Fz}{W:Wd}{σ:AS}{s:Shared}{b:Nat}{A:Around}
theorem bQ.updId(Z:bQ T X R W σ s){i:Nat}{V ao:AO}(d:σ.st.lookup i=some V){N:Heap}(u:Heap.SameBut (W.ρ i) s.heap N){Q:Obj}(p:N.get? (W.ρ i)=some Q)(z:lJ T.w W ao Q)(k:Nat):
  ci W s.heap W N/\bQ T X R W {σ with st:=aG σ.st i ao} {s with heap:=N,toks:=k}:=by
 obtain⟨U,o,E,_⟩:=Z.r.trk i V d;obtain⟨B,C,D,_⟩:=Z.r.fre i U;have keep:∀b o,b≠W.ρ i->s.heap.get? b=some o->N.get? b=some o:=fun b o G e=>(u.2 b G).trans e
 have v:∀b o,s.heap.get? b=some o->∃Q,N.get? b=some Q:=fun b o e=>by
  by_cases G:b=W.ρ i
  .exact⟨Q,G▸p⟩
  .exact⟨o,keep b o G e⟩
 have Y {F:Addr->Option Obj} (c:F (W.ρ i)=none):∀a o,F a=some o->a≠W.ρ i:=fun a o e q=>by rw [q,c]at e;exact aZ e
 refine⟨ci.heap v,⟨?_,?_,Z.nx⟩⟩
 .refine⟨Z.r.top,fun a o e=>keep a o (Y B a o e) (Z.r.hF a o e),fun a o e=>keep a o (Y C a o e) (Z.r.hR a o e),Z.r.hG,fun j x e=>?_,fun j J=>?_,Z.r.inj,fun P n=>?_,Z.r.bare,Z.r.os,Z.r.sysm⟩
  .rw [gc]at e
   by_cases J:j=i
   .subst J;rw [aJ rfl]at e;obtain rfl:=bc e;exact⟨U,Q,p,z⟩
   .rw [aO J]at e
    obtain⟨O,S,H,I⟩:=Z.r.trk j x e;exact⟨O,S,keep _ _ (fun q=>J (Z.r.inj j i O U q)) H,I⟩
  .obtain⟨O,H,I,S,y⟩:=Z.r.fre j J
   obtain⟨M,h5⟩:=v _ _ y;exact⟨O,H,I,M,h5⟩
  .obtain⟨O,H,h,I,y⟩:=Z.r.tabs P n
   exact⟨O,H,h,keep _ _ (fun q=>D (q▸n)) I,y⟩
 .obtain⟨m,g,f⟩:=Z.l.m
  exact⟨⟨m,g.sameBut u (fun q=>Z.l.ρ i U q.symm),f⟩,Z.l.nF,Z.l.nR,Z.l.t,Z.l.ρ,Z.l.cv⟩
theorem JN{l:List Str}(h:l.Nodup){i j:Nat}{x y:Str}(P:l[i]?=some x)(Q:l[j]?=some y)(S:i≠j):x≠y:=by
 intro e;subst e;obtain⟨U,V⟩:=jQ.mp P
 obtain⟨Y,Z⟩:=jQ.mp Q
 rcases eN S with q|q
 .exact Dd.mp h i j U Y q (V.trans Z.symm)
 .exact Dd.mp h j i Y U q (Z.trans V.symm)
theorem Cp:∀{l:List (Option PV)} {i:Nat} {p:PV},fQ l i=some p->i<l.length
 |[],_,_,h=>aZ h
 |_::_,0,_,_=>kc _
 |_::l,i+1,p,h=>Nat.succ_lt_succ (Cp (l:=l) h)
theorem lc(G:bf X){i:Nat}{x:Str}(I:X.vars[i]?=some x)(Z:bQ T X R W σ s){p:PV}{v:Value}(f:bn W p v):
  wpAny (model T.prog T.w) A (storeName X.env x v) (ke T X R W s {σ with loc:=pu σ.loc i p}) bg s:=by
 obtain⟨m,c,hl⟩:=Z.l.m;refine AI (G.vars x (iB I)) c (fun z C d=>?_) (by rw [G.kind];rfl);have keep:∀b o,b≠X.env.locals->s.heap.get? b=some o->z.get? b=some o:=fun b o J e=>(d.2 b J).trans e
 have V {F:Addr->Option Obj} (hF:F X.env.locals=none):∀a o,F a=some o->a≠X.env.locals:=fun a o e q=>by rw [q,hF]at e;exact aZ e
 have n:∀b o,s.heap.get? b=some o->∃g,z.get? b=some g:=fun b o e=>by
  by_cases J:b=X.env.locals
  .obtain⟨h,_,_,U,_⟩:=C
   exact⟨h,J▸U⟩
  .exact⟨o,keep b o J e⟩
 refine⟨W,ci.heap n,⟨?_,?_,Z.nx⟩⟩
 .refine⟨Z.r.top,fun a o e=>keep a o (V Z.l.nF a o e) (Z.r.hF a o e),fun a o e=>keep a o (V Z.l.nR a o e) (Z.r.hR a o e),Z.r.hG,fun j D e=>?_,fun j S=>?_,Z.r.inj,fun P B=>?_,Z.r.bare,Z.r.os,Z.r.sysm⟩
  .obtain⟨U,Y,Q,M⟩:=Z.r.trk j D e
   exact⟨U,Y,keep _ _ (Z.l.ρ j U) Q,M⟩
  .obtain⟨U,Q,M,Y,E⟩:=Z.r.fre j S
   exact⟨U,Q,M,Y,keep _ _ (Z.l.ρ j S) E⟩
  .obtain⟨U,Q,k,M,E⟩:=Z.r.tabs P B
   exact⟨U,Q,k,keep _ _ (fun q=>Z.l.t (q▸B)) M,E⟩
 .refine⟨⟨_,C,fun j y q S O=>?_⟩,Z.l.nF,Z.l.nR,Z.l.t,Z.l.ρ,Z.l.cv⟩
  rw [tr]at O
  split at O
  .rename_i H
   obtain rfl:=bc O;obtain⟨rfl,_⟩:=H;rw [I]at S;obtain rfl:=bc S
   exact⟨v,aJ rfl,f⟩
  .rename_i H
   obtain⟨u,U,Q⟩:=hl j y q S O
   by_cases N:i=j
   .subst N
    exfalso;exact H ⟨rfl,Cp O⟩
   .exact⟨u,by rw [aO (fun e=>JN G.nodup I S N e.symm)];exact U,Q⟩
theorem lE(E:bf X){j i:Nat}{x:Str}(N:X.cv[j]?=some (x,i))(F:X.env.scope.names.lookup x=some .cell)(Y:bQ T X R W σ s){Z:Option PV}(O:σ.st.lookup i=some (.cell Z)){p:PV}{v:Value}(M:bn W p v):
  wpAny (model T.prog T.w) A (storeName X.env x v) (ke T X R W s {σ with st:=aG σ.st i (.cell (some p))}) bg s:=by
 obtain⟨H,Q⟩:=Y.l.cv j x i N;obtain⟨_,o,I,P,G,_⟩:=Y.r.trk i _ O;refine wpAny_storeName_cell E.kind F Q ⟨_,I,G⟩ fun C U J=>?_
 obtain⟨D,V,S⟩:=U;have h:=Y.updId O J V (ao:=.cell (some p)) ⟨_,S,v,rfl,M⟩ s.toks;exact⟨W,h.1,h.2⟩
end
inductive AF where
 |next|brk|cont
 |ret (p:PV)
noncomputable def vQ(W:Wd):AF->Flow->Prop
 |.next,f=>f=.next
 |.brk,f=>f=.brk
 |.cont,f=>f=.cont
 |.ret p,f=>∃v,f=.ret v/\bn W p v
inductive fG(T:Tp)(X:Cx)(R:Fz)(W:Wd)(s:Shared)(a:AF)(σ':AS)(f:Flow)(s':Shared):Prop
 |mk(W':Wd)(g:ci W s.heap W' s'.heap)(hf:vQ W' a f)(hr:bQ T X R W' σ' s')
noncomputable abbrev SR:=AS->Option (AF×AS)
structure ax(T:Tp)(b:Nat)(X:Cx)(st:Stmt)(f:SR):Prop where
 go:
  ∀A R W σ s a σ',fJ b A->f σ=some (a,σ')->bQ T X R W σ s->wpAny (model T.prog T.w) A (exec st X.env) (fG T X R W s a σ') bg s
structure ah(T:Tp)(b:Nat)(X:Cx)(sts:List Stmt)(f:SR):Prop where
 go:
  ∀A R W σ s a σ',fJ b A->f σ=some (a,σ')->bQ T X R W σ s->wpAny (model T.prog T.w) A (execs sts X.env) (fG T X R W s a σ') bg s
noncomputable abbrev TR:=PV->AS->Option AS
structure aA(T:Tp)(b:Nat)(X:Cx)(t:Expr)(g:TR):Prop where
 go:
  ∀A R W σ s p v σ',fJ b A->g p σ=some σ'->bQ T X R W σ s->bn W p v->wpAny (model T.prog T.w) A (assign t X.env v) (ke T X R W s σ') bg s
structure br(T:Tp)(b:Nat)(X:Cx)(ts:List Expr)(g:List PV->AS->Option AS):Prop where
 go:
  ∀A R W σ s ps vs σ',fJ b A->g ps σ=some σ'->bQ T X R W σ s->aN W ps vs->wpAny (model T.prog T.w) A (assignInOrder ((assignEach ts X.env).map (·.2)) vs) (ke T X R W s σ') bg s
theorem ke.from{T:Tp}{X:Cx}{R:Fz}{W V:Wd}{s Y:Shared}{U:AS}{v:Unit}{Z:Shared}(g:ci W s.heap V Y.heap)(h:ke T X R V Y U v Z):ke T X R W s U v Z:=
 let⟨P,Q,S⟩:=h;⟨P,g.trans Q,S⟩
theorem fG.from{T:Tp}{X:Cx}{R:Fz}{W V:Wd}{s Y:Shared}{a:AF}{U:AS}{v:Flow}{Z:Shared}(g:ci W s.heap V Y.heap)(h:fG T X R V Y a U v Z):fG T X R W s a U v Z:=
 let⟨O,P,Q,S⟩:=h;⟨O,g.trans P,Q,S⟩
section
variable {T:Tp}{X:Cx}{R:Fz}{W:Wd}{σ:AS}{s:Shared}{b:Nat}{A:Around}
theorem fB{σ₁:AS}{t:Sem Unit}{C:Unit->Shared->Prop}{E:Value->Shared->Prop}
  (h:wpAny (model T.prog T.w) A t (ke T X R W s σ₁) bg s)
  (U:∀Y Z,ci W s.heap Y Z.heap->bQ T X R Y σ₁ Z->C () Z):wpAny (model T.prog T.w) A t C E s:=
 bt h (fun v Z ⟨Y,g,V⟩=>U Y Z g V) ay
theorem eA{c:Bool}{σ₁:AS}{t:Sem Bool}{C:Bool->Shared->Prop}{E:Value->Shared->Prop}
  (h:wpAny (model T.prog T.w) A t (fb T X R W s c σ₁) bg s)
  (U:∀Y Z,ci W s.heap Y Z.heap->bQ T X R Y σ₁ Z->C c Z):wpAny (model T.prog T.w) A t C E s:=
 bt h (fun v Z ⟨e,Y,g,V⟩=>by subst e;exact U Y Z g V) ay
theorem dK{a:AF}{σ₁:AS}{t:Sem Flow}{C:Flow->Shared->Prop}{E:Value->Shared->Prop}
  (h:wpAny (model T.prog T.w) A t (fG T X R W s a σ₁) bg s)
  (U:∀Y f Z,ci W s.heap Y Z.heap->vQ Y a f->bQ T X R Y σ₁ Z->C f Z):wpAny (model T.prog T.w) A t C E s:=
 bt h (fun v Z ⟨Y,g,S,V⟩=>U Y v Z g S V) ay
theorem ua{Y:Wd}{Z:Shared}{t:Sem Flow}{a:AF}{V:AS}(g:ci W s.heap Y Z.heap)
  (h:wpAny (model T.prog T.w) A t (fG T X R Y Z a V) bg Z):wpAny (model T.prog T.w) A t (fG T X R W s a V) bg Z:=
 bt h (fun _ _ U=>U.from g) ay
theorem uo{Z:Wd}{s₁:Shared}{t:Sem Unit}{Y:AS}(g:ci W s.heap Z s₁.heap)
  (h:wpAny (model T.prog T.w) A t (ke T X R Z s₁ Y) bg s₁):wpAny (model T.prog T.w) A t (ke T X R W s Y) bg s₁:=
 bt h (fun _ _ V=>V.from g) ay
noncomputable def ap(i:Nat):TR:=fun p σ=>some {σ with loc:=pu σ.loc i p}
noncomputable def Fh:Option AO->Option (Option PV)
 |some (.cell p)=>some p
 |_=>none
theorem xB{o:Option AO}{p:Option PV}(h:Fh o=some p):o=some (.cell p):=by
 cases o with
 |none=>exact aZ h
 |some Z=>cases Z with
  |cell q=>obtain rfl:=(bc h).symm;rfl
  |_=>exact aZ h
noncomputable def dQ(i:Nat):TR:=fun p σ=>(Fh (σ.st.lookup i)).bind fun _=>some {σ with st:=aG σ.st i (.cell (some p))}
theorem aA.loc(Q:bf X)(i:Nat){x:Str}{pos:Pos}(Y:X.vars[i]?=some x:=by rfl):aA T b X (.Name x pos) (ap i):=by
 refine⟨?_⟩;intro A R W σ s p v Z P S U V;cases S;exact Ju (lc Q Y U V)
theorem aA.cell(N:bf X)(j i:Nat){x:Str}{Z:Pos}(S:X.cv[j]?=some (x,i))(O:X.env.scope.names.lookup x=some .cell):aA T b X (.Name x Z) (dQ i):=by
 refine⟨?_⟩;intro A R W σ s p v U M Y P Q;refine cE Y fun V e Y=>?_
 cases Y;exact Ju (lE N S O P (xB e) Q)
noncomputable def cp:List PV->AS->Option AS
 |[],σ=>some σ
 |_,_=>none
noncomputable def aU(g:TR)(Y:List PV->AS->Option AS):List PV->AS->Option AS
 |p::Z,σ=>(g p σ).bind (Y Z)
 |[],_=>none
theorem br.nil:br T b X [] cp:=by
 refine⟨?_⟩;intro A R W σ s Z U V P Y Q S;cases Z with
 |nil=>
  obtain rfl:=bc Y;rw [show U=[]from S];exact Jg ⟨W,ci.refl ..,Q⟩
 |cons p Z=>exact aZ Y
theorem br.cons{t:Expr}{I:List Expr}{g:TR}{J:List PV->AS->Option AS}(h:aA T b X t g)(B:br T b X I J)
  (F:∀U Z,assignEach (t::Z) U=(false,assign t U)::assignEach Z U:=by intro _ _;rfl):br T b X (t::I) (aU g J):=by
 refine⟨?_⟩;intro A R W σ s N z Q H S E G;cases N with
 |nil=>exact aZ S
 |cons p N=>
  obtain⟨v,M,rfl,C,D⟩:=G;have S:(g p σ).bind (J N)=some Q:=S;refine cE S fun σ₁ e S=>?_
  rw [F];refine zU (fB (h.1 A R W σ s p v σ₁ H e E C) fun O P Y V=>?_);exact uo Y (B.1 A R O σ₁ P N M Q H S V (D.mono Y.ext))
noncomputable def dk(n:Nat)(Y:List PV->AS->Option AS):TR
 |.tup Z=>fun σ=>if Z.length=n then Y Z σ else none
 |_=>fun _=>none
theorem aA.tup{V:List Expr}{k:Nat}{P:Pos}{G:List PV->AS->Option AS}(h:br T b X V G)
  (B:∀Y,(assignEach V Y).length=V.length:=by intro _;rfl) (C:∀Y,(assignEach V Y).findIdx? (·.1)=none:=by intro _;rfl):aA T b X (.Tuple V k P) (dk V.length G):=by
 refine⟨?_⟩;intro A R W σ s p v Q H S J D;cases p with
 |tup M=>
  refine fO S fun Z S=>?_
  obtain⟨a,F,n,rfl,z,U⟩:=D;have I:M.length=F.size:=U.length;refine wpAny_assign_Tuple H.hnd ⟨_,J.r.hF _ _ z,rfl,n,rfl⟩ (by rw [B];exact bY (cq 0x80100022000020840000a22 rfl Z I) (cq 0x40200022000028840000822 rfl Z I)) (C _) fun N E=>?_
  have keep:∀b o,s.heap.get? b=some o->N.get? b=some o:=fun b o e=>E b o (fH (bN e)) e
  have O:bQ T X R W σ {s with heap:=N}:=J.ext keep rfl rfl;exact uo (s₁:={s with heap:=N}) (ci.keep keep) (h.1 A R W σ _ M _ Q H S O U)
 |_=>exact aZ S
noncomputable def bq(f:ER):SR:=eY f fun p σ=>some (.ret p,σ)
theorem ax.ret{e:Expr}{U:Pos}{f:ER}(h:aa T b X e f):ax T b X (.Return (some e) U) (bq f):=by
 refine⟨?_⟩;intro A R W σ s a P M S N;obtain⟨p,σ₁,Y,S⟩:=aX S;cases S;exact Ak (bt (h.1 A R W σ s p _ M Y N) (fun v Q ⟨V,g,O,Z⟩=>⟨V,g,⟨v,rfl,O⟩,Z⟩) ay)
noncomputable def ck(f:ER):SR:=eY f fun _ σ=>some (.next,σ)
theorem ax.expr{e:Expr}{Y:Pos}{f:ER}(h:aa T b X e f)(J:interactive X.env=false:=by rfl)(M:swapsWith e none (Pos.line Y) X.env=pure false:=by rfl):ax T b X (.Expr e Y) (ck f):=by
 refine⟨?_⟩;intro A R W σ s a P N S O;obtain⟨p,σ₁,V,S⟩:=aX S;cases S;exact ET (bt (h.1 A R W σ s p _ N V O) (fun v Q ⟨U,g,I,Z⟩=>⟨U,g,rfl,Z⟩) ay) J M
noncomputable def NY:SR:=fun σ=>some (.cont,σ)
theorem ax.cont{Z:Pos}:ax T b X (.Continue Z) NY:=by
 refine⟨?_⟩;intro A R W σ s a Y S U V;cases U;exact wpAny_Continue ⟨W,ci.refl ..,rfl,V⟩
noncomputable def am(f:ER)(g:TR):SR:=eY f fun p σ=>(g p σ).bind fun σ=>some (.next,σ)
theorem ax.assign{t Z:Expr}{S:Pos}{f:ER}{g:TR}(h:aa T b X Z f)(B:aA T b X t g)
  (x:swapsWithSole [t] Z (Pos.line S) X.env=pure false:=by left) (y:swappedStores [t] Z X.env=pure none:=by left)
  (z:(assignEach [t] X.env).map (·.2)=[assign t X.env]:=by rfl):ax T b X (.Assign [t] Z S) (am f g):=by
 refine⟨?_⟩;intro A R W σ s a E F Q C;obtain⟨p,σ₁,M,Q⟩:=aX Q;refine cE Q fun H N Q=>?_
 cases Q;refine wpAny_Assign_stores (aK (h.1 A R W σ s p σ₁ F M C) fun I v U O D V=>?_) x y;rw [z];exact bt (B.1 A R I σ₁ U p v _ F N V D) (fun _ G ⟨J,P,Y⟩=>⟨J,O.trans P,rfl,Y⟩) ay
noncomputable def dn(t:BR)(f g:SR):SR:=eY t fun c=>cond c f g
theorem ax.ite{t:Expr}{S Z:List Stmt}{M:Pos}{I:BR}{f g:SR}(H:bj T b X t I)(h:ah T b X S f)(F:ah T b X Z g):ax T b X (.If t S Z M) (dn I f g):=by
 refine⟨?_⟩;intro A R W σ s a P J N G;obtain⟨c,σ₁,O,N⟩:=aX N;refine wpAny_If (eA (H.1 A R W σ s _ σ₁ J O G) fun Q V U Y=>?_);cases c with
 |true=>exact ua U (h.1 A R Q σ₁ V a P J N Y)
 |false=>exact ua U (F.1 A R Q σ₁ V a P J N Y)
noncomputable def vD(t:BR):SR:=eY t fun c σ=>cond c (some (.next,σ)) none
theorem ax.assert{t:Expr}{Q:Pos}{O:BR}(M:bj T b X t O):ax T b X (.Assert t none Q) (vD O):=by
 refine⟨?_⟩;intro A R W σ s a N I S J;obtain⟨c,σ₁,V,S⟩:=aX S;cases c with
 |true=>cases S;exact wpAny_Assert_holds (eA (M.1 A R W σ s _ _ I V J) fun U P Y Z=>⟨rfl,U,Y,rfl,Z⟩)
 |false=>exact aZ S
noncomputable def aq:SR:=fun σ=>some (.next,σ)
noncomputable def GM(g:SR):AF->SR
 |.next=>g
 |a=>fun σ=>some (a,σ)
noncomputable def ar(f g:SR):SR:=eY f (GM g)
theorem ah.nil:ah T b X [] aq:=by
 refine⟨?_⟩;intro A R W σ s a Z U V Y;cases V;exact wpAny_execs_nil ⟨W,ci.refl ..,rfl,Y⟩
theorem ah.cons{st:Stmt}{P:List Stmt}{f g:SR}(h:ax T b X st f)(G:ah T b X P g):ah T b X (st::P) (ar f g):=by
 refine⟨?_⟩;intro A R W σ s a M J S H;obtain⟨N,σ₁,O,S⟩:=aX S;refine kM (dK (h.1 A R W σ s _ σ₁ J O H) fun V f Q Y U Z=>?_);cases N with
 |next=>rw [show f=.next from U];exact ua Y (G.1 A R V σ₁ Q a M J S Z)
 |brk=>cases S;rw [show f=.brk from U];exact⟨V,Y,rfl,Z⟩
 |cont=>cases S;rw [show f=.cont from U];exact⟨V,Y,rfl,Z⟩
 |ret p=>cases S;obtain⟨v,rfl,I⟩:=U;exact⟨V,Y,⟨v,rfl,I⟩,Z⟩
noncomputable def fA(f:ER)(e:ER)(g:PV->PV->ER)(t:TR):SR:=eY f fun p=>eY e fun q=>eY (g p q) fun r σ=>(t r σ).bind fun σ=>some (.next,σ)
theorem ax.augLoc(o:bf X)(i:Nat){x:Str}{j:Operator}{Y:Expr}{J z:Pos}{f:ER}{g:PV->PV->ER}(y:X.vars[i]?=some x)(h:aa T b X Y f)(hg:bC T b (inplaceOp j) g):
  ax T b X (.AugAssign (.Name x J) j Y z) (fA (ac i) f g (ap i)):=by
 refine⟨?_⟩;intro A R W σ s a z0 d U e;obtain⟨p,σ₁,V,U⟩:=aX U;obtain⟨q,Z,E,U⟩:=aX U;obtain⟨r,Q,F,U⟩:=aX U;refine cE U fun B G U=>?_
 cases U;cases G;obtain⟨p',el,V⟩:=tI.mp V;cases V;obtain⟨m,hm,hl⟩:=e.l.m;obtain⟨u,hu,t⟩:=hl i x _ y el;refine wpAny_AugAssign_Name (Ay o.kind (o.vars x (iB y)) hm hu ?_);refine aK (h.1 A R W _ s q Z d E e) fun C v M S hv N=>?_
 refine aK (hg X A R C Z M _ q u v r Q d F N (t.mono S.ext) hv) fun c w k H hw O=>?_
 exact bt (lc o y O hw) (fun _ n ⟨D,I,P⟩=>⟨D,(S.trans H).trans I,rfl,P⟩) ay
end
noncomputable def gp(t:BR)(f o:SR):Nat->SR
 |0=>fun _=>none
 |n+1=>fun σ=>match t σ with
  |some (true,σ₁)=>(match f σ₁ with
   |some (.next,Z)=>gp t f o n Z
   |some (.cont,Z)=>gp t f o n Z
   |some (.brk,Z)=>some (.next,Z)
   |some (.ret p,Z)=>some (.ret p,Z)
   |none=>none)
  |some (false,σ₁)=>o σ₁
  |none=>none
theorem tz(t f o):gp t f o 0=(fun _=>none):=rfl
theorem tD(t f o n):gp t f o (n+1)=(fun σ=>match t σ with
  |some (true,σ₁)=>(match f σ₁ with
   |some (.next,Z)=>gp t f o n Z
   |some (.cont,Z)=>gp t f o n Z
   |some (.brk,Z)=>some (.next,Z)
   |some (.ret p,Z)=>some (.ret p,Z)
   |none=>none)
  |some (false,σ₁)=>o σ₁
  |none=>none):=rfl
section
variable {T:Tp}{X:Cx}{R:Fz}{W:Wd}{σ:AS}{s:Shared}{b:Nat}{A:Around}
set_option tactic.hygienic true in
theorem ru{N:Expr}{P Z:List Stmt}{t:BR}{f o:SR}(k:bj T b X N t)(m:ah T b X P f)(g:ah T b X Z o)(y:fJ b A):∀(n:Nat) (W:Wd) (σ:AS) (s:Shared) (a:AF) (O:AS),
  gp t f o n σ=some (a,O)->bQ T X R W σ s->codeAny (model T.prog T.w) A (.whileLoop N P Z X.env) (fun r B=>∃S,r=.ok S/\fG T X R W s a O S B) s
 |0,_,_,_,_,_,h,_=>aZ h
 |n+1,W,σ,s,a,O,h,i=>by
  have hu:A.under (.whileLoop N P Z X.env)=A:=uS rfl;refine uM ?_
  rw [hu];show wpAny (model T.prog T.w) A ((whileTurn N P Z X.env).onRaise (fun x=>do noteFrame x X.env;theTreesLotGoes x)) _ _ s;refine vA (bt (Q:=fun fin B=>match fin with
   |.done S=>fG T X R W s a O S B
   |.again u=>u.quiet=true/\codeAny (model T.prog T.w) A u (fun r B=>∃S,r=.ok S/\fG T X R W s a O S B) B) (E:=bg) ?_ (fun fin B d=>?_) ay)
  .unfold whileTurn
   simp only [tz,tD]at h
   split at h
   .rename_i σ₁ z
    refine aM (eA (k.1 A R W σ s _ σ₁ y z i) fun C H D M=>?_);rw [aJ rfl];have again {l:AF} {Y:AS} (U:f σ₁=some (l,Y)) (j:l=.next\/l=.cont) (h:gp t f o n Y=some (a,O)):wpAny (model T.prog T.w) A (do
      match <-execs P X.env with
      |.next|.cont=>again (.whileLoop N P Z X.env)
      |.brk=>pure (.done .next)
      |.ret v=>pure (.done (.ret v))) (fun fin B=>match fin with
   |.done S=>fG T X R W s a O S B
   |.again u=>u.quiet=true/\codeAny (model T.prog T.w) A u (fun r B=>∃S,r=.ok S/\fG T X R W s a O S B) B) bg H:=by
     refine aM (dK (m.1 A R C σ₁ H l Y y U M) fun I S G J F V=>?_);have q:(Code.whileLoop N P Z X.env).quiet=true/\codeAny (model T.prog T.w) A (.whileLoop N P Z X.env) (fun r B=>∃S,r=.ok S/\fG T X R W s a O S B) G:=
      ⟨rfl,jP (ru k m g y n I Y G a O h V) fun r B ⟨S,e,hp⟩=>⟨S,e,hp.from (D.trans J)⟩⟩
     rcases j with rfl|rfl
     .rw [show S=.next from F];exact bI q
     .rw [show S=.cont from F];exact bI q
    split at h
    .rename_i Y U;exact again U (.inl rfl) h
    .rename_i Y U;exact again U (.inr rfl) h
    .rename_i Y U
     cases h;refine aM (dK (m.1 A R C σ₁ H _ _ y U M) fun I S G J F V=>?_);rw [show S=.brk from F];exact bI ⟨I,D.trans J,rfl,V⟩
    .rename_i p Y U
     cases h;refine aM (dK (m.1 A R C σ₁ H _ _ y U M) fun I S G J F V=>?_);obtain⟨v,rfl,c⟩:=F;exact bI ⟨I,D.trans J,⟨v,rfl,c⟩,V⟩
    .exact aZ h
   .rename_i σ₁ z
    refine aM (eA (k.1 A R W σ s _ σ₁ y z i) fun C H D M=>?_);rw [aO iA];exact aM (dK (g.1 A R C σ₁ H a O y h M) fun I S G J F V=>bI ⟨I,D.trans J,F,V⟩)
   .exact aZ h
  .cases fin with
   |done S=>exact⟨S,rfl,d⟩
   |again u=>exact d
theorem ax.while(n:Nat){Y:Expr}{V Z:List Stmt}{S:Pos}{t:BR}{f o:SR}(Q:bj T b X Y t)(M:ah T b X V f)(N:ah T b X Z o):ax T b X (.While Y V Z S) (gp t f o n):=by
 refine⟨?_⟩;intro A R W σ s a U J h P;exact wpAny_While (jP (ru Q M N J n W σ s a U h P) fun r I ⟨H,e,O⟩=>by subst e;exact O)
end
noncomputable def Fz.un(R z:Fz):Fz:=⟨fun a=>(z.h a).or (R.h a),fun g=>(z.g g).or (R.g g)⟩
noncomputable def iy(a:Addr)(o:Obj):Fz:=⟨fun b=>if b=a then some o else none,fun _=>none⟩
theorem aP{R z:Fz}{a:Addr}:(R.un z).h a=none↔z.h a=none/\R.h a=none:=by
 show(z.h a).or (R.h a)=none↔_;cases z.h a<;>simp
theorem bx{R z:Fz}{a:Addr}{o:Obj}:(R.un z).h a=some o↔z.h a=some o\/(z.h a=none/\R.h a=some o):=by
 show(z.h a).or (R.h a)=some o↔_;cases z.h a<;>simp
theorem cb{R z:Fz}{a:Nat}{o:GenState}:(R.un z).g a=some o↔z.g a=some o\/(z.g a=none/\R.g a=some o):=by
 show(z.g a).or (R.g a)=some o↔_;cases z.g a<;>simp
theorem cj{a b:Addr}{o Z:Obj}:(iy a o).h b=some Z↔b=a/\o=Z:=by
 show(if b=a then some o else none)=some Z↔_
 by_cases h:b=a<;>simp [h]
theorem dz{a b:Addr}{o:Obj}:(iy a o).h b=none↔b≠a:=by
 show(if b=a then some o else none)=none↔_
 by_cases h:b=a<;>simp [h]
structure dh(T:Tp)(X:Cx)(R:Fz)(W:Wd)(σ:AS)(s:Shared)(z:Fz):Prop where
 rel:bQ T X (R.un z) W σ s
 nF:∀x o,z.h x=some o->W.F x=none
 nR:∀x o,z.h x=some o->R.h x=none
 nG:∀x o,z.g x=some o->R.g x=none
noncomputable def du(z:Fz)(h:Heap):Prop:=∀a o,z.h a=some o->h.get? a=none
section
variable {T:Tp}{X:Cx}{R:Fz}{W:Wd}{σ:AS}{s:Shared}{b:Nat}{A:Around}
theorem bQ.weaken{z:Fz}(h:bQ T X (R.un z) W σ s)(S:FH R.h s.heap)(O:∀g x,R.g g=some x->s.gens[g]?=some x):bQ T X R W σ s:=by
 refine⟨⟨h.r.top,h.r.hF,S,O,h.r.trk,fun i U=>?_,h.r.inj,fun P Q=>?_,h.r.bare,h.r.os,h.r.sysm⟩,⟨h.l.m,h.l.nF,(aP.mp h.l.nR).2,h.l.t,h.l.ρ,h.l.cv⟩,h.nx⟩
 .obtain⟨V,Y,Z,N⟩:=h.r.fre i U
  exact⟨V,(aP.mp Y).2,Z,N⟩
 .obtain⟨V,Y,Z⟩:=h.r.tabs P Q
  exact⟨V,(aP.mp Y).2,Z⟩
theorem dh.out{z:Fz}(h:dh T X R W σ s z):bQ T X R W σ s:=
 h.rel.weaken (fun a o e=>h.rel.r.hR a o (bx.mpr (by
  cases q:z.h a with
  |none=>exact .inr ⟨rfl,e⟩
  |some Z=>have:=h.nR a Z q;rw [e]at this;exact kR this))) (fun g x e=>h.rel.r.hG g x (cb.mpr (by
  cases q:z.g g with
  |none=>exact .inr ⟨rfl,e⟩
  |some Z=>have:=h.nG g Z q;rw [e]at this;exact kR this)))
theorem dh.go{z:Fz}(h:dh T X R W σ s z){V:Wd}{Z:AS}{U:Shared}(g:ci W s.heap V U.heap)(Q:bQ T X (R.un z) V Z U):dh T X R V Z U z:=
 {rel:=Q
  nF:=fun x o e=>by
   cases q:V.F x with
   |none=>rfl
   |some S=>
    rcases g.fr x S q with Y|Y
    .rw [h.nF x o e]at Y;exact aZ Y
    .have:=h.rel.r.hR x o (bx.mpr (.inl e))
     rw [Y]at this
     exact aZ this
  nR:=h.nR
  nG:=h.nG}
inductive IK where
 |lst (i j:Nat)
 |rng (x:Int) (n:Nat)
 |tup (ps:List PV)
 |sgn (cs:List Nat)
 |rev (i j:Nat)
 |its (ps:List PV)
noncomputable def jU(σ:AS):IK->Option (Option (PV×IK))
 |.lst i j=>(cN (σ.st.lookup i)).bind fun Z=>some ((Z[j]?).map fun p=>(p,.lst i (j+1)))
 |.rng x 0=>some none
 |.rng x (n+1)=>some (some (.int x,.rng (x+1) n))
 |.tup []=>some none
 |.tup (p::Z)=>some (some (p,.tup Z))
 |.sgn []=>some none
 |.sgn (c::Y)=>some (some (.str ⟨#[c]⟩,.sgn Y))
 |.rev i 0=>some none
 |.rev i (j+1)=>(cN (σ.st.lookup i)).bind fun Z=>(Z[j]?).map fun p=>some (p,.rev i j)
 |.its []=>some none
 |.its (p::Z)=>some (some (p,.its Z))
inductive QP(T:Tp)(X:Cx)(R:Fz)(J:Wd->IK->Fz->Prop)(W:Wd)(s:Shared)(z:Fz)(σ:AS)(p:PV)(k':IK)(x:Option Value)(s':Shared):Prop
 |mk(v:Value)(W':Wd)(z':Fz)(e:x=some v)(hv:bn W' p v)(hj:J W' k' z')(hl:dh T X R W' σ s' z')(hg:∀W₀ h₀,du z h₀->ci W₀ h₀ W s.heap->du z' h₀/\ci W₀ h₀ W' s'.heap)
inductive RM(T:Tp)(X:Cx)(R:Fz)(W:Wd)(s:Shared)(z:Fz)(σ:AS)(x:Option Value)(s':Shared):Prop
 |mk(W':Wd)(e:x=none)(hr:bQ T X R W' σ s')(hg:∀W₀ h₀,du z h₀->ci W₀ h₀ W s.heap->ci W₀ h₀ W' s'.heap)
structure ll(T:Tp)(b:Nat)(X:Cx)(A:Around)(it:Value)(J:Wd->IK->Fz->Prop):Prop where
 mono:∀W W' k z,HK W W'->J W k z->J W' k z
 step:∀R W σ s k z p k',fJ b A->J W k z->dh T X R W σ s z->jU σ k=some (some (p,k'))->
  wpAny (model T.prog T.w) A (pyNext it) (QP T X R J W s z σ p k') bg s
 done:∀R W σ s k z,fJ b A->J W k z->dh T X R W σ s z->jU σ k=some none->
  wpAny (model T.prog T.w) A (pyNext it) (RM T X R W s z σ) bg s
 own:∀R W σ s k z target v Q E,J W k z->dh T X R W σ s z->Q () s->wpAny (model T.prog T.w) A (letOwnedTupleGo target it v) Q E s
 self:∀R W σ s k z Q E,J W k z->dh T X R W σ s z->Q it s->wpAny (model T.prog T.w) A (pyIter it) Q E s
noncomputable def gU(Y:TR)(f o:SR):Nat->IK->SR
 |0,_=>fun _=>none
 |n+1,k=>fun σ=>match jU σ k with
  |some (some (p,V))=>(match Y p σ with
   |some σ₁=>(match f σ₁ with
    |some (.next,Z)=>gU Y f o n V Z
    |some (.cont,Z)=>gU Y f o n V Z
    |some (.brk,Z)=>some (.next,Z)
    |some (.ret q,Z)=>some (.ret q,Z)
    |none=>none)
   |none=>none)
  |some none=>o σ
  |none=>none
theorem LU(tg f o w1_):gU tg f o 0 w1_=(fun _=>none):=rfl
theorem MT(Y f o n k):gU Y f o (n+1) k=(fun σ=>match jU σ k with
  |some (some (p,V))=>(match Y p σ with
   |some σ₁=>(match f σ₁ with
    |some (.next,Z)=>gU Y f o n V Z
    |some (.cont,Z)=>gU Y f o n V Z
    |some (.brk,Z)=>some (.next,Z)
    |some (.ret q,Z)=>some (.ret q,Z)
    |none=>none)
   |none=>none)
  |some none=>o σ
  |none=>none):=rfl
set_option tactic.hygienic true in
theorem yu{it:Value}{J:Wd->IK->Fz->Prop}(P:ll T b X A it J){Z:Expr}{I Y:List Stmt}{tg:TR}{f o:SR}(ht:aA T b X Z tg)(hf:ah T b X I f)(ho:ah T b X Y o)(hA:fJ b A)
  {N:Wd} {U:Heap}:∀(n:Nat) (k:IK) (z:Fz) (W:Wd) (σ:AS) (s:Shared) (a:AF) (G:AS),
  gU tg f o n k σ=some (a,G)->J W k z->dh T X R W σ s z->du z U->ci N U W s.heap->
  codeAny (model T.prog T.w) A (.forLoop Z it I Y X.env) (fun r t=>∃H,r=.ok H/\∃B,ci N U B t.heap/\vQ B a H/\bQ T X R B G t) s
 |0,_,_,_,_,_,_,_,h,_,_,_,_=>aZ h
 |n+1,k,z,W,σ,s,a,G,h,hj,hl,hd,hg=>by
  have hu:A.under (.forLoop Z it I Y X.env)=A:=uS rfl;refine uM ?_
  rw [hu];show wpAny (model T.prog T.w) A ((forTurn Z it I Y X.env).onRaise (fun x=>do noteFrame x X.env;theTreesLotGoes x)) _ _ s;refine vA (bt (Q:=fun fin t=>match fin with
   |.done H=>∃B,ci N U B t.heap/\vQ B a H/\bQ T X R B G t
   |.again c'=>c'.quiet=true/\codeAny (model T.prog T.w) A c' (fun r t=>∃H,r=.ok H/\∃B,ci N U B t.heap/\vQ B a H/\bQ T X R B G t) t) (E:=bg) ?_ (fun fin t h'=>?_) ay)
  .unfold forTurn
   refine aM (ic ?_);simp only [LU,MT]at h
   split at h
   .rename_i p k' z2
    refine aM (uA (bt (P.step R W σ s k z p k' hA hj hl z2) (fun x c hx=>?_) ay));obtain⟨v,z0,y,rfl,hv,z1,e,z4⟩:=hx;obtain⟨z5,D⟩:=z4 N U hd hg
    split at h
    .rename_i σ₁ z7
     refine aM (P.own R z0 σ c k' y Z v _ _ z1 e ?_);refine aM (fB (ht.1 A (R.un y) z0 σ c p v σ₁ hA z7 e.rel hv) fun i m C M=>?_);have g:=e.go C M;have again {af:AF} {V:AS} (O:f σ₁=some (af,V)) (z8:af=.next\/af=.cont) (h:gU tg f o n k' V=some (a,G)):wpAny (model T.prog T.w) A (do
      match <-execs I X.env with
      |.next|.cont=>again (.forLoop Z it I Y X.env)
      |.brk=>pure (.done .next)
      |.ret v=>pure (.done (.ret v))) (fun fin t=>match fin with
   |.done H=>∃B,ci N U B t.heap/\vQ B a H/\bQ T X R B G t
   |.again c'=>c'.quiet=true/\codeAny (model T.prog T.w) A c' (fun r t=>∃H,r=.ok H/\∃B,ci N U B t.heap/\vQ B a H/\bQ T X R B G t) t) bg m:=by
      refine aM (dK (hf.1 A (R.un y) i σ₁ m af V hA O M) fun j H d S l F=>?_);have z6:(Code.forLoop Z it I Y X.env).quiet=true/\codeAny (model T.prog T.w) A (.forLoop Z it I Y X.env) (fun r t=>∃H,r=.ok H/\∃B,ci N U B t.heap/\vQ B a H/\bQ T X R B G t) d:=
       ⟨rfl,yu P ht hf ho hA n k' y j V d a G h (P.mono _ _ _ _ (C.trans S).ext z1) (g.go S F) z5 ((D.trans C).trans S)⟩
      rcases z8 with rfl|rfl
      .rw [show H=.next from l];exact bI z6
      .rw [show H=.cont from l];exact bI z6
     split at h
     .rename_i V O;exact again O (.inl rfl) h
     .rename_i V O;exact again O (.inr rfl) h
     .rename_i V O
      cases h;refine aM (dK (hf.1 A (R.un y) i σ₁ m _ _ hA O M) fun j H d S l F=>?_);rw [show H=.brk from l];exact bI ⟨j,(D.trans C).trans S,rfl,(g.go S F).out⟩
     .rename_i q V O
      cases h;refine aM (dK (hf.1 A (R.un y) i σ₁ m _ _ hA O M) fun j H d S l F=>?_);obtain⟨u,rfl,hu⟩:=l;exact bI ⟨j,(D.trans C).trans S,⟨u,rfl,hu⟩,(g.go S F).out⟩
     .exact aZ h
    .exact aZ h
   .rename_i z2
    refine aM (uA (bt (P.done R W σ s k z hA hj hl z2) (fun x c hx=>?_) ay));obtain⟨z0,rfl,z3,z4⟩:=hx;have D:=z4 N U hd hg;exact bI ⟨rfl,codeAny_block (bt (ho.1 A R z0 σ c a G hA h z3) (fun H m ⟨i,C,l,M⟩=>⟨H,rfl,i,D.trans C,l,M⟩) ay)⟩
   .exact aZ h
  .cases fin with
   |done H=>exact⟨H,rfl,h'⟩
   |again c'=>exact h'
inductive kh(T:Tp)(b:Nat)(X:Cx)(A:Around)(R:Fz)(W:Wd)(s:Shared)(k:IK)(σ':AS)(it:Value)(s':Shared):Prop
 |mk(J:Wd->IK->Fz->Prop)(W':Wd)(z:Fz)(hP:∀X,ll T b X A it J)(hj:J W' k z)(hl:dh T X R W' σ' s' z)(hd:du z s.heap)(hg:ci W s.heap W' s'.heap)
structure bR(T:Tp)(b:Nat)(X:Cx)(iter:Expr)(src:AS->Option (IK×AS)):Prop where
 go:
  ∀A R W σ s k σ',fJ b A->src σ=some (k,σ')->bQ T X R W σ s->wpAny (model T.prog T.w) A (eval iter X.env) (fun x s₁=>wpAny (model T.prog T.w) A (pyIter x) (kh T b X A R W s k σ') bg s₁) bg s
noncomputable def er(n:Nat)(Z:AS->Option (IK×AS))(Y:TR)(f o:SR):SR:=fun σ=>match Z σ with|some (k,σ₁)=>gU Y f o n k σ₁|none=>none
set_option tactic.hygienic true in
theorem ax.for(n:Nat){Z iter:Expr}{V Y:List Stmt}{N:Pos}{S:AS->Option (IK×AS)}{H:TR}{f o:SR}(C:bR T b X iter S)(D:aA T b X Z H)(q:ah T b X V f)(w:ah T b X Y o)
  (m:∀x,foldedSetIterable iter X.env x=pure x:=by intro _;rfl):ax T b X (.For Z iter V Y N) (er n S H f o):=by
 refine⟨?_⟩;intro A R W σ s a O F h B;unfold er at h
 split at h
 .rename_i k σ₁ e
  refine wpAny_For (bt (C.1 A R W σ s k σ₁ F e B) (fun x G E=>bt E (fun g U y=>?_) ay) ay) m;obtain⟨J,Q,z,P,u,v,p,t⟩:=y;exact jP (yu (P X) D q w F n k z Q σ₁ U a O h u v p t) fun r i ⟨d,e,j,l,I,M⟩=>by subst e;exact⟨j,l,I,M⟩
 .exact aZ h
end
section
variable {T:Tp}{X:Cx}{R:Fz}{W:Wd}{σ:AS}{s:Shared}{b:Nat}{A:Around}
theorem dh.fin{a:Addr}{o:Obj}(h:dh T X R W σ s (iy a o)){C:Heap}(N:Heap.ExtBut a s.heap C)(k:Nat):
  bQ T X R W σ {s with heap:=C,toks:=k}/\∀Q V,du (iy a o) V->ci Q V W s.heap->ci Q V W C:=by
 have G:(iy a o).h a=some o:=cj.mpr ⟨rfl,rfl⟩;have E:=h.nF a o G;have u:=h.nR a o G;have Y:=h.rel;have S {F:Addr->Option Obj} (E:F a=none):∀b o,F b=some o->b≠a:=fun b o e q=>by rw [q,E]at e;exact aZ e
 have Z:∀b,(R.un (iy a o)).h b=none->b≠a:=fun b e=>dz.mp (aP.mp e).1
 refine⟨⟨⟨Y.r.top,fun b U e=>N b U (S E b U e) (Y.r.hF b U e),fun b U e=>N b U (S u b U e) (h.out.r.hR b U e),h.out.r.hG,fun i j e=>?_,fun i x=>?_,Y.r.inj,fun P p=>?_,Y.r.bare,Y.r.os,Y.r.sysm⟩,?_,Y.nx⟩,fun Q V w g=>⟨g.F,g.fr,g.n,g.ρ,fun b U e=>?_⟩⟩
 .obtain⟨J,U,M,I⟩:=Y.r.trk i j e
  exact⟨J,U,N _ _ (Z _ (Y.r.fre i J).2.1) M,I⟩
 .obtain⟨J,M,I,U,D⟩:=Y.r.fre i x
  exact⟨J,(aP.mp M).2,I,U,N _ _ (Z _ M) D⟩
 .obtain⟨J,M,B,I,D⟩:=Y.r.tabs P p
  exact⟨J,(aP.mp M).2,B,N _ _ (Z _ M) I,D⟩
 .obtain⟨m,z,y⟩:=Y.l.m
  exact⟨⟨m,z.extBut N (Z _ Y.l.nR),y⟩,Y.l.nF,(aP.mp Y.l.nR).2,Y.l.t,Y.l.ρ,Y.l.cv⟩
 .obtain⟨O,H⟩:=g.th b U e
  have v:b≠a:=fun q=>by have:=w a o G;rw [<-q,e]at this;exact kR this
  exact⟨O,N b O v H⟩
theorem dh.upd{a:Addr}{o N:Obj}(h:dh T X R W σ s (iy a o)){M:Heap}(D:Heap.SameBut a s.heap M)(C:M.get? a=some N)(k:Nat):
  dh T X R W σ {s with heap:=M,toks:=k} (iy a N)/\∀S Z,du (iy a o) Z->ci S Z W s.heap->du (iy a N) Z/\ci S Z W M:=by
 have I:(iy a o).h a=some o:=cj.mpr ⟨rfl,rfl⟩;obtain⟨Y,B⟩:=h.fin D.extBut k;have U:∀b,(R.un (iy a o)).h b=none->b≠a:=fun b e=>dz.mp (aP.mp e).1
 have J:∀b,R.h b=none->b≠a->(R.un (iy a N)).h b=none:=fun b O Q=>aP.mpr ⟨dz.mpr Q,O⟩
 refine⟨⟨⟨⟨Y.r.top,Y.r.hF,fun b V e=>?_,fun g x e=>Y.r.hG g x ?_,Y.r.trk,fun i G=>?_,Y.r.inj,fun P E=>?_,Y.r.bare,Y.r.os,Y.r.sysm⟩,⟨Y.l.m,Y.l.nF,J _ Y.l.nR (U _ h.rel.l.nR),Y.l.t,Y.l.ρ,Y.l.cv⟩,Y.nx⟩,fun x V e=>?_,fun x V e=>?_,fun x V e=>by exact aZ e⟩,fun S Z F g=>⟨fun b V e=>?_,B S Z F g⟩⟩
 .rcases bx.mp e with e|⟨_,e⟩
  .obtain⟨rfl,rfl⟩:=cj.mp e;exact C
  .exact Y.r.hR b V e
 .rcases cb.mp e with e|⟨_,e⟩
  .exact aZ e
  .exact e
 .obtain⟨O,Q,H,z⟩:=Y.r.fre i G
  exact⟨O,J _ Q (U _ (h.rel.r.fre i G).2.1),H,z⟩
 .obtain⟨O,Q,H⟩:=Y.r.tabs P E
  exact⟨O,J _ Q (U _ (h.rel.r.tabs P E).2.1),H⟩
 .obtain⟨rfl,_⟩:=cj.mp e;exact h.nF _ _ I
 .obtain⟨rfl,_⟩:=cj.mp e;exact h.nR _ _ I
 .obtain⟨rfl,_⟩:=cj.mp e;exact F _ _ I
theorem dh.new(U:bQ T X R W σ s){o:Obj}(E:o.isFreed=false)(k:Nat):
  dh T X R W σ {s with heap:=s.heap.push o,toks:=k} (iy s.heap.objs.size o)/\du (iy s.heap.objs.size o) s.heap/\ci W s.heap W (s.heap.push o):=by
 have Y:=U.push o k;have V:s.heap.get? s.heap.objs.size=none:=by
  cases q:s.heap.get? s.heap.objs.size with
  |none=>rfl
  |some Z=>exact absurd (bN q) (dW _)
 have C:W.F s.heap.objs.size=none:=bb U.r.hF (bU _);have D:R.h s.heap.objs.size=none:=bb U.r.hR (bU _);have O:∀b,R.h b=none->b≠s.heap.objs.size->(R.un (iy s.heap.objs.size o)).h b=none:=fun b Q S=>aP.mpr ⟨dz.mpr S,Q⟩
 refine⟨⟨⟨⟨Y.r.top,Y.r.hF,fun b Z e=>?_,fun g x e=>Y.r.hG g x ?_,Y.r.trk,fun i I=>?_,Y.r.inj,fun P H=>?_,Y.r.bare,Y.r.os,Y.r.sysm⟩,⟨Y.l.m,Y.l.nF,O _ Y.l.nR ?_,Y.l.t,Y.l.ρ,Y.l.cv⟩,Y.nx⟩,fun x Z e=>?_,fun x Z e=>?_,fun x Z e=>by exact aZ e⟩,fun b Z e=>?_,ci.push ..⟩
 .rcases bx.mp e with e|⟨_,e⟩
  .obtain⟨rfl,rfl⟩:=cj.mp e;exact im _ E
  .exact Y.r.hR b Z e
 .rcases cb.mp e with e|⟨_,e⟩
  .exact aZ e
  .exact e
 .obtain⟨Q,S,M,B⟩:=Y.r.fre i I
  obtain⟨_,_,_,J,N⟩:=U.r.fre i I;exact⟨Q,O _ S (fH (bN N)),M,B⟩
 .obtain⟨Q,S,M⟩:=Y.r.tabs P H
  obtain⟨_,_,z,N,_⟩:=U.r.tabs P H;exact⟨Q,O _ S (fH (bN N)),M⟩
 .obtain⟨m,G,_⟩:=U.l.m
  exact fH G.lt
 .obtain⟨rfl,_⟩:=cj.mp e;exact C
 .obtain⟨rfl,_⟩:=cj.mp e;exact D
 .obtain⟨rfl,_⟩:=cj.mp e;exact V
theorem dh.here{a:Addr}{o:Obj}(h:dh T X R W σ s (iy a o)):s.heap.get? a=some o:=h.rel.r.hR a o (bx.mpr (.inl (cj.mpr ⟨rfl,rfl⟩)))
theorem gI{a:Addr}{n:String}{Y:Array Value}{o:Obj}{Q:Unit->Shared->Prop}{E:Value->Shared->Prop}{Z:Expr}{v:Value}(V:s.heap.get? a=some o)(P:o.cls=.type n)(S:o.data=.fields Y)
  (U:["enumerate","zip","dict_itemiterator","dict_reverseitemiterator","odict_iterator","itertools.zip_longest","itertools.pairwise"].contains n=false) (h:Q () s):wpAny (model T.prog T.w) A (letOwnedTupleGo Z (.ref a) v) Q E s:=by
 have go:wpAny (model T.prog T.w) A (letOwnedTupleGo (.Tuple [] 0 default) (.ref a) v) Q E s:=by
  cases v<;>(try exact bI h)
  unfold letOwnedTupleGo;dsimp only;refine aM (wpAny_load V ?_);rw [P,S];dsimp only;rw [U,Bool.false_and,aO iA];exact bI h
 cases Z<;>first|exact bI h|exact go
noncomputable def QL(n:String)(Z:Array Value)(o:Obj):Prop:=o.cls=.type n/\o.data=.fields Z
inductive Um(a:Addr)(W:Wd)(k:IK)(z:Fz):Prop
 |mk(i j:Nat)(ek:k=.lst i j)(hi:i<W.n)(o:Obj)(ez:z=iy a o)(hio:QL "list_iterator" #[.ref (W.ρ i),.int j 0] o)
theorem kz{a l:Addr}{j:Nat}{o:Obj}{h:Heap}(Y:h.get? a=some o)(Z:QL "list_iterator" #[.ref l,.int j 0] o):h.IsListIter a l j:=⟨o,Y,Z.1,Z.2⟩
set_option tactic.hygienic true in
theorem Eh(a:Addr):ll T b X A (.ref a) (Um a) where
 mono:=fun W W' k z g h=>by
  obtain⟨i,j,d,O,o,e,Z⟩:=h;exact⟨i,j,d,eB O g.n,o,e,by rw [g.ρ _ O];exact Z⟩
 step:=fun R W σ s k z p k' t P Y V=>by
  obtain⟨i,j,rfl,O,o,rfl,Z⟩:=P;refine cE (show(cN (σ.st.lookup i)).bind _=_ from V) fun u e V=>?_
  obtain⟨c,y,V⟩:=iO.mp (bc V);cases V;obtain⟨_,q,S,w,n,rfl,U⟩:=Y.rel.r.trk i _ (dE e);obtain⟨x,l,J⟩:=U.get y;refine wpAny_pyNext_list_item (kz Y.here Z) ⟨_,S,rfl,n,rfl⟩ (x:=x) (by simpa using l) fun f G I=>?_
  obtain⟨m,H,D,F⟩:=G;obtain⟨B,C⟩:=Y.upd I H s.toks;exact⟨x,W,_,rfl,J,⟨i,j+1,rfl,O,m,rfl,D,F⟩,B,C⟩
 done:=fun R W σ s k z t P Y V=>by
  obtain⟨i,j,rfl,O,o,rfl,Z⟩:=P;refine cE (show(cN (σ.st.lookup i)).bind _=_ from V) fun u e V=>?_
  have y:=Option.map_eq_none_iff.mp (bc V);obtain⟨_,q,S,w,n,rfl,U⟩:=Y.rel.r.trk i _ (dE e);have N:u.length=w.size:=U.length;refine wpAny_pyNext_list_end t.hnd (kz Y.here Z) ⟨_,S,rfl,n,rfl⟩ (by
   rw [zq];have:=Gm.mp y
   exact cq 0x80100022000000840000a22 rfl N this) fun f I=>?_
  obtain⟨B,C⟩:=Y.fin I s.toks;exact⟨W,rfl,B,C⟩
 own:=fun R W σ s k z M v Q E P Y h=>by
  obtain⟨i,j,rfl,O,o,rfl,Z⟩:=P;exact gI Y.here Z.1 Z.2 (by decide) h
 self:=fun R W σ s k z Q E P Y h=>by
  obtain⟨i,j,rfl,O,o,rfl,Z⟩:=P;exact wpAny_pyIter_listiter (kz Y.here Z) h
inductive Ub(a:Addr)(W:Wd)(k:IK)(z:Fz):Prop
 |mk(x:Int)(n:Nat)(ek:k=.rng x n)(ez:z=iy a {cls:=.type "range_iterator",dict:=none,data:=.fields #[rawInt x,rawInt n,rawInt 1],slots:=#[]})
set_option tactic.hygienic true in
theorem Ev(a:Addr):ll T b X A (.ref a) (Ub a) where
 mono:=fun W F k z g h=>by
  obtain⟨x,n,H,I⟩:=h;exact⟨x,n,H,I⟩
 step:=fun R W σ s k z p G M Y Z U=>by
  obtain⟨x,n,rfl,rfl⟩:=Y;cases n with
  |zero=>cases U
  |succ n=>
   cases U;refine wpAny_pyNext_range_item (x:=x) (left:=(n+1:Nat)) (step:=1) Z.here (by exact(aW 0x8400124014a420 rfl)) fun J P S=>?_
   obtain⟨N,O⟩:=Z.upd S P (s.toks+1);refine⟨_,W,_,rfl,ed _ _,⟨_,_,rfl,?_⟩,N,O⟩;show iy a _=iy a _;have:((n+1:Nat):Int)-1=n:=by exact cX (Mb) (LP)
   rw [this]
 done:=fun R W σ s k z M Y Z U=>by
  obtain⟨x,n,rfl,rfl⟩:=Y;cases n with
  |succ n=>cases U
  |zero=>
   refine wpAny_pyNext_range_end M.hnd (x:=x) (left:=(0:Nat)) (step:=1) Z.here (by exact(wN 0xa4014a020 rfl)) fun J S=>?_
   obtain⟨N,O⟩:=Z.fin S s.toks;exact⟨W,rfl,N,O⟩
 own:=fun R W σ s k z V v Q E Y Z h=>by
  obtain⟨x,n,rfl,rfl⟩:=Y;exact gI Z.here rfl rfl (by decide) h
 self:=fun R W σ s k z Q E Y Z h=>by
  obtain⟨x,n,rfl,rfl⟩:=Y;exact wpAny_pyIter_rangeiter (x:=x) (left:=n) (step:=1) Z.here h
inductive TA(a t:Addr)(W:Wd)(k:IK)(z:Fz):Prop
 |mk(ps:List PV)(ek:k=.tup ps)(o:Obj)(vs:Array Value)(n j:Nat)(ez:z=iy a o)(hi:QL "tuple_iterator" #[.ref t,.int (j:Nat) 0] o)(hF:W.F t=some {cls:=.type "tuple",data:=.seq vs n})(hv:aN W ps (vs.toList.drop j))
theorem lY{a l:Addr}{j:Nat}{o:Obj}{h:Heap}(Y:h.get? a=some o)(Z:QL "tuple_iterator" #[.ref l,.int j 0] o):h.IsTupleIter a l j:=⟨o,Y,Z.1,Z.2⟩
theorem fP{Z:Type}:∀{l:List Z} {j:Nat} {x:Z} {r:List Z},l.drop j=x::r->l[j]?=some x/\l.drop (j+1)=r
 |[],j,x,r,h=>by simp at h
 |y::l,0,x,r,h=>by cases h;exact⟨rfl,rfl⟩
 |y::l,j+1,x,r,h=>by
  have:=fP (l:=l) (j:=j) (by simpa using h)
  simpa using this
set_option tactic.hygienic true in
theorem DD(a t:Addr):ll T b X A (.ref a) (TA a t) where
 mono:=fun W W' k z g h=>by
  obtain⟨Y,d,o,S,n,j,e,V,U,P⟩:=h;exact⟨Y,d,o,S,n,j,e,V,g.F _ _ U,P.mono g⟩
 step:=fun R W σ s k z p c w O Z M=>by
  obtain⟨Y,rfl,o,S,n,j,rfl,V,U,P⟩:=O;cases Y with
  |nil=>cases M
  |cons q Y=>
   cases M;obtain⟨v,u,e,y,B⟩:=P;obtain⟨l,i⟩:=fP e;refine wpAny_pyNext_tuple_item (lY Z.here V) ⟨_,Z.rel.r.hF _ _ U,rfl,n,rfl⟩ (x:=v) (by simpa using l) fun f G I=>?_
   obtain⟨m,H,C,D⟩:=G;obtain⟨g1,g2⟩:=Z.upd I H s.toks;exact⟨v,W,_,rfl,y,⟨Y,rfl,m,S,n,j+1,rfl,⟨C,D⟩,U,by rw [i];exact B⟩,g1,g2⟩
 done:=fun R W σ s k z w O Z M=>by
  obtain⟨Y,rfl,o,S,n,j,rfl,V,U,P⟩:=O;cases Y with
  |cons q Y=>cases M
  |nil=>
   have J:S.toList.drop j=[]:=P;refine wpAny_pyNext_tuple_end w.hnd (lY Z.here V) ⟨_,Z.rel.r.hF _ _ U,rfl,n,rfl⟩ (by
    have:=zA.mp J;rw [zq]
    simpa using this) fun f I=>?_
   obtain⟨y,B⟩:=Z.fin I s.toks;exact⟨W,rfl,y,B⟩
 own:=fun R W σ s k z N v Q E O Z h=>by
  obtain⟨Y,rfl,o,S,n,j,rfl,V,U,P⟩:=O;exact gI Z.here V.1 V.2 (by decide) h
 self:=fun R W σ s k z Q E O Z h=>by
  obtain⟨Y,rfl,o,S,n,j,rfl,V,U,P⟩:=O;exact wpAny_pyIter_tupleiter (lY Z.here V) h
inductive Uj(a:Addr)(x:Str)(t:Tok)(W:Wd)(k:IK)(z:Fz):Prop
 |mk(cs:List Nat)(ek:k=.sgn cs)(o:Obj)(j:Nat)(ez:z=iy a o)(hi:QL "str_ascii_iterator" #[.str x t,.int (j:Nat) 0] o)(hv:x.cps.toList.drop j=cs)
set_option tactic.hygienic true in
theorem DW(a:Addr)(x:Str)(t:Tok):ll T b X A (.ref a) (Uj a x t) where
 mono:=fun W l k z g h=>by
  obtain⟨V,r,o,j,u,Z,U⟩:=h;exact⟨V,r,o,j,u,Z,U⟩
 step:=fun R W σ s k z p m G S Y O=>by
  obtain⟨V,rfl,o,j,rfl,Z,U⟩:=S;cases V with
  |nil=>cases O
  |cons c V=>
   cases O;obtain⟨D,C⟩:=fP U;refine wpAny_pyNext_ascii_item (i:=j) ⟨o,Y.here,Z.1,Z.2⟩ (c:=c) (by simpa using D) fun w J N=>?_
   obtain⟨F,M,H,I⟩:=J;obtain⟨g1,g2⟩:=Y.upd N M (s.toks+1);exact⟨_,W,_,rfl,nc _ _,⟨V,rfl,F,j+1,rfl,⟨H,I⟩,C⟩,g1,g2⟩
 done:=fun R W σ s k z G S Y O=>by
  obtain⟨V,rfl,o,j,rfl,Z,U⟩:=S;cases V with
  |cons q n=>cases O
  |nil=>
   refine wpAny_pyNext_ascii_end (i:=j) G.hnd ⟨o,Y.here,Z.1,Z.2⟩ (by
    have:=zA.mp U;rw [zq]
    simpa using this) fun w N=>?_
   obtain⟨y,B⟩:=Y.fin N s.toks;exact⟨W,rfl,y,B⟩
 own:=fun R W σ s k z P v Q E S Y h=>by
  obtain⟨V,rfl,o,j,rfl,Z,U⟩:=S;exact gI Y.here Z.1 Z.2 (by decide) h
 self:=fun R W σ s k z Q E S Y h=>by
  obtain⟨V,rfl,o,j,rfl,Z,U⟩:=S;exact wpAny_pyIter_striter_ascii (i:=j) ⟨o,Y.here,Z.1,Z.2⟩ h
noncomputable def tm(p:PV)(σ:AS):Option IK:=match p with
 |.loc i=>(cN (σ.st.lookup i)).bind fun _=>some (.lst i 0)
 |.tup Z=>some (.tup Z)
 |.str x=>if x.cps.all (fun c=>decide (c<128))then some (.sgn x.cps.toList)else none
 |.rng u v=>if -(2^62)<=u/\u<2^62/\-(2^62)<=v/\v<2^62 then some (.rng u (v-u).toNat)else none
 |_=>none
noncomputable def cy(f:ER):AS->Option (IK×AS):=eY f fun p σ=>(tm p σ).bind fun k=>some (k,σ)
theorem EP{u v:Int}(h:-(2^62)<=u/\u<2^62/\-(2^62)<=v/\v<2^62):Builtin.Range.small u v 1=true/\Builtin.Range.rangeSize u v 1=((v-u).toNat:Nat):=by
 have e:Builtin.Range.rangeSize u v 1=((v-u).toNat:Nat):=by
  unfold Builtin.Range.rangeSize;simp only [show(1:Int)>0 from by decide,hO,Int.ediv_one]
  split<;>omega
 refine⟨?_,e⟩;unfold Builtin.Range.small;rw [e];unfold Builtin.Range.rangeFitsLong;simp only [dw,Ap,je,gL];refine⟨⟨⟨⟨⟨?_,?_⟩,?_,?_⟩,?_,?_⟩,?_,?_⟩,.inr ?_⟩<;>(try (split<;>simp))<;>omega
theorem kh.new{N:Around}{J:Wd->IK->Fz->Prop}{k:IK}{Y:Wd}{σ₁:AS}{Z:Shared}{o:Obj}{O:Nat}(V:ci W s.heap Y Z.heap)(S:bQ T X R Y σ₁ Z)(I:o.isFreed=false)(H:∀X,ll T b X N (.ref Z.heap.objs.size) J)(M:J Y k (iy Z.heap.objs.size o)):kh T b X N R W s k σ₁ (.ref Z.heap.objs.size) {Z with heap:=Z.heap.push o,toks:=O}:=by
 obtain⟨E,F,G⟩:=dh.new S I O;refine⟨_,Y,_,H,M,E,fun a o e=>?_,V.trans G⟩;cases q:s.heap.get? a with
 |none=>rfl
 |some Q=>obtain⟨P,U⟩:=V.th a Q q;rw [F a o e]at U;exact aZ U
theorem bR.val{iter:Expr}{f:ER}(h:aa T b X iter f):bR T b X iter (cy f):=by
 refine⟨?_⟩;intro A R W σ s k M z Q D;obtain⟨p,σ₁,e,Q⟩:=aX Q;refine cE Q fun l U Q=>?_
 cases Q;refine aK (h.1 A R W σ s p _ z e D) fun P u Y V O Z=>?_
 cases p with
 |loc i=>
  refine cE (show(cN (M.st.lookup i)).bind _=_ from U) fun F y U=>?_
  cases U;obtain⟨C,rfl⟩:=O;obtain⟨_,m,H,G,n,rfl,S⟩:=Z.r.trk i _ (dE y);exact wpAny_pyIter_list ⟨_,H,rfl,n,rfl⟩ (kh.new (o:={cls:=.type "list_iterator",data:=.fields #[.ref (P.ρ i),.int 0 0]}) V Z rfl (fun X=>Eh Y.heap.objs.size) ⟨i,0,rfl,C,_,rfl,rfl,rfl⟩)
 |tup F=>
  cases U;obtain⟨t,G,n,rfl,N,S⟩:=O;exact wpAny_pyIter_tuple ⟨_,Z.r.hF _ _ N,rfl,n,rfl⟩ (kh.new (o:={cls:=.type "tuple_iterator",data:=.fields #[.ref t,.int 0 0]}) V Z rfl (fun X=>DD Y.heap.objs.size t) ⟨F,rfl,_,G,n,0,rfl,⟨rfl,rfl⟩,N,S⟩)
 |str x=>
  refine fO U fun E U=>?_
  cases U;obtain⟨t,rfl⟩:=O;exact wpAny_pyIter_ascii E (kh.new (o:={cls:=.type "str_ascii_iterator",data:=.fields #[.str x t,.int 0 0]}) V Z rfl (fun X=>DW Y.heap.objs.size x t) ⟨_,rfl,_,0,rfl,⟨rfl,rfl⟩,rfl⟩)
 |rng u v=>
  refine fO U fun B U=>?_
  cases U;obtain⟨r,t,q,w,rfl,N⟩:=O;obtain⟨I,J⟩:=EP B;refine wpAny_pyIter_range (Z.r.hF _ _ N) I ?_
  rw [J];exact kh.new (o:={cls:=.type "range_iterator",data:=.fields #[rawInt u,rawInt ((v-u).toNat:Nat),rawInt 1]}) V Z rfl (fun X=>Ev Y.heap.objs.size) ⟨_,_,rfl,rfl⟩
 |_=>exact aZ U
end
mutual
noncomputable def eZ:PV->List Nat
 |.loc i=>[i]
 |.hdr _ l=>[l]
 |.tup Z=>bA Z
 |.clo _ _ _ _ _ Y=>Y.map (·.2)
 |_=>[]
noncomputable def bA:List PV->List Nat
 |[]=>[]
 |p::Z=>eZ p++bA Z
end
theorem yv(i):eZ (.loc i)=([i]):=rfl
theorem vK(w1_ l):eZ (.hdr w1_ l)=([l]):=rfl
theorem xq(ps):eZ (.tup ps)=(bA ps):=rfl
theorem wS(w1_ w2_ w3_ w4_ w5_ cs):eZ (.clo w1_ w2_ w3_ w4_ w5_ cs)=(cs.map (·.2)):=rfl
mutual
noncomputable def gt(r:Nat->Nat):PV->PV
 |.loc i=>.loc (r i)
 |.hdr C l=>.hdr C (r l)
 |.tup Z=>.tup (dH r Z)
 |.clo a b c d e Y=>.clo a b c d e (Y.map fun x=>(x.1,r x.2))
 |p=>p
noncomputable def dH(r:Nat->Nat):List PV->List PV
 |[]=>[]
 |p::Z=>gt r p::dH r Z
end
noncomputable def dc:AO->List Nat
 |.list Z=>bA Z
 |.cell (some p)=>eZ p
 |.cell none=>[]
 |.dict Y=>bA (Y.map (·.2))
 |.set Z=>bA Z
noncomputable def il(r:Nat->Nat):AO->AO
 |.list Z=>.list (dH r Z)
 |.cell (some p)=>.cell (some (gt r p))
 |.cell none=>.cell none
 |.dict Y=>.dict (Y.map fun x=>(x.1,gt r x.2))
 |.set Z=>.set (dH r Z)
structure Tb(W W':Wd)(r:Nat->Nat)(ids:List Nat):Prop where
 F:∀a o,W.F a=some o->W'.F a=some o
 r:∀i,i∈ids->i<W.n->r i<W'.n/\W'.ρ (r i)=W.ρ i
mutual
theorem bn.ren{W U:Wd}{r:Nat->Nat}{S:List Nat}(g:Tb W U r S):∀{p:PV} {v:Value},(∀i∈eZ p,i∈S)->bn W p v->bn U (gt r p) v
 |.none,_,_,h=>h
 |.bool _,_,_,h=>h
 |.int _,_,_,h=>h
 |.str _,_,_,h=>h
 |.rng _ _,_,_,h=>by
  obtain⟨x,t,u,w,e,d⟩:=h;exact⟨x,t,u,w,e,g.F _ _ d⟩
 |.fl ns,v,Z,h=>by
  obtain⟨a,o,n,H,e,X,Y⟩:=h;exact⟨a,o,n,H,e,g.F _ _ X,Y⟩
 |.tup ps,v,Z,h=>by
  obtain⟨a,G,n,e,j,m⟩:=h;exact⟨a,G,n,e,g.F _ _ j,aN.ren g Z m⟩
 |.loc i,v,Z,h=>by
  obtain⟨X,Y⟩:=g.r i (Z i (.head _)) h.1;exact⟨X,by rw [Y];exact h.2⟩
 |.val _,_,_,h=>h
 |.hdr C l,v,Z,h=>by
  obtain⟨k,a,D,od,e,X,Y,h3⟩:=h;obtain⟨b,c⟩:=g.r l (Z l (.head _)) k;exact⟨b,a,D,od,e,g.F _ _ X,g.F _ _ Y,by rw [c];exact h3⟩
 |.clo J M R I Q O,v,Z,h=>by
  obtain⟨f,a,o,e,X,Y⟩:=h;have T:∀x∈O,r x.2<U.n/\U.ρ (r x.2)=W.ρ x.2:=fun x V=>g.r x.2 (Z x.2 (qY V)) (f x V)
  refine⟨fun x V=>?_,a,o,e,g.F _ _ X,?_⟩
  .obtain⟨y,s,rfl⟩:=da.mp V
   exact(T y s).1
  .obtain⟨A,P,z,an,N,ct,B,E⟩:=Y
   refine⟨A,P,z,an,N,ct,?_,fun h e=>E h fun a o q=>e a o (g.F a o q)⟩;have:((O.map fun x=>(x.1,r x.2)).map fun x=>(x.1,U.ρ x.2))=O.map fun x=>(x.1,W.ρ x.2):=by
    rw [lK];exact AD fun x V=>by show(x.1,U.ρ (r x.2))=_;rw [(T x V).2]
   rw [this];exact B
theorem aN.ren{W T:Wd}{r:Nat->Nat}{Z:List Nat}(g:Tb W T r Z):∀{Y:List PV} {V:List Value},(∀i∈bA Y,i∈Z)->aN W Y V->aN T (dH r Y) V
 |[],_,_,h=>h
 |p::Y,V,U,h=>by
  obtain⟨v,X,e,R,S⟩:=h;exact⟨v,X,e,bn.ren g (fun i q=>U i (Gy _ q)) R,aN.ren g (fun i q=>U i (zh _ q)) S⟩
end
theorem DA(r):dH r []=([]):=rfl
theorem DE(r p ps):dH r (p::ps)=(gt r p::dH r ps):=rfl
theorem lJ.ren{T:World}{W N:Wd}{r:Nat->Nat}{Y:List Nat}(g:Tb W N r Y){V:AO}{o:Obj}(X:∀i∈dc V,i∈Y)(h:lJ T W V o):lJ T N (il r V) o:=by
 cases V with
 |list J=>obtain⟨M,n,e,q⟩:=h;exact⟨M,n,e,q.ren g X⟩
 |cell p=>
  cases p with
  |none=>obtain⟨v,e,q⟩:=h;exact⟨v,e,trivial⟩
  |some p=>obtain⟨v,e,x,H,q⟩:=h;exact⟨v,e,x,H,q.ren g X⟩
 |dict Z=>
  obtain⟨I,O,P,Q⟩:=h;have e:(Z.map fun x=>(x.1,gt r x.2)).map (·.2)=dH r (Z.map (·.2)):=by
   clear O P Q X
   induction Z with
   |nil=>rfl
   |cons x Z U=>simp only [eh,DA,DE,U]
  refine⟨I,O,?_,?_⟩
  .rw [P,lK];rfl
  .rw [e];exact Q.ren g X
 |set J=>
  obtain⟨S,rfl,R⟩:=h;refine⟨S,?_,R⟩;clear R X
  induction S with
  |nil=>rfl
  |cons x G U=>exact bw (PV.int x::·) U
mutual
theorem bn.sc{W:Wd}:∀{p:PV} {v:Value},bn W p v->∀i∈eZ p,i<W.n
 |.none,_,_,i,Z=>by cases Z
 |.bool _,_,_,i,Z=>by cases Z
 |.int _,_,_,i,Z=>by cases Z
 |.str _,_,_,i,Z=>by cases Z
 |.rng _ _,_,_,i,Z=>by cases Z
 |.fl _,_,_,i,Z=>by cases Z
 |.tup O,v,h,i,Z=>by obtain⟨a,P,n,e,N,R⟩:=h;exact aN.sc R i Z
 |.loc j,v,h,i,Z=>by
  have:i=j:=by simpa [yv,vK,xq,wS]using Z
  subst this;exact h.1
 |.val _,_,_,i,Z=>by cases Z
 |.hdr C l,v,h,i,Z=>by
  have:i=l:=by simpa [yv,vK,xq,wS]using Z
  subst this;exact h.1
 |.clo U V Y T X Q,v,h,i,Z=>by
  obtain⟨x,S,rfl⟩:=da.mp (show i∈Q.map (·.2)from Z);exact h.1 x S
theorem aN.sc{W:Wd}:∀{Z:List PV} {X:List Value},aN W Z X->∀i∈bA Z,i<W.n
 |[],_,_,i,Y=>by cases Y
 |p::Z,X,h,i,Y=>by
  obtain⟨v,V,e,T,U⟩:=h;rcases ku.mp (show i∈eZ p++bA Z from Y)with q|q
  .exact bn.sc T i q
  .exact aN.sc U i q
end
theorem lJ.sc{X:World}{W:Wd}{Y:AO}{o:Obj}(h:lJ X W Y o)(U:∀Z,Y≠.set Z):∀i∈dc Y,i<W.n:=by
 cases Y with
 |list Z=>obtain⟨R,n,e,q⟩:=h;exact q.sc
 |cell p=>
  cases p with
  |none=>intro i T;cases T
  |some p=>obtain⟨v,e,x,N,q⟩:=h;exact q.sc
 |dict V=>obtain⟨Q,O,P,S⟩:=h;exact S.sc
 |set Z=>exact absurd rfl (U Z)
noncomputable def dY:Nat->List AO->List (Nat×AO)
 |_,[]=>[]
 |k,o::os=>(k,o)::dY (k+1) os
theorem yh(w1_):dY w1_ []=([]):=rfl
theorem vT(k o os):dY k (o::os)=((k,o)::dY (k+1) os):=rfl
theorem mr:∀(os:List AO) (k j:Nat),(dY k os).lookup j=if k<=j then os[j-k]? else none
 |[],k,j=>by simp [yh,vT]
 |o::os,k,j=>by
  dsimp only [yh,vT];rw [dU,mr os (k+1) j]
  by_cases h:j=k
  .subst h;simp
  .have:(j==k)=false:=by simp [h]
   rw [this]
   by_cases X:k<=j
   .have Z:k+1<=j:=by exact(eN h).elim (fun Y=>(DF X Y:False).elim) (fun Y=>bD 0x8021000400840000421 rfl Y)
    have W:j-k=j-(k+1)+1:=by exact bY (JV (aV (yI Z)) (aV (Ko Z))) (EU (aV (Ko Z)) (aV (yI Z)))
    simp only [X,Z,hO,W,JL]
   .have Z:¬k+1<=j:=by exact fun Y=>bD 0x8021000400840000c22 rfl X Y
    simp only [X,Z,me]
theorem fT(os:List AO)(j:Nat):(dY 0 os).lookup j=os[j]?:=by rw [mr];rfl
noncomputable def iu(Z:List Nat)(l:List Nat):Bool:=l.all fun i=>Z.contains i
theorem nS{Z l:List Nat}(h:iu Z l=true):∀i∈l,i∈Z:=fun i Y=>by
 have:=fL.mp h i Y;exact vY.mp this
noncomputable def iL(st:List (Nat×AO))(Z:List Nat):List Nat->Option (List AO)
 |[]=>some []
 |i::X=>match st.lookup i,iL st Z X with
  |some Y,some l=>if iu Z (dc Y)then some (il (fun i=>Z.idxOf i) Y::l)else none
  |_,_=>none
theorem qc(st full):iL st full []=(some []):=rfl
theorem qa(st full i is):iL st full (i::is)=(match st.lookup i,iL st full is with
  |some Z,some l=>if iu full (dc Z)then some (il (fun i=>full.idxOf i) Z::l)else none
  |_,_=>none):=rfl
set_option tactic.hygienic true in
theorem jy{st:List (Nat×AO)}{Z:List Nat}:∀{Y:List Nat} {os:List AO},iL st Z Y=some os->os.length=Y.length/\∀(j i:Nat),Y[j]?=some i->∃X,st.lookup i=some X/\os[j]?=some (il (fun i=>Z.idxOf i) X)/\∀i∈dc X,i∈Z
 |[],os,h=>by obtain rfl:=bc h;exact⟨rfl,fun j i e=>by trivial⟩
 |i::Q,os,h=>by
  dsimp only [qc,qa]at h
  split at h
  .rename_i X l R S
   split at h
   .rename_i V
    obtain rfl:=bc h;obtain⟨T,U⟩:=jy S;refine⟨by simp [T],fun j W e=>?_⟩;cases j with
    |zero=>obtain rfl:=bc e;exact⟨X,R,rfl,nS V⟩
    |succ j=>exact U j W (by simpa using e)
   .exact aZ h
  .exact aZ h
noncomputable def ne(W:Wd)(Z:List Nat):Wd:=⟨W.F,fun k=>W.ρ (Z.getD k 0),Z.length⟩
theorem mV{Z:List Nat}{i:Nat}(h:i∈Z):Z.idxOf i<Z.length/\Z.getD (Z.idxOf i) 0=i:=by
 have Y:=List.idxOf_lt_length_iff.mpr h;refine⟨Y,?_⟩;rw [km,fh Y];exact List.getElem_idxOf Y
theorem iZ(W:Wd)(Z:List Nat):Tb W (ne W Z) (fun i=>Z.idxOf i) Z:=
 ⟨fun _ _ e=>e,fun i Y _=>⟨(mV Y).1,by show W.ρ (Z.getD (Z.idxOf i) 0)=_;rw [(mV Y).2]⟩⟩
theorem GI{Z:List Nat}(W:Z.Nodup){i j:Nat}(X:i<Z.length)(Y:j<Z.length)(e:Z.getD i 0=Z.getD j 0):i=j:=by
 rw [km,km,fh X,fh Y]at e
 have V:Z[i]=Z[j]:=e;rcases Nat.lt_trichotomy i j with h|h|h
 .exact absurd V (Dd.mp W i j X Y h)
 .exact h
 .exact absurd V.symm (Dd.mp W j i Y X h)
section
variable {T:Tp}{X:Cx}{R:Fz}{W:Wd}{σ:AS}{s:Shared}{b:Nat}{A:Around}
theorem eD.pick{st:List (Nat×AO)}(V:eD T R W st s){Z:List Nat}(C:Z.Nodup)(U:∀i∈Z,i<W.n){os:List AO}(D:iL st Z Z=some os){M:Fz}
  (w:FH M.h s.heap) (v:∀g x,M.g g=some x->s.gens[g]?=some x) (y:∀i∈Z,M.h (W.ρ i)=none) (E:∀P∈T.tabs,M.h P=none):eD T M (ne W Z) (dY 0 os) s:=by
 obtain⟨B,z⟩:=jy D;have Y:∀k,k<Z.length->Z.getD k 0∈Z/\Z[k]?=some (Z.getD k 0):=fun k H=>by
  rw [km,fh H];exact⟨nh H,rfl⟩
 refine⟨V.top,V.hF,w,v,fun j p e=>?_,fun j S=>?_,fun i j Q S e=>?_,fun P G=>?_,V.bare,V.os,fun j S=>?_⟩
 .rw [fT]at e
  have S:j<Z.length:=by
   obtain⟨q,_⟩:=jQ.mp e
   exact cq 0x40200420008010840000822 rfl B q
  obtain⟨I,Q⟩:=Y j S;obtain⟨r,N,J,O⟩:=z j _ Q;rw [e]at J;obtain rfl:=bc J
  obtain⟨F,o,t,u⟩:=V.trk _ _ N;exact⟨S,o,t,u.ren (iZ W Z) O⟩
 .obtain⟨I,Q⟩:=Y j S
  obtain⟨N,J,O,F⟩:=V.fre _ (U _ I);exact⟨N,y _ I,O,F⟩
 .exact GI C Q S (V.inj _ _ (U _ (Y i Q).1) (U _ (Y j S).1) e)
 .obtain⟨N,J,O⟩:=V.tabs P G
  exact⟨N,E P G,O⟩
 .exact V.sysm _ (U _ (Y j S).1)
end
noncomputable abbrev bz:=List PV->List AO->Option (PV×List AO×List AO)
inductive GX(T:Tp)(R:Fz)(W:Wd)(s:Shared)(pv:PV)(os:List AO)(v:Value)(s':Shared):Prop
 |mk(W':Wd)(g:ci W s.heap W' s'.heap)(hv:bn W' pv v)(hr:eD T R W' (dY 0 os) s')(hn:W'.n=os.length)
noncomputable def fy(T:Tp)(b:Nat)(f:Value)(Q:List Value->Args)(C:bz):Prop:=
 ∀A R W s Y U os V Z S,fJ b A->C U os=some (V,Z,S)->Z.length=os.length->aN W U Y->W.n=os.length->eD T R W (dY 0 os) s->
  codeAny (model T.prog T.w) A (.call f (Q Y)) (fun r X=>match r with|.ok (.ret v)=>GX T R W s V (Z++S) v X|.ok _=>False|.error e=>bg e X) s
noncomputable def ib:List (Nat×AO)->List Nat->List AO->List (Nat×AO)
 |st,i::Z,o::os=>ib (aG st i o) Z os
 |st,_,_=>st
theorem QD(st:List (Nat×AO)):ib st [] []=st:=rfl
theorem DB(st i is o os):ib st (i::is) (o::os)=(ib (aG st i o) is os):=rfl
noncomputable def gZ:List (Nat×AO)->Nat->List AO->List (Nat×AO)
 |st,_,[]=>st
 |st,n,o::os=>gZ ((n,o)::st) (n+1) os
theorem tK(st w1_):gZ st w1_ []=(st):=rfl
theorem sH(st n o os):gZ st n (o::os)=(gZ ((n,o)::st) (n+1) os):=rfl
noncomputable def mT(Z:List Nat)(n:Nat):Nat->Nat:=fun j=>if j<Z.length then Z.getD j 0 else n+(j-Z.length)
noncomputable def dm(C:bz)(Z:List Nat)(W:List PV):ER:=fun σ=>
 match iL σ.st Z Z with
 |some os=>if nodupB Z&&iu Z (bA W)&&Z.all (fun i=>decide (i<σ.nx))then
   (match C (dH (fun i=>Z.idxOf i) W) os with
    |some (p,Y,X)=>if Y.length=Z.length/\simpleAll Y=true/\simpleAll X=true then
      some (gt (mT Z σ.nx) p,{σ with st:=gZ (ib σ.st Z (Y.map (il (mT Z σ.nx)))) σ.nx (X.map (il (mT Z σ.nx))),nx:=σ.nx+X.length})else none
    |none=>none)else none
 |none=>none
where
 nodupB:List Nat->Bool
  |[]=>true
  |i::V=>!V.contains i&&nodupB V
 simpleAll:List AO->Bool
  |[]=>true
  |.list _::os=>simpleAll os
  |.cell _::os=>simpleAll os
  |.dict _::os=>simpleAll os
  |_::_=>false
theorem lZ:∀{Z:List Nat},dm.nodupB Z=true->Z.Nodup
 |[],_=>on
 |i::X,h=>by
  unfold dm.nodupB at h
  rw [dw,qx]at h
  refine lT.mpr ⟨fun Y=>?_,lZ h.2⟩;rw [vY.mpr Y]at h
  exact absurd h.1 (by decide)
theorem iK:∀(Z:List Nat) (os:List AO) (st:List (Nat×AO)) (i:Nat),Z.Nodup->Z.length=os.length->(ib st Z os).lookup i=if i∈Z then os[Z.idxOf i]? else st.lookup i
 |[],[],st,i,_,_=>by rfl
 |[],_::_,_,_,_,h=>by cases h
 |_::_,[],_,_,_,h=>by cases h
 |j::X,o::os,st,i,Y,V=>by
  rw [lT]at Y
  dsimp only [DB];rw [iK X os _ i Y.2 (by simpa using V),gc]
  by_cases h:i=j
  .subst h
   simp [Y.1]
  .by_cases W:i∈X
   .have U:(j==i)=false:=by simp;exact fun e=>h e.symm
    simp [W,h,List.idxOf_cons,U]
   .simp [W,h]
theorem ln:∀(V:List AO) (st:List (Nat×AO)) (n i:Nat),(∀j,n<=j->st.lookup j=none)->(gZ st n V).lookup i=if n<=i then V[i-n]? else st.lookup i
 |[],st,n,i,h=>by
  dsimp only [tK,sH]
  by_cases Y:n<=i
  .simp [Y,h i Y]
  .simp [Y]
 |o::os,st,n,i,h=>by
  dsimp only [tK,sH];rw [ln os _ (n+1) i (fun j U=>by
   rw [dU];have:(j==n)=false:=by simp;exact fun Z=>bD 0x20104200840010022 rfl U Z
   rw [this];exact h j (by exact(yI U))),dU]
  by_cases Y:i=n
  .subst Y
   rw [aO (by exact(fun Z=>aW 0x840010021 rfl Z))];simp
  .have:(i==n)=false:=by simp [Y]
   rw [this]
   by_cases W:n<=i
   .have X:n+1<=i:=by exact(eN Y).elim (fun Z=>(DF W Z:False).elim) (fun Z=>bD 0x8021000400840000421 rfl Z)
    have T:i-n=i-(n+1)+1:=by exact bY (JV (aV (yI X)) (aV (Ko X))) (EU (aV (Ko X)) (aV (yI X)))
    simp only [W,X,hO,T,JL]
   .have X:¬n+1<=i:=by exact fun Z=>bD 0x8021000400840000c22 rfl W Z
    simp only [W,X,me]
section
variable {T:Tp}{X:Cx}{R:Fz}{W:Wd}{σ:AS}{s:Shared}{b:Nat}{A:Around}
noncomputable def eT(s:Shared)(l:List Addr):Fz:=⟨fun a=>if a∈l then none else s.heap.get? a,fun g=>s.gens[g]?⟩
theorem dZ{l:List Addr}{a:Addr}{o:Obj}:(eT s l).h a=some o↔a∉l/\s.heap.get? a=some o:=by
 show(if a∈l then none else s.heap.get? a)=some o↔_
 by_cases h:a∈l<;>simp [h]
theorem hZ{l:List Addr}{a:Addr}(h:a∈l):(eT s l).h a=none:=by
 show(if a∈l then none else s.heap.get? a)=none;rw [aJ h]
theorem eM:∀{os:List AO},dm.simpleAll os=true->∀{j:Nat} {Z:AO},os[j]?=some Z->∀Y,Z≠.set Y
 |[],_,j,Z,e=>by trivial
 |o::os,h,0,Z,e=>by
  obtain rfl:=bc e;cases o with
  |list Y=>exact fun _=>nofun
  |cell p=>exact fun _=>nofun
  |dict _=>exact fun _=>nofun
  |set _=>exact EJ h
 |o::os,h,j+1,Z,e=>by
  cases o with
  |list Y=>exact eM (os:=os) h (by simpa using e)
  |cell p=>exact eM (os:=os) h (by simpa using e)
  |dict p=>exact eM (os:=os) h (by simpa using e)
  |set _=>exact EJ h
set_option tactic.hygienic true in
theorem ld{f:Value}{mk:List Value->Args}{C:bz}{Z:List Nat}{ps:List PV}{vs:List Value}{pv:PV}{y6:AS}(hC:fy T b f mk C)(hA:fJ b A)(hf:dm C Z ps σ=some (pv,y6))(Q:bQ T X R W σ s)(x4:aN W ps vs):
  wpAny (model T.prog T.w) A (runValue (.call f (mk vs))) (aT T X R W s pv y6) bg s:=by
 unfold dm at hf
 split at hf
 .rename_i os hp
  split at hf
  .rename_i hc
   simp only [dw]at hc
   obtain⟨⟨w3,w2⟩,w1⟩:=hc;have y4:=lZ w3;have y5:=nS w2;have z1:∀i∈Z,i<W.n:=fun i J=>by
    have:=fL.mp w1 i J;rw [<-Q.nx];exact eJ this
   split at hf
   .rename_i p u z e
    split at hf
    .rename_i hs
     obtain⟨G,x6,x5⟩:=hs;injection hf with hf;injection hf with w0 x9
     subst w0 x9;obtain⟨hl,_⟩:=jy hp;have hB:eD T (eT s (Z.map W.ρ++T.tabs)) (ne W Z) (dY 0 os) s:=
      Q.r.pick y4 z1 hp (fun a o e=>(dZ.mp e).2) (fun g x e=>e) (fun i J=>hZ (Gy _ (qY J))) (fun P hP=>hZ (zh _ hP))
     refine bt (rN <|hC A _ (ne W Z) s vs _ os p u z hA e (by rw [G,hl]) (x4.ren (iZ W Z) y5) (by show Z.length=os.length;rw [hl]) hB) (fun v s' hq=>?_) ay;obtain⟨V,g,hv,c,hn⟩:=hq;have d:V.n=Z.length+z.length:=by rw [hn,jL,G]
     have y8:∀k,k<Z.length->Z.getD k 0∈Z:=fun k d=>by
      rw [km,fh d];exact nh d
     have y1:∀k,k<Z.length->V.ρ k=W.ρ (Z.getD k 0):=fun k d=>g.ρ k d
     let N:Wd:=⟨V.F,fun i=>if i<W.n then W.ρ i else V.ρ (i-W.n+Z.length),W.n+z.length⟩
     have Y:∀i,i<W.n->N.ρ i=W.ρ i:=fun i J=>aJ J
     have U:∀i,¬i<W.n->N.ρ i=V.ρ (i-W.n+Z.length):=fun i J=>aO J
     have z8:Tb V N (mT Z σ.nx) (List.range V.n):=⟨fun _ _ e=>e,fun i _ J=>by
      unfold mT
      by_cases h:i<Z.length
      .rw [aJ h]
       have E:=z1 _ (y8 i h);exact⟨eB E (eX _ _),(Y _ E).trans (y1 i h).symm⟩
      .rw [aO h,Q.nx]
       refine⟨by show W.n+(i-Z.length)<W.n+z.length;exact Gv 0x201402200a010423004040084100060084400804000823 rfl d J (aV (sB h)),?_⟩;rw [U _ (by exact(fun u0=>bD 0x800010421 rfl u0))]
       congr 1;exact bY (su 0x100300002004801804010822004020800010822 rfl (aV (Ek)) (aV (sB h))) (su 0xc0000880004801804010a22004020800010a22 rfl (aV (Ek)) (aV (sB h)))⟩
     have z6:ci W s.heap N s'.heap:=⟨g.F,g.fr,eX _ _,Y,g.th⟩;have z3:∀a o,a∉Z.map W.ρ->a∉T.tabs->s.heap.get? a=some o->s'.heap.get? a=some o:=fun a o O I e=>
      c.hR a o (dZ.mpr ⟨fun h=>(ku.mp h).elim O I,e⟩)
     have B:∀a o,a∉Z.map W.ρ->a∉T.tabs->s.heap.get? a=some o->(eT s (Z.map W.ρ++T.tabs)).h a=some o:=fun a o O I e=>
      dZ.mpr ⟨fun h=>(ku.mp h).elim O I,e⟩
     have H:∀a o,W.F a=none->s.heap.get? a=some o->V.F a=none:=fun a o O I=>by
      cases q:V.F a with
      |none=>rfl
      |some o'=>
       rcases g.fr a o' q with q'|q'
       .have:W.F a=some o':=q'
        rw [O]at this;exact aZ this
       .rw [I]at q';exact kR q'
     have z2:∀i,i<W.n->i∉Z->W.ρ i∉Z.map W.ρ:=fun i J x7 E=>by
      obtain⟨j,D,e⟩:=da.mp E;exact x7 (Q.r.inj j i (z1 j D) J e▸D)
     have x3:∀a o,R.h a=some o->a∉Z.map W.ρ:=fun a o e E=>by
      obtain⟨j,D,e'⟩:=da.mp E;have:=(Q.r.fre j (z1 j D)).2.1;rw [e',e]at this
      exact kR this
     have x2:∀a o,R.h a=some o->a∉T.tabs:=fun a o e hP=>by
      have:=(Q.r.tabs a hP).2.1;rw [e]at this
      exact kR this
     have z7:∀a o,R.h a=some o->a∉Z.map W.ρ/\a∉T.tabs:=fun a o e=>⟨x3 a o e,x2 a o e⟩
     have y0:X.env.locals∉Z.map W.ρ:=fun E=>by
      obtain⟨j,D,e'⟩:=da.mp E;exact Q.l.ρ j (z1 j D) e'
     refine⟨N,z6,hv.ren z8 (fun i J=>uJ.mpr (hv.sc i J)),⟨⟨c.top,c.hF,fun a o e=>z3 a o (z7 a o e).1 (z7 a o e).2 (Q.r.hR a o e),fun g' x e=>c.hG g' x (Q.r.hG g' x e),fun i ao e=>?_,fun i J=>?_,fun i j J D e=>?_,fun P hP=>?_,c.bare,c.os,fun i J=>?_⟩,?_,?_⟩⟩
     .have y3:∀j,σ.nx<=j->(ib σ.st Z (u.map (il (mT Z σ.nx)))).lookup j=none:=fun j D=>by
       rw [iK _ _ _ _ y4 (by simp [G]),aO (fun E=>by have:=z1 j E;rw [<-Q.nx]at this;exact DF D this)];cases q:σ.st.lookup j with
       |none=>rfl
       |some ao=>have:=(Q.r.trk j ao q).1;rw [<-Q.nx]at this;exact(DF D this:False).elim
      rw [show({σ with st:=gZ (ib σ.st Z (u.map (il (mT Z σ.nx)))) σ.nx (z.map (il (mT Z σ.nx))),nx:=σ.nx+z.length}:AS).st=gZ (ib σ.st Z (u.map (il (mT Z σ.nx)))) σ.nx (z.map (il (mT Z σ.nx)))from rfl]at e
      rw [ln _ _ _ _ y3]at e
      have z9:∀(j:Nat) (S:AO),(u++z)[j]?=some S->ao=il (mT Z σ.nx) S->N.ρ i=V.ρ j->i<N.n->i<N.n/\∃o,s'.heap.get? (N.ρ i)=some o/\lJ T.w N ao o:=fun j S D w4 y9 y5=>by
       obtain⟨h4,o,h5,h6⟩:=c.trk j S (by rw [fT];exact D);have z4:∀ps,S≠.set ps:=by
        by_cases x1:j<u.length
        .rw [vO x1]at D;exact eM x6 D
        .rw [zN (HJ x1)]at D;exact eM x5 D
       refine⟨y5,o,by rw [y9];exact h5,?_⟩;rw [w4];exact h6.ren z8 fun x hx=>uJ.mpr (h6.sc z4 x hx)
      by_cases J:σ.nx<=i
      .rw [aJ J,kH]at e
       obtain⟨S,e1,e2⟩:=iO.mp e;have x8:i-σ.nx<z.length:=(jQ.mp e1).1;refine z9 (Z.length+(i-σ.nx)) S ?_ e2.symm ?_ ?_
       .rw [zN (by exact(cq 0x10020100000840000821 rfl G))]
        rw [show Z.length+(i-σ.nx)-u.length=i-σ.nx from by exact bY (iF 0x30080008c0100800100420840000a22 rfl G (aV (cq 0x10020100000840000821 rfl G))) (iF 0x200c0008c0100800100428840000822 rfl G (aV (cq 0x10020100000840000821 rfl G)))];exact e1
       .rw [U i (by rw [<-Q.nx];exact fun u0=>DF J u0),<-Q.nx];congr 1;exact bY (bD 0x4020800010020 rfl) (bD 0x4020800010020 rfl)
       .show i<W.n+z.length;rw [<-Q.nx];exact iF 0x1008021802118040000428840000422 rfl x8 (aV (kT J))
      .rw [aO J,iK _ _ _ _ y4 (by simp [G])]at e
       have M:i<W.n:=by rw [<-Q.nx];exact bD 0x4010840000c21 rfl J
       by_cases E:i∈Z
       .rw [aJ E,kH]at e
        obtain⟨S,e1,e2⟩:=iO.mp e;obtain⟨z0,y2⟩:=mV E;refine z9 (Z.idxOf i) S ?_ e2.symm ?_ (eB M (eX _ _))
        .rw [vO (by exact(cq 0x200421008010840000a22 rfl G z0))];exact e1
        .rw [Y i M,y1 _ z0,y2]
       .rw [aO E]at e
        obtain⟨h4,o,h5,h6⟩:=Q.r.trk i ao e;refine⟨eB h4 (eX _ _),o,?_,h6.mono z6.ext⟩;rw [Y i M];exact z3 _ o (z2 i M E) (Q.r.fre i M).2.2.1 h5
     .by_cases M:i<W.n
      .rw [Y i M]
       obtain⟨O,I,h3,o,h4⟩:=Q.r.fre i M;exact⟨H _ o O h4,I,h3,g.th _ o h4⟩
      .rw [U i M]
       have y:i<W.n+z.length:=J;obtain⟨O,I,h3,h4⟩:=c.fre (i-W.n+Z.length) (by exact(Ad d y (aV (sB M))));refine⟨O,?_,h3,h4⟩;cases q:R.h (V.ρ (i-W.n+Z.length))with
       |none=>rfl
       |some o=>
        have:=B _ o (z7 _ o q).1 (z7 _ o q).2 (Q.r.hR _ o q);rw [I]at this;exact aZ this
     .have y7:∀i j,i<W.n->¬j<W.n->j<W.n+z.length->W.ρ i≠V.ρ (j-W.n+Z.length):=fun i j J D z5 e=>by
       by_cases E:i∈Z
       .obtain⟨z0,y2⟩:=mV E
        have e':V.ρ (Z.idxOf i)=V.ρ (j-W.n+Z.length):=by rw [y1 _ z0,y2];exact e
        have:=c.inj _ _ (by exact(iF 0x1802108060084400804000a22 rfl d z0)) (by exact(Ad d z5 (aV (sB D)))) e';exact cq 0x8040100028840000422 rfl z0 this
       .obtain⟨_,_,h3,o,h4⟩:=Q.r.fre i J
        have h5:=B _ o (z2 i J E) h3 h4;have h6:=(c.fre (j-W.n+Z.length) (by exact(Ad d z5 (aV (sB D))))).2.1;rw [<-e,h5]at h6;exact kR h6
      have y:i<W.n+z.length:=J;have z5:j<W.n+z.length:=D
      by_cases O:i<W.n<;>by_cases I:j<W.n
      .rw [Y i O,Y j I]at e;exact Q.r.inj i j O I e
      .rw [Y i O,U j I]at e;exact absurd e (y7 i j O I z5)
      .rw [U i O,Y j I]at e;exact absurd e.symm (y7 j i I O y)
      .rw [U i O,U j I]at e
       have:=c.inj _ _ (by exact(Ad d y (aV (sB O)))) (by exact(Ad d z5 (aV (sB I)))) e;exact bY (Gv 0x5010000940300802104801800010a21008020800010823 rfl this (aV (sB O)) (aV (sB I))) (Gv 0x4014000940300802144801800010821008020800010a23 rfl this (aV (sB O)) (aV (sB I)))
     .obtain⟨O,I,h3⟩:=c.tabs P hP
      exact⟨O,(Q.r.tabs P hP).2.1,h3⟩
     .have y:i<W.n+z.length:=J
      by_cases O:i<W.n
      .rw [Y i O];exact Q.r.sysm i O
      .rw [U i O];exact c.sysm _ (by exact(Ad d y (aV (sB O))))
     .obtain⟨m,E,x0⟩:=Q.l.m
      obtain⟨oL,eL,w6,hL,w5⟩:=id E;refine⟨⟨m,E.at' fun o e=>z3 _ o y0 Q.l.t e,fun i x p O I=>let⟨v,h3,h4⟩:=x0 i x p O I;⟨v,h3,h4.mono z6.ext⟩⟩,H _ oL Q.l.nF hL,Q.l.nR,Q.l.t,fun i J=>?_,fun j x i h=>?_⟩
      .by_cases M:i<W.n
       .rw [Y i M];exact Q.l.ρ i M
       .rw [U i M]
        have y:i<W.n+z.length:=J;intro e;have h5:=B _ oL y0 Q.l.t hL;have h6:=(c.fre (i-W.n+Z.length) (by exact(Ad d y (aV (sB M))))).2.1;rw [e,h5]at h6;exact kR h6
      .obtain⟨O,I⟩:=Q.l.cv j x i h
       exact⟨eB O (eX _ _),by rw [Y i O];exact I⟩
     .show σ.nx+z.length=W.n+z.length
      rw [Q.nx]
    .exact aZ hf
   .exact aZ hf
  .exact aZ hf
 .exact aZ hf
end
theorem ma{Y:Type}:∀{l:List (Str×Y)} {x:Str} {v:Y},(l.map (·.1)).Nodup->(x,v)∈l->l.lookup x=some v
 |[],x,v,_,h=>by cases h
 |(y,u)::l,x,v,Z,h=>by
  rw [eh,lT]at Z
  rw [dU];rcases cC.mp h with e|X
  .cases e;simp
  .have W:x∈l.map (·.1):=da.mpr ⟨(x,v),X,rfl⟩
   have:x≠y:=fun e=>Z.1 (e▸W)
   have:(x==y)=false:=by simp [this]
   rw [this];exact ma Z.2 X
theorem rF{X:Type}:∀{Z:List Str} {Y:List X},Z.length=Y.length->((Z.zip Y).map (·.1))=Z
 |[],[],_=>rfl
 |[],_::_,h=>by cases h
 |_::_,[],h=>by cases h
 |x::Z,v::Y,h=>by
  show x::((Z.zip Y).map (·.1))=_;rw [rF (by simpa using h)]
theorem kx:∀(n i:Nat),fQ (List.replicate n none) i=none
 |0,_=>rfl
 |n+1,0=>rfl
 |n+1,i+1=>kx n i
noncomputable def ja:List Nat->List Nat
 |[]=>[]
 |i::Z=>if Z.contains i then ja Z else i::ja Z
noncomputable def fU(k:Nat)(p:PV)(σ:AS):Option (PV×List AO×List AO):=
 let Z:=List.range k++ja ((eZ p).filter fun i=>decide (k<=i))
 match iL σ.st Z Z with
 |some l=>if dm.nodupB Z&&iu Z (eZ p)then some (gt (fun i=>Z.idxOf i) p,l.take k,l.drop k)else none
 |none=>none
noncomputable def fM(k:Nat):Option (AF×AS)->Option (PV×List AO×List AO)
 |some (.ret p,σ)=>fU k p σ
 |some (.next,σ)=>fU k .none σ
 |_=>none
noncomputable def nf(qual:Str)(scope:Scope)(Z L:Addr)(Y:Value)(cells:List (Str×Addr)):Env:=
 {scope,locals:=L,globals:=mainGlobals,cells,qual:=qual++".<locals>.",func:=some Z,code:=Y,frame:=some L,builtins:=builtinsNs}
section
variable {T:Tp}{R:Fz}{W:Wd}{s:Shared}{b:Nat}{A:Around}
theorem fJ.deeper(h:fJ (b+1) A)(Z:Env):fJ b (A.deeper Z):=
 ⟨by have:=h.dep;show A.depth+1+b<_;exact cq 0x2004010800210422004210080010421 rfl this,by have:=h.uni;show A.units+3+8*b+100<_;exact cq 0x200c840810318400108410880321021080481800210421 rfl this,h.hnd⟩
theorem fJ.le{Y:Nat}(h:fJ b A)(Z:Y<=b):fJ Y A:=⟨by have:=h.dep;exact iF 0x3000020082118020100410840000022 rfl Z this,by have:=h.uni;exact iF 0x300c840010310042084601908102062008410840000102 rfl Z this,h.hnd⟩
theorem Et{k:Nat}{r:Option (AF×AS)}{out:PV×List AO×List AO}(h:fM k r=some out):∃a p σ,r=some (a,σ)/\((a=.ret p)\/(a=.next/\p=.none))/\fU k p σ=some out:=by
 cases r with
 |none=>exact aZ h
 |some y=>
  obtain⟨a,σ⟩:=y;cases a with
  |ret p=>exact⟨_,_,_,rfl,.inl rfl,h⟩
  |next=>exact⟨_,_,_,rfl,.inr ⟨rfl,rfl⟩,h⟩
  |_=>exact aZ h
set_option tactic.hygienic true in
theorem oY{X:Cx}{Z:Wd}{U:Shared}{N:AS}{H:Shared}{k:Nat}{p z:PV}{v:Value}{M y:List AO}(V:fU k p N=some (z,M,y))(E:Z.n=k)(I:ci Z U.heap W H.heap)(w:bn W p v)(O:bQ T X R W N H):
  GX T R Z U z (M++y) v H:=by
 unfold fU at V
 generalize S:List.range k++ja ((eZ p).filter fun i=>decide (k<=i))=Y at V
 simp only at V
 split at V
 .rename_i l x
  split at V
  .rename_i C
   rw [dw]at C
   injection V with V;injection V with m B;injection B with B o
   subst m B o;have G:=lZ C.1;obtain⟨u,D⟩:=jy x;have J:∀i∈Y,i<W.n:=fun i Q=>by
    obtain⟨j,t⟩:=qe Q
    obtain⟨h,e,_⟩:=D j i t;exact(O.r.trk i h e).1
   refine⟨ne W Y,⟨I.F,I.fr,?_,fun i Q=>?_,I.th⟩,w.ren (iZ W Y) (nS C.2),?_,?_⟩
   .show Z.n<=Y.length
    rw [E,<-S,jL,An];exact Ek
   .show W.ρ (Y.getD i 0)=Z.ρ i
    have:Y.getD i 0=i:=by
     rw [<-S,km,vO (by rw [An];exact cq 0x40200420008010840000822 rfl E Q),FE (by exact(cq 0x40200420008010840000822 rfl E Q))];rfl
    rw [this];exact I.ρ i Q
   .rw [Je]
    exact O.r.pick G J x O.r.hR O.r.hG (fun i Q=>(O.r.fre i (J i Q)).2.1) (fun P q=>(O.r.tabs P q).2.1)
   .rw [Je];exact u.symm
  .exact aZ V
 .exact aZ V
theorem fy.mono{f:Value}{U:List Value->Args}{C Q:bz}(h:fy T b f U C)(J:∀Y os r,Q Y os=some r->C Y os=some r){S:Nat}(I:b<=S):fy T S f U Q:=by
 intro A R W s P Y os O X N G H Z V M F;exact h A R W s P Y os O X N (G.le I) (J _ _ _ H) Z V M F
end
section
variable {T:Tp}{X:Cx}{R:Fz}{W:Wd}{σ:AS}{s:Shared}{b:Nat}{A:Around}
noncomputable def zz(V Y Z:ER)(g h:PV->PV->ER):ER:=eY V fun p=>eY Y fun q=>eY (g p q) fun c σ=>(ia σ.st c).bind fun t=>cond t (eY Z (h q) σ) (some (c,σ))
theorem HB{l M Q:Expr}{U Z:CmpOp}{pos:Pos}{t z G:ER}{g h:PV->PV->ER}(z0:aa T b X l t)(a:aa T b X M z)(d:aa T b X Q G)(hg:bC T b (compareOp U) g)(hh:bC T b (compareOp Z) h)
  (hA:fJ b A) {pv:PV} {o:AS} (P:zz t z G g h σ=some (pv,o)) (hr:bQ T X R W σ s):
  wpAny (model T.prog T.w) A (do compareChain pos (<-eval l X.env) [U,Z] [eval M X.env,eval Q X.env]) (aT T X R W s pv o) bg s:=by
 obtain⟨p,σ₁,z5,P⟩:=aX P;obtain⟨q,N,z4,P⟩:=aX P;obtain⟨c,V,z3,P⟩:=aX P;refine cE P fun tt et P=>?_
 refine aM (aK (z0.1 A R W σ s p σ₁ hA z5 hr) fun z9 u e B hu j=>?_);show wpAny _ _ (do
  let D <-holding [u] (eval M X.env)
  standAt pos
  let c <-holding [u,D] (compareOp U u D)
  release [u,D] [c]
  if <-holding [c,D] (truthy c)then compareChain pos D [Z] [eval Q X.env]else pure c) _ _ _
 refine aM (fZ (aK (a.1 A R z9 σ₁ e q N hA z4 j) fun z8 v f H hv k=>?_));refine aM (ic (aM (fZ (aK (hg X A R z8 N f p q u v c V hA z3 k (hu.mono H.ext) hv) fun y2 w y1 I hw J=>?_))));refine aM (wpAny_release ?_);cases tt with
 |true=>
  obtain⟨r,O,z2,P⟩:=aX (show eY G (h q) V=_ from P);refine aM (fZ (eA (eS et J hw) fun F E Y S=>?_));simp only [hO];show wpAny _ _ (do
   let D <-holding [v] (eval Q X.env)
   standAt pos
   operate [v,D] (compareOp Z v D)) _ _ _
  refine aM (fZ (aK (d.1 A R F V E r O hA z2 S) fun z7 x i C hx m=>?_));refine aM (ic ?_);unfold operate;refine aM (fZ (aK (hh X A R z7 O i q r v x pv o hA P m (hv.mono ((I.trans Y).trans C).ext) hx) fun z6 y y0 z1 hy n=>?_));exact aM (wpAny_release (bI ⟨z6,((((B.trans H).trans I).trans Y).trans C).trans z1,hy,n⟩))
 |false=>
  cases P;refine aM (fZ (eA (eS et J hw) fun F E Y S=>?_));simp only [vw,me];exact bI ⟨F,((B.trans H).trans I).trans Y,hw.mono Y.ext,S⟩
theorem aa.chain{l U V:Expr}{Y Z:CmpOp}{S:Pos}{O P Q:ER}{g h:PV->PV->ER}(J:aa T b X l O)(M:aa T b X U P)(N:aa T b X V Q)(E:bC T b (compareOp Y) g)(F:bC T b (compareOp Z) h)
  (G:∀x y:Sem Value,markedEach [Y,Z] [U,V] [x,y]=[x,y]:=by intro _ _;rfl):aa T b X (.Compare l [Y,Z] [U,V] S) (zz O P Q g h):=by
 refine⟨?_⟩;intro A R W σ s B I C D H;have:=HB (pos:=S) J M N E F C D H;show wpAny _ _ (do compareChain S (<-eval l X.env) [Y,Z] (markedEach [Y,Z] [U,V] [eval U X.env,eval V X.env])) _ _ _;rw [G];exact this
theorem cG{M:Model}{E:Value->Shared->Prop}{f:Value}{Z:List (Bool×Sem Value)}{Q:Args->Shared->Prop}(S:Z.any (·.1)=false)
  (h:wpAny M A (spliced Z) (fun V U=>Q ⟨V,[]⟩ U) E s):wpAny M A (evalArgs f true Z []) Q E s:=by
 have Y:wpAny M A (do
   let(pos,late) <-(do pure (<-spliced Z,(none:Option Value)):Sem (List Value×Option Value))
   holding (pos++late.toList) (pure ⟨pos,[]⟩:Sem Args)) Q E s:=by
  refine aM (aM (bt h (fun V U P=>bI (fZ (bI P))) fun _ _ x=>x))
 cases Z with
 |nil=>exact Y
 |cons t N=>
  obtain⟨O,x⟩:=t;cases O with
  |false=>exact vB h
  |true=>trivial
theorem co{pos:Pos}{Z:List (Bool×Sem Value)}(h:Z.any (·.1)=false):(backTo pos Z).any (·.1)=false:=by
 unfold backTo;rw [vF];exact h
noncomputable def eU(st:List (Nat×AO)):Nat->List Nat->List Nat
 |0,l=>ja l
 |n+1,l=>eU st n (l++(ja l).flatMap fun i=>match st.lookup i with|some Z=>dc Z|none=>[])
theorem Jz(st l):eU st 0 l=(ja l):=rfl
theorem FN(st n l):eU st (n+1) l=(eU st n (l++(ja l).flatMap fun i=>match st.lookup i with|some Z=>dc Z|none=>[])):=rfl
noncomputable def aY(C:bz)(Y:LR):ER:=fun σ=>match Y σ with
 |some (Z,σ₁)=>dm C (eU σ₁.st 2 (bA Z)) Z σ₁
 |none=>none
set_option tactic.hygienic true in
theorem aa.call{f:Expr}{O:List Expr}{Y:Pos}{I:Addr}{fo:Obj}{fd:FuncData}{C:bz}{z:LR}(p:aa T b X f (ab (.val (.ref I))))(F:ak T b X O z)(l:fy T b (.ref I) (fun M=>⟨M,[]⟩) C)
  (m:T.K.lookup I=some fo) (n:fo.data=.func fd) (G:∀V,(starEach O V).any (·.1)=false:=by intro _;rfl)
  (E:∀V,eval (.Call f O [] Y) V=(do callWith Y (<-eval f V) [] (backTo Y (starEach O V)) []):=by intro _;rfl):aa T b X (.Call f O [] Y) (aY C z):=by
 refine⟨?_⟩;intro A R W σ s k x D J t;unfold aY at J
 split at J
 .rename_i w σ₁ e
  rw [E];refine aM (aK (p.1 A R W σ s _ σ D rfl t) fun N u S P v U=>?_);rw [show u=.ref I from v];refine rf (o:=fo) (fd:=fd) (cG (co (G _)) (bt (F.1 A R N σ S w σ₁ Y D e U) (fun M B q=>?_) ay));obtain⟨y,Q,H,Z⟩:=q;refine⟨⟨Z.r.hF _ _ (Z.r.top.kin _ _ m),n⟩,?_⟩;exact dl (P.trans Q) (ld (mk:=fun M=>⟨M,[]⟩) l D J Z H)
 .exact aZ J
end
noncomputable def gb(T:Tp)(b:Nat)(S:Value)(g:GR):Prop:=
 ∀X A R W σ s U Y V Z,fJ b A->g U σ=some (V,Z)->bQ T X R W σ s->aN W U Y->wpAny (model T.prog T.w) A (call S Y) (aT T X R W s V Z) bg s
noncomputable def aQ(g:GR)(Z:LR):ER:=eY Z g
theorem kb{g:GR}{Y:LR}{σ:AS}{r:PV×AS}(h:aQ g Y σ=some r):∃Z σ₁,Y σ=some (Z,σ₁)/\g Z σ₁=some r:=aX h
theorem TM{W:Wd}{p:PV}{Y:List Value}(h:aN W [p] Y):∃v,Y=[v]/\bn W p v:=by
 obtain⟨v,Z,rfl,V,X⟩:=h;exact⟨v,by rw [show Z=[]from X],V⟩
theorem UQ{W:Wd}{p q:PV}{Z:List Value}(h:aN W [p,q] Z):∃u v,Z=[u,v]/\bn W p u/\bn W q v:=by
 obtain⟨u,Y,rfl,U,V⟩:=h;obtain⟨v,rfl,X⟩:=TM V;exact⟨u,v,rfl,U,X⟩
section
variable {T:Tp}{X:Cx}{R:Fz}{W:Wd}{σ:AS}{s:Shared}{b:Nat}{A:Around}
theorem aa.bcall{f:Expr}{M:List Expr}{Z:Pos}{id:String}{g:GR}{z:LR}(q:aa T b X f (ab (.val (.builtin id))))(F:ak T b X M z)(r:gb T b (.builtin id) g)
  (P:∀Y,(starEach M Y).any (·.1)=false:=by intro _;rfl)
  (D:∀Y,eval (.Call f M [] Z) Y=(do callWith Z (<-eval f Y) [] (backTo Z (starEach M Y)) []):=by intro _;rfl):aa T b X (.Call f M [] Z) (aQ g z):=by
 refine⟨?_⟩;intro A R W σ s x H C E v;obtain⟨B,σ₁,e,E⟩:=kb E;rw [D];refine aM (aK (q.1 A R W σ s _ σ C rfl v) fun I u Q N w U=>?_);rw [show u=.builtin id from w];refine nD (co (P _)) (cG (co (P _)) (bt (F.1 A R I σ Q B σ₁ Z C e U) (fun y S t=>?_) ay));obtain⟨J,O,G,V⟩:=t;exact dl (N.trans O) (r X A R J σ₁ S B y x H C E V G)
theorem aa.tcall{f:Expr}{M:List Expr}{Z:Pos}{id:String}{g:GR}{z:LR}(q:aa T b X f (ab (.val (.type id))))(F:ak T b X M z)(r:gb T b (.type id) g)
  (P:∀Y,(starEach M Y).any (·.1)=false:=by intro _;rfl)
  (D:∀Y,eval (.Call f M [] Z) Y=(do callWith Z (<-eval f Y) [] (backTo Z (starEach M Y)) []):=by intro _;rfl):aa T b X (.Call f M [] Z) (aQ g z):=by
 refine⟨?_⟩;intro A R W σ s x H C E v;obtain⟨B,σ₁,e,E⟩:=kb E;rw [D];refine aM (aK (q.1 A R W σ s _ σ C rfl v) fun I u Q N w U=>?_);rw [show u=.type id from w];refine AN (co (P _)) (cG (co (P _)) (bt (F.1 A R I σ Q B σ₁ Z C e U) (fun y S t=>?_) ay));obtain⟨J,O,G,V⟩:=t;exact dl (N.trans O) (r X A R J σ₁ S B y x H C E V G)
noncomputable def PH(Z:String):Option AO->Bool
 |some (.list _)=>decide (Z="list")
 |some (.dict _)=>decide (Z="dict")
 |some (.set _)=>decide (Z="set")
 |_=>false
noncomputable def HF(st:List (Nat×AO))(Z:String):PV->Bool
 |.str _=>decide (Z="str")
 |.int _=>decide (Z="int")
 |.loc i=>PH Z (st.lookup i)
 |_=>false
theorem LQ{Z:String}{p:PV}{u:Value}(h:HF σ.st Z p=true)(I:bQ T X R W σ s)(Q:bn W p u):s.TypeIs u Z/\∀a,u=.ref a->∃Y,s.heap.get? a=some Y/\Y.dict=none:=by
 cases p with
 |str x=>cases eJ h;obtain⟨t,rfl⟩:=Q;exact⟨gS _ _ _,fun a e=>nomatch e⟩
 |int x=>cases eJ h;obtain⟨t,rfl⟩:=Q;exact⟨zR _ _ _,fun a e=>nomatch e⟩
 |loc i=>
  obtain⟨E,rfl⟩:=Q;have h:PH Z (σ.st.lookup i)=true:=h;cases e:σ.st.lookup i with
  |none=>rw [e]at h;exact EJ h
  |some H=>
   rw [e]at h
   obtain⟨_,o,U,V⟩:=I.r.trk i _ e;have go {Z} (J:s.TypeIs (.ref (W.ρ i)) Z) (S:o.dict=none):s.TypeIs (.ref (W.ρ i)) Z/\∀a,Value.ref (W.ρ i)=.ref a->∃Y,s.heap.get? a=some Y/\Y.dict=none:=⟨J,fun a e=>⟨o,Value.ref.inj e▸U,S⟩⟩;cases H with
   |list O=>cases eJ h;obtain⟨G,n,rfl,_⟩:=V;exact go ⟨_,U,rfl⟩ rfl
   |cell _=>exact EJ h
   |dict N=>
    cases eJ h;obtain⟨M,V,_⟩:=V;have S:s.heap.DictOf (PySem.strKind T.prog T.w) (W.ρ i) M:=qd.mpr ⟨o,U,V _⟩;exact⟨S.typeIs,S.mapOf.noDict⟩
   |set O=>cases eJ h;obtain⟨F,_,P⟩:=V;exact go ⟨_,U,(P T.prog).1.1⟩ (P T.prog).1.2.1
 |_=>exact EJ h
noncomputable def aD(V:String)(f:ER)(Y:LR)(g:GR):ER:=ca f fun p σ=>if HF σ.st V p=true then aQ (fun Z=>g (p::Z)) Y σ else none
theorem aa.meth{o:Expr}{U:Str}{O V:Pos}{z:List Expr}{v id:String}{f:ER}{i:LR}{g:GR}(Q:PlainAttrs v)(N:Slot v U id)(q:typeOf (.builtin id)=pure (.type "method_descriptor"))
  (hf:aa T b X o f) (n:ak T b X z i) (hg:gb T b (.builtin id) g) (H:∀Z,attributeBase o U Z (eval o Z)=eval o Z:=by intro _;rfl)
  (J:∀Z,(((backTo V (starEach z Z)).all fun x=>!x.1)&&((backToKw V (keywordEach [] Z)).all fun x=>x.1.isSome)&&decide ((z.length+([]:List Keyword).length+if([]:List Keyword).isEmpty=true then 0 else 1)<30))=true:=by intro _;rfl)
  (D:∀Z,(starEach z Z).any (·.1)=false:=by intro _;rfl)
  (E:(O.endLine==V.line)=true:=by rfl):aa T b X (.Call (.Attribute o U O) z [] V) (aD v f i g):=by
 refine⟨?_⟩;intro A R W σ s h t m I d;obtain⟨p,σ₁,e,I⟩:=kX I;refine fO I fun a I=>?_
 obtain⟨k,Y,B,I⟩:=kb I;refine xk (H _) (J _) E rfl (aK (hf.1 A R W σ s p σ₁ m e d) fun w u F C j S=>?_);obtain⟨h1,h2⟩:=LQ a S j;refine⟨v,id,Q,N,q,h1,h2,?_⟩;refine nD (co (D _)) (cG (co (D _)) (bt (n.1 A R w σ₁ F k Y V m B S) (fun l G c=>?_) ay));obtain⟨y,P,r,M⟩:=c;exact dl (C.trans P) (hg X A R y Y G (p::k) (u::l) h t m I M ⟨u,l,rfl,j.mono P.ext,r⟩)
end
section
variable {T:Tp}{X:Cx}{R:Fz}{W:Wd}{σ:AS}{s:Shared}{b:Nat}{A:Around}
theorem cT(U:bQ T X R W σ s){i:Nat}{V:List PV}(e:σ.st.lookup i=some (.list V)):∃Z n,s.heap.get? (W.ρ i)=some {cls:=.type "list",data:=.seq Z n}/\aN W V Z.toList/\Z.size=V.length:=by
 obtain⟨_,o,S,Z,n,rfl,Y⟩:=U.r.trk i _ e;have h:=Y.length;simp only [ue]at h
 exact⟨Z,n,S,Y,h.symm⟩
noncomputable def IG:Option AO->Option Nat
 |some (.list Z)=>some Z.length
 |_=>none
noncomputable def RU(st:List (Nat×AO)):PV->Option Nat
 |.str x=>some x.length
 |.tup Z=>some Z.length
 |.fl Y=>some Y.length
 |.loc i=>IG (st.lookup i)
 |_=>none
noncomputable def dC:GR:=g1 fun p σ=>(RU σ.st p).bind fun n=>if n<=2^30 then some (.int n,σ)else none
theorem jN:gb T b (.builtin "len") dC:=by
 intro X A R W σ s N S C I y Y V M;refine EE Y M fun p u Y P=>cE Y fun n e Y=>fO Y fun U Y=>?_
 refine bv Y ?_
 have U:((n:Nat):Int)<9223372036854775808:=by exact aW 0x80000000000000003a4004a42100000000c000021 rfl U
 cases p with
 |str x=>cases e;obtain⟨t,rfl⟩:=P;exact SBL.len U (aT.same V (ed _ _))
 |tup N=>
  cases e;obtain⟨a,S,n,rfl,Y,J⟩:=P;have Q:N.length=S.size:=J.length;rw [Q]at U ⊢
  exact PyProof.Rows.len_tuple (t:=a) (items:=S) ⟨_,V.r.hF _ _ Y,rfl,n,rfl⟩ U (aT.same V (ed _ _))
 |fl B=>
  cases e;obtain⟨a,o,n,O,rfl,E,F,G,rfl⟩:=P;have Q:(O.map fun x=>Value.int x.1 x.2).toArray.size=(O.map (·.1)).length:=by rw [tW,db,db]
  rw [<-Q]at U ⊢
  exact HZ (l:=a) (items:=(O.map fun x=>Value.int x.1 x.2).toArray) ⟨_,V.r.hF _ _ E,F,n,G⟩ (by omega) (aT.same V (ed _ _))
 |loc i=>
  obtain⟨z,rfl⟩:=P;have e:IG (σ.st.lookup i)=some n:=e;cases Z:σ.st.lookup i with
  |none=>rw [Z]at e;exact aZ e
  |some D=>cases D with
   |list N=>
    rw [Z]at e
    cases e;obtain⟨S,n,H,J,Q⟩:=cT V Z;rw [<-Q]at U ⊢
    exact HZ (l:=W.ρ i) (items:=S) ⟨_,H,rfl,n,rfl⟩ (by omega) (aT.same V (ed _ _))
   |_=>rw [Z]at e;exact aZ e
 |_=>exact aZ e
noncomputable def sr:GR:=g1 (qR fun a σ=>if a.natAbs<2^1000 then some (.str (Str.ofString (toString a)),σ)else none)
theorem Fm:gb T b (.type "str") sr:=by
 intro X A R W σ s M O N U J Z Q Y;refine EE Z Y fun p u Z S=>fD Z S fun a t Z=>fO Z fun h Z=>bv Z ?_
 refine P.str_of_int ?_ (aT.same Q (nc _ _))
 by_cases V:a.natAbs=0
 .rw [V];decide
 .exact ow ((zx V).mpr h) (by decide)
noncomputable def PW:GR:=g1 (rW fun x σ=>(PySem.intText? x).bind fun n=>if x.length<=640 then some (.int n,σ)else none)
theorem SA:gb T b (.type "int") PW:=by
 intro X A R W σ s O Q P V N Z S Y;refine EE Z Y fun p u Z U=>iH Z U fun x t Z=>cE Z fun n e Z=>fO Z fun h Z=>bv Z ?_
 exact KIN.call_text e h (aT.same S (ed _ _))
noncomputable def vc:GR:=g2 fun p q=>qR (fun a=>qR (fun b σ=>if b≠0/\rM b=true then some (.tup [.int (Int.fdiv a b),.int (Int.fmod a b)],σ)else none) q) p
theorem GT:gb T b (.builtin "divmod") vc:=by
 intro X A R W σ s M P N V J Z Q Y;refine Kn Z Y fun p q u v Z S U=>fD Z S fun x t Z=>fD Z U fun y O Z=>fO Z fun h Z=>bv Z ?_
 refine PyProof.Rows.divmod_int h.1 ?_ (.inl (oU h.2))
 have h:=Q.newF (o:={cls:=.type "tuple",data:=.seq #[Value.int (Int.fdiv x y) s.toks,Value.int (Int.fmod x y) (s.toks+1)]}) rfl (s.toks+1+1);exact⟨_,h.1,⟨_,_,0,rfl,h.2.1,⟨_,_,rfl,ed _ _,_,_,rfl,ed _ _,rfl⟩⟩,h.2.2⟩
noncomputable def gD:GR:=g1 (qR fun a σ=>some (.int (Builtin.Int.intBits a),σ))
theorem rn:gb T b (.builtin "int.bit_length") gD:=by
 intro X A R W σ s O Q P V N Z S Y;exact EE Z Y fun p u Z U=>fD Z U fun x t Z=>bv Z (PyProof.Rows.call_int_bit_length (aT.same S (ed _ _)))
theorem bQ.keep(U:bQ T X R W σ s){h':Heap}(Y:∀c o,s.heap.get? c=some o->h'.get? c=some o)(k:Nat){Z:PV}{v:Value}(V:bn W Z v):aT T X R W s Z σ v {s with heap:=h',toks:=k}:=
 ⟨W,ci.keep Y,V,U.ext Y rfl rfl⟩
noncomputable def TK:PV->ER
 |.str _=>ab (.val (.type "str"))
 |.tup _=>ab (.val (.type "tuple"))
 |.loc i=>sJ i fun _ σ=>some (.val (.type "list"),σ)
 |_=>fun _=>none
noncomputable def DC:GR:=g1 TK
theorem FW:gb T b (.type "type") DC:=by
 intro X A R W σ s P Q O V G Z Y U;refine EE Z U fun p u Z S=>?_
 cases p with
 |str x=>obtain⟨t,rfl⟩:=S;exact bv Z (Ao (gS _ _ _) (by decide) (aT.same' Y rfl))
 |tup P=>obtain⟨a,Q,n,rfl,J,N⟩:=S;exact bv Z (Ao (Tx:="tuple") ⟨_,Y.r.hF _ _ J,rfl⟩ (by decide) (aT.same' Y rfl))
 |loc i=>
  obtain⟨H,rfl⟩:=S;have Z:sJ i (fun _ σ=>some (.val (.type "list"),σ)) σ=some (O,V):=Z;refine uk Z fun P e Z=>bv Z ?_
  obtain⟨Q,n,M,N,I⟩:=cT Y e;exact Ao (Tx:="list") ⟨_,M,rfl⟩ (by decide) (aT.same' Y rfl)
 |_=>exact aZ Z
noncomputable def Pa:GR:=g1 (qR fun n=>ab (.rng 0 n))
noncomputable def OT:GR:=g2 fun p q=>qR (fun a=>qR (fun b=>ab (.rng a b)) q) p
noncomputable def eC(Z:List PV):ER:=if Z.length=1 then Pa Z else OT Z
theorem jk:gb T b (.type "range") eC:=by
 intro X A R W σ s O M J Q I Z U Y;unfold eC at Z
 by_cases S:O.length=1
 .rw [aJ S]at Z
  refine EE Z Y fun p u Z V=>fD Z V fun n t Z=>bv Z (call_range_1 ?_)
  have h:=U.newF (o:={cls:=Value.type "range",data:=Data.fields #[Value.int 0 s.toks,Value.int n t,Value.int 1 (s.toks+1)]}) rfl (s.toks+1+1);exact⟨_,h.1,⟨_,_,_,_,rfl,h.2.1⟩,h.2.2⟩
 .rw [aO S]at Z
  refine Kn Z Y fun p q u v Z V N=>fD Z V fun x t Z=>fD Z N fun y P Z=>bv Z (call_range_2 ?_)
  have h:=U.newF (o:={cls:=Value.type "range",data:=Data.fields #[Value.int x t,Value.int y P,Value.int 1 s.toks]}) rfl (s.toks+1);exact⟨_,h.1,⟨_,_,_,_,rfl,h.2.1⟩,h.2.2⟩
noncomputable def gm:List PV->Option (List Int)
 |[]=>some []
 |.int a::Z=>(gm Z).map (a::·)
 |_::_=>none
theorem DN:gm []=(some []):=rfl
theorem Dy(a ps):gm (.int a::ps)=((gm ps).map (a::·)):=rfl
theorem Ey:∀{Z:List PV} {Y:List Int} {U:List Value},gm Z=some Y->aN W Z U->∃V:List (Int×Tok),U=V.map (fun p=>.int p.1 p.2)/\V.map (·.1)=Y:=by
 intro Z
 induction Z with
 |nil=>intro Y U e h;obtain rfl:=bc e;subst h;exact⟨[],rfl,rfl⟩
 |cons p Z P=>
  intro Y U e h;cases p with
  |int a=>
   obtain⟨v,S,rfl,⟨t,rfl⟩,O⟩:=h;obtain⟨Q,N,rfl⟩:=iO.mp (show(gm Z).map (a::·)=some Y from e);obtain⟨V,rfl,rfl⟩:=P N O;exact⟨(a,t)::V,rfl,rfl⟩
  |_=>exact aZ e
noncomputable def xg(Z:List Int):Bool:=Z.all fun n=>decide (n.natAbs<=2^30)
theorem tv:∀{Z:List (Int×Tok)},xg (Z.map (·.1))=true->∀j,(preSum (numAt Z.toArray) j).natAbs<=2^30*j/\(numAt Z.toArray j).natAbs<=2^30:=by
 intro Z h;have one:∀j,(numAt Z.toArray j).natAbs<=2^30:=fun j=>by
  unfold numAt;rw [Gr];cases q:Z[j]? with
  |none=>simp
  |some p=>exact eJ (fL.mp h p.1 (qY (iB q)))
 intro j;refine⟨?_,one j⟩
 induction j with
 |zero=>simp [preSum]
 |succ j Y=>exact bP (Gq _ _) (Nat.add_le_add Y (one j))
theorem ze:∀(Z:List (Int×Tok)),preSum (numAt Z.toArray) Z.length=(Z.map (·.1)).sum:=by
 intro Z;have Y:∀j,j<=Z.length->preSum (numAt Z.toArray) j=((Z.take j).map (·.1)).sum:=fun j=>by
  induction j with
  |zero=>intro _;rfl
  |succ j U=>
   intro V;rw [preSum,U (by exact(yI V)),List.take_succ,lx,List.sum_append];have:numAt Z.toArray j=Z[j].1:=by
    unfold numAt;rw [Gr];rw [fh (by exact(wz V))];rfl
   rw [this,fh (by exact(wz V))];simp<;>rfl
 rw [Y _ (bU _),IP]
noncomputable def Jd:GR:=g1 (Ee fun i=>sJ i fun Z σ=>(gm Z).bind fun Y=>if xg Y=true/\Z.length<=2^20 then some (.int Y.sum,σ)else none)
theorem Mh(i:Nat)(σ:AS):Jd [.loc i] σ=sJ i (fun Z σ=>(gm Z).bind fun Y=>if xg Y=true/\Z.length<=2^20 then some (.int Y.sum,σ)else none) σ:=rfl
theorem Ia{x:Int}{N:Nat}(h:x.natAbs<=N)(Z:N<2^63):InLong x:=by
 have V:=Int.le_natAbs (a:=x);have Y:=Int.le_natAbs (a:=-x);rw [Int.natAbs_neg]at Y
 exact⟨by exact Kq 0x10040000000000000001d2d404004810d40408000000000000000384010840000023 rfl h Z Y,by exact Kq 0x40000000000000001d20424200240840408000000000000000384010840000023 rfl h Z V⟩
theorem SB:gb T b (.builtin "sum") Jd:=by
 intro X A R W σ s N O w H C Z J Q;refine EE Z Q fun p u Z F=>pw Z F fun i Z r=>uk Z fun N e Z=>cE Z fun v S Z=>fO Z fun V Z=>bv Z ?_
 obtain⟨O,n,E,M,t⟩:=cT J e;obtain⟨Y,I,rfl⟩:=Ey S M;have y:O=intItems Y.toArray:=by
  unfold intItems;apply AJ.mp;rw [I];simp
 subst y;have U:Y.length=N.length:=by
  have:=M.length;rw [I]at this
  simpa using this.symm
 refine sum_intList (xs:=Y.toArray) C.hnd ⟨_,E,rfl,n,rfl⟩ (fun j D=>?_) fun o G x V=>?_
 .obtain⟨z,q⟩:=tv V.1 (j+1)
  obtain⟨_,B⟩:=tv V.1 j;have P:j<Y.length:=by simpa using D
  exact⟨Ia B (by decide),Ia (bP z (qF _ (show j+1<=2^20 by have:=V.2;exact cq 0x2000006084401002100801080010082000400000c000023 rfl V.2 U P))) (by decide)⟩
 .rw [show Y.toArray.size=Y.length from rfl,ze]
  exact J.keep V G (ed _ _)
end
section
open PySem.Builtin PySem.Builtin.Str
noncomputable def nC(x:Str):Bool:=Builtin.Str.tooLong x.length
noncomputable def sP(x y:Str)(i j:Int):Int:=match Builtin.Str.occurrences x y (fromIndex x.length i) (min (fromIndex x.length j) x.length) 1 with|k::_=>(k:Int)|[]=>-1
theorem xL(x y:Str)(i j:Int)(t u v w:Tok):Gives (Builtin.«str.find» ⟨[.str x t,.str y u,.int i v,.int j w],[]⟩) (.int (sP x y i j)):=by
 unfold sP;show Gives (match Builtin.Str.occurrences x y (fromIndex x.length i) (min (fromIndex x.length j) x.length) 1 with|k::_=>retInt k|[]=>(do rule "str.find.not-found";retInt (-1))) _;cases Builtin.Str.occurrences x y (fromIndex x.length i) (min (fromIndex x.length j) x.length) 1 with
 |nil=>exact .rule (.of_eq rfl)
 |cons k _=>exact .of_eq rfl
noncomputable def cR:GR:=g1 (rW fun x σ=>if nC (Txt.lower x)=false then some (.str (Txt.lower x),σ)else none)
noncomputable def dG:GR:=g1 (rW fun x σ=>if nC (Txt.upper x)=false then some (.str (Txt.upper x),σ)else none)
noncomputable abbrev g4(f:PV->PV->PV->PV->ER):GR
 |[p,q,r,u]=>f p q r u
 |_=>fun _=>none
noncomputable def Ba:GR:=g4 fun p q r u=>rW (fun x=>rW (fun y=>qR (fun i=>qR (fun j σ=>some (.int (sP x y i j),σ)) u) r) q) p
noncomputable def fR:GR:=g2 fun p q=>rW (fun x=>rW (fun y σ=>some (.int (Txt.rfind x y),σ)) q) p
noncomputable def vh:GR:=g2 fun p q=>rW (fun x=>rW (fun y σ=>some (.bool (Txt.startswith x y),σ)) q) p
noncomputable def CX:GR:=g2 fun p q=>rW (fun x=>rW (fun y σ=>some (.bool (Txt.endswith x y),σ)) q) p
section
variable {T:Tp}{X:Cx}{R:Fz}{W:Wd}{σ:AS}{s:Shared}{b:Nat}{A:Around}
@[elab_as_elim] theorem UP{M:List Value}{r:PV×AS}{G:List Value->Prop}{f:PV->PV->PV->PV->ER}{Z:List PV}(h:g4 f Z σ=some r)(J:aN W Z M)(k:∀N O P Q S U V Y,f N O P Q σ=some r->bn W N S->bn W O U->bn W P V->bn W Q Y->G [S,U,V,Y]):G M:=by
 cases Z with
 |nil=>exact aZ h
 |cons N Z=>cases Z with
  |nil=>exact aZ h
  |cons O Z=>cases Z with
   |nil=>exact aZ h
   |cons P Z=>cases Z with
    |nil=>exact aZ h
    |cons Q Z=>cases Z with
     |cons _ _=>exact aZ h
     |nil=>obtain⟨S,_,rfl,E,U,_,rfl,F,V,_,rfl,H,Y,_,rfl,I,rfl⟩:=J;exact k N O P Q S U V Y h E F H I
theorem ip:gb T b (.builtin "str.lower") cR:=by
 intro X A R W σ s O Q P V N Z S Y;exact EE Z Y fun p u Z U=>iH Z U fun x t Z=>fO Z fun h Z=>bv Z (SC.lower h (aT.same S (nc _ _)))
theorem mj:gb T b (.builtin "str.upper") dG:=by
 intro X A R W σ s O Q P V N Z S Y;exact EE Z Y fun p u Z U=>iH Z U fun x t Z=>fO Z fun h Z=>bv Z (SC.upper h (aT.same S (nc _ _)))
theorem OZ:gb T b (.builtin "str.find") Ba:=by
 intro X A R W σ s B I C V r Z P Y;exact UP Z Y fun u v w z D E G H Z J M N O=>iH Z J fun x t Z=>iH Z M fun y Q Z=>fD Z N fun i S Z=>fD Z O fun j U Z=>bv Z
  (call_gives mN (gS _ _ _) F.entry_str_find (F.args_str_find_4 _ _ _ _) (xL x y i j t Q S U) (aT.same P (ed _ _)))
theorem jC:gb T b (.builtin "str.rfind") fR:=by
 intro X A R W σ s M P N V J Z Q Y;exact Kn Z Y fun p q u v Z S U=>iH Z S fun x t Z=>iH Z U fun y O Z=>bv Z (SC.rfind (aT.same Q (ed _ _)))
theorem IH:gb T b (.builtin "str.startswith") vh:=by
 intro X A R W σ s M P N V J Z Q Y;exact Kn Z Y fun p q u v Z S U=>iH Z S fun x t Z=>iH Z U fun y O Z=>bv Z (SC.startswith (aT.same' Q (eW _)))
theorem Oo:gb T b (.builtin "str.endswith") CX:=by
 intro X A R W σ s M P N V J Z Q Y;exact Kn Z Y fun p q u v Z S U=>iH Z S fun x t Z=>iH Z U fun y O Z=>bv Z (SC.endswith (aT.same' Q (eW _)))
theorem zX{x y:Str}{t u:Tok}{Q:Value->Shared->Prop}{E:Value->Shared->Prop}{Y:Program}{w:World}(O:(y.length==0)=false)(S:x.length<=sizeLine)
  (V:(Builtin.Str.partsBetween x (Builtin.Str.occurrences x y 0 x.length (x.length+1)) y.length).length<=sizeLine)
  (P:∀(l:List (Str×Tok)) k,l.map (·.1)=Txt.split x y->Q (.ref s.heap.objs.size) {s with heap:=s.heap.push {cls:=.type "list",data:=.seq (strValues l).toArray},toks:=k}):
  wpAny (model Y w) A (call (.builtin "str.split") [.str x t,.str y u]) Q E s:=by
 cases Z:(decide (x.length<y.length)||decide (Builtin.Str.strKind x<Builtin.Str.strKind y))
 .cases U:(Builtin.Str.occurrences x y 0 x.length (x.length+1)).isEmpty
  .refine kj ul (gS _ _ _) AM (zV _ _) (meets_str_split_sep x y t u Z O U S V) ?_
   show wants Q E _ {s with toks:=_,heap:=s.heap.push {cls:=.type "list",data:=.seq (strsFrom s.toks (Builtin.Str.partsBetween x (Builtin.Str.occurrences x y 0 x.length (x.length+1)) y.length)).toArray}};rw [strsFrom_eq];exact P (numbered s.toks _) _ ((numbered_texts _ _).trans ((aO (Al Z)).trans (aO (Al U))).symm)
  .exact kj ul (gS _ _ _) AM (zV _ _) (meets_str_split_not_found x y t u Z O U)
    (P [(x,t)] s.toks ((aO (Al Z)).trans (aJ U)).symm)
 .exact kj ul (gS _ _ _) AM (zV _ _) (meets_str_split_cannot_occur x y t u Z)
   (P [(x,t)] s.toks (aJ Z).symm)
theorem ym:∀{l:List (Str×Tok)} {Z:List Str},l.map (·.1)=Z->aN W (Z.map .str) (strValues l)
 |[],_,h=>by subst h;rfl
 |(x,t)::l,_,h=>by
  subst h;exact⟨_,_,rfl,nc _ _,ym (l:=l) rfl⟩
noncomputable def zf:GR:=g2 fun p q=>rW (fun x=>rW (fun y σ=>if(y.length==0)=false/\x.length<=2^20/\(Builtin.Str.partsBetween x (Builtin.Str.occurrences x y 0 x.length (x.length+1)) y.length).length<=2^20 then
   some (.loc σ.nx,{σ with st:=(σ.nx,.list ((Txt.split x y).map .str))::σ.st,nx:=σ.nx+1})else none) q) p
theorem om(Z:bQ T X R W σ s){i:Nat}(e:i=σ.nx):bn (W.add s.heap.objs.size) (.loc i) (.ref s.heap.objs.size):=by
 subst e;refine⟨by rw [Z.nx];exact gQ _,?_⟩;show Value.ref _=.ref (if σ.nx=W.n then _ else _);rw [aJ Z.nx]
theorem Mz:gb T b (.builtin "str.split") zf:=by
 intro X A R W σ s J O M U I Z V Y;refine Kn Z Y fun p q u v Z Q S=>iH Z Q fun x t Z=>iH Z S fun y N Z=>fO Z fun h Z=>bv Z ?_
 refine zX h.1 (bP h.2.1 (by decide)) (bP h.2.2 (by decide)) fun l k P=>?_
 have h:=V.newId (o:={cls:=.type "list",data:=.seq (strValues l).toArray}) rfl (ao:=.list _) ⟨_,_,rfl,by simpa using ym P⟩ k;exact⟨_,h.1,om V rfl,h.2⟩
noncomputable def iJ:List PV->Option (List Str)
 |[]=>some []
 |.str a::Z=>(iJ Z).map (a::·)
 |_::_=>none
theorem DX:iJ []=(some []):=rfl
theorem Du(a ps):iJ (.str a::ps)=((iJ ps).map (a::·)):=rfl
theorem Dw:∀{Z:List PV} {Y:List Str} {U:List Value},iJ Z=some Y->aN W Z U->∃V:List (Str×Tok),U=strValues V/\V.map (·.1)=Y:=by
 intro Z
 induction Z with
 |nil=>intro Y U e h;obtain rfl:=bc e;subst h;exact⟨[],rfl,rfl⟩
 |cons p Z P=>
  intro Y U e h;cases p with
  |str a=>
   obtain⟨v,S,rfl,⟨t,rfl⟩,O⟩:=h;obtain⟨Q,N,rfl⟩:=iO.mp (show(iJ Z).map (a::·)=some Y from e);obtain⟨V,rfl,rfl⟩:=P N O;exact⟨(a,t)::V,rfl,rfl⟩
  |_=>exact aZ e
noncomputable def jY:GR:=g2 fun p q=>rW (fun x=>Ee (fun i=>sJ i fun Y σ=>(iJ Y).bind fun Z=>if JoinOk x Z=true then some (.str (Txt.join x Z),σ)else none) q) p
theorem wr(x:Str)(i:Nat)(σ:AS):jY [.str x,.loc i] σ=sJ i (fun Y σ=>(iJ Y).bind fun Z=>if JoinOk x Z=true then some (.str (Txt.join x Z),σ)else none) σ:=rfl
theorem qk:gb T b (.builtin "str.join") jY:=by
 intro X A R W σ s N S E P z Z Q V;refine Kn Z V fun p q u v Z M U=>iH Z M fun x t Z=>pw Z U fun i Z B=>uk Z fun N e Z=>cE Z fun G Y Z=>fO Z fun I Z=>bv Z ?_
 obtain⟨S,n,J,U,C⟩:=cT Q e;obtain⟨O,H,rfl⟩:=Dw Y U;refine SC.join (l:=O) (D:=W.ρ i) ⟨_,J,rfl,n,?_⟩ rfl I fun F k=>aT.same Q (nc _ _)
 show Data.seq S n=_
 congr 1
 apply AJ.mp;rw [H]
noncomputable def jj(f:ER)(y z:Str):ER:=ca f (rW fun x σ=>if stripSame Unicode.isSpace false true x=false/\x.length<=2^20/\(Txt.rstrip x).length<=2^20/\z.length<=14/\(y==z)=false then some (.str (Txt.replace (Txt.rstrip x) y z),σ)else none)
theorem wQ{x:Str}{t:Tok}{Q:Value->Shared->Prop}{E:Value->Shared->Prop}{Z:Program}{w:World}(V:stripSame Unicode.isSpace false true x=false)(Y:x.length<=sizeLine)
  (h:Q (.str (Txt.rstrip x) s.toks) {s with toks:=s.toks+1}):wpAny (model Z w) A (call (.builtin "str.rstrip") [.str x t]) Q E s:=by
 have e:Txt.rstrip x=PySem.stripped Unicode.isSpace false true x:=by
  unfold Txt.rstrip Txt.stripBy;rw [V];rfl
 refine call_gives IC (gS _ _ _) F.entry_str_rstrip (F.args_str_rstrip_1 _) (gives_str_rstrip x t) ?_
 rw [V];rw [aO iA];refine⟨?_,by rw [<-e];exact h⟩;exact fits_stripped _ _ _ Y
theorem aa.stripRepl{o:Expr}{V Y N Z:Pos}{y z:Str}{k G:Nat}{p H:Pos}{f:ER}(v:aa T b X o f)
  (P:∀O,attributeBase o "rstrip" O (eval o O)=eval o O:=by intro _;rfl)
  (M:(V.endLine==N.line)=true:=by rfl) (S:(Y.endLine==Z.line)=true:=by rfl):
  aa T b X (.Call (.Attribute (.Call (.Attribute o "rstrip" V) [] [] N) "replace" Y) [.Constant (.str y) k p,.Constant (.str z) G H] [] Z) (jj f y z):=by
 refine⟨?_⟩;intro A R W σ s i C n Q w;obtain⟨q,σ₁,e,Q⟩:=kX Q;refine xk rfl rfl S rfl ?_
 refine xk (P _) rfl M rfl (aK (v.1 A R W σ s _ _ n e w) fun I u D J B U=>?_);refine iH Q B fun x t Q=>fO Q fun h Q=>bv Q ?_
 refine⟨"str",_,cr,IC,F.type_str_rstrip,gS _ _ _,(fun _ e=>nomatch e),?_⟩;refine nD rfl (cG rfl (rK ?_));refine wQ h.1 (bP h.2.1 (by decide)) ?_
 refine⟨"str",_,cr,F.slot_str_replace,F.type_str_replace,gS _ _ _,(fun _ e=>nomatch e),?_⟩;have E:backTo Z (starEach [.Constant (.str y) k p,.Constant (.str z) G H] X.env)=[(false,eval (.Constant (.str y) k p) X.env),(false,eval (.Constant (.str z) G H) X.env)]:=rfl;rw [E];refine nD rfl (vB (qM (zC (qM (zC (rK ?_))))));have r:(Txt.rstrip x).length+((Txt.rstrip x).length+1)*z.length<=16777216:=by
  have g:=h.2.2.1;have l:=h.2.2.2.1;have m:((Txt.rstrip x).length+1)*z.length<=(2^20+1)*14:=nM (by exact(aW 0x2000026084001002000400000c000021 rfl h.2.2.1)) l;exact bD 0x20000006080001002003800038c10002000400000c000022 rfl h.2.2.1 m
 exact SC.replace (Aq _) (Aq _) (fH (gQ _)) h.2.2.2.2 r fun j k=>⟨I,J,nc _ _,U.tok k⟩
end
end
section
open PySem.Builtin PySem.Builtin.Str
noncomputable abbrev PR:=AS->Option (Option Int×AS)
structure fX(T:Tp)(b:Nat)(X:Cx)(e:Option Expr)(f:PR):Prop where
 go:
  ∀A R W σ s oi σ',fJ b A->f σ=some (oi,σ')->bQ T X R W σ s->
   wpAny (model T.prog T.w) A (evalPart e X.env) (fun v s'=>∃W',ci W s.heap W' s'.heap/\(∃l:Option (Int×Tok),v=partValue l/\l.map (·.1)=oi)/\bQ T X R W' σ' s') bg s
noncomputable def gh:PR:=fun σ=>some (none,σ)
noncomputable def TX(p:PV)(σ:AS):Option (Option Int×AS):=match p with|.int i=>some (some i,σ)|_=>none
noncomputable def eV(f:ER):PR:=eY f TX
noncomputable def pX(Z:List PV)(lo Y:Option Int):List PV:=
 (sliceRange (sliceBounds lo Y none Z.length).1 (sliceBounds lo Y none Z.length).2.1 (sliceBounds lo Y none Z.length).2.2).filterMap (Z[·]?)
noncomputable def Ae(p:PV)(lo Y:Option Int):ER:=match p with
 |.str x=>fun σ=>if x.length<=2^20 then some (.str (Txt.slice x lo Y),σ)else none
 |.loc i=>sJ i fun Z σ=>if Z.length<=2^20 then some (.loc σ.nx,{σ with st:=(σ.nx,.list (pX Z lo Y))::σ.st,nx:=σ.nx+1})else none
 |_=>fun _=>none
noncomputable def eb(f:ER)(l u:PR):ER:=eY f fun p=>eY l fun lo=>eY u fun Z=>Ae p lo Z
section
variable {T:Tp}{X:Cx}{R:Fz}{W:Wd}{σ:AS}{s:Shared}{b:Nat}{A:Around}
theorem fX.no:fX T b X Option.none gh:=by
 refine⟨?_⟩;intro A R W σ s U Z S V Y;cases V;exact bI ⟨W,ci.refl ..,⟨none,rfl,rfl⟩,Y⟩
theorem fX.yes{e:Expr}{f:ER}(h:aa T b X e f):fX T b X (Option.some e) (eV f):=by
 refine⟨?_⟩;intro A R W σ s M U P Y Q;obtain⟨p,σ₁,Z,Y⟩:=aX Y;cases p with
 |int i=>cases Y;exact bt (h.1 A R W σ s _ _ P Z Q) (fun v N ⟨O,g,⟨t,S⟩,V⟩=>⟨O,g,⟨some (i,t),S,rfl⟩,V⟩) ay
 |_=>exact aZ Y
theorem aN.pick{V:List PV}{Y:List Value}(h:aN W V Y):∀Z:List Nat,aN W (Z.filterMap (V[·]?)) (Z.filterMap (Y[·]?))
 |[]=>rfl
 |i::Z=>by
  cases e:V[i]? with
  |none=>
   have Q:Y[i]?=none:=by
    rw [Gm]at e ⊢
    rw [<-h.length];exact e
   simp only [lz,e,Q];exact aN.pick h Z
  |some p=>
   obtain⟨v,S,U⟩:=h.get e;simp only [lz,e,S];exact⟨v,_,rfl,U,aN.pick h Z⟩
theorem Bj{l:Option (Int×Tok)}:IsPart (partValue l) (l.map (·.1)):=by
 cases l with
 |none=>exact .none
 |some p=>exact .int _ _
theorem Dq{Z:Program}{w:World}{A:Around}{E:Value->Shared->Prop}{s:Shared}{N:Env}{Y:Expr}{S V:Option Expr}{p H:Pos}{Q:Value->Shared->Prop}
  (h:wpAny (model Z w) A (eval Y N) (fun o O=>wpAny (model Z w) A (eval (.Slice S V Option.none p) N) (fun i U=>ItemOn (model Z w) A E o i Q U) E O) E s):
  wpAny (model Z w) A (eval (.Subscript Y (.Slice S V Option.none p) H) N) Q E s:=by
 rw [eval_Subscript];refine aM (bt h (fun o O I=>?_) fun _ _ x=>x);refine aM (fZ (bt I (fun i U J=>?_) fun _ _ x=>x));refine aM (ic ?_);obtain⟨C,id,F,G,D⟩:=J;have fin:wpAny (model Z w) A (operate [i,o] (getItem o i)) (fun r P=>wpAny (model Z w) A (letTemporaryGo Y o r >>= fun _=>pure r) Q E P) E U:=
  wpAny_operating (bt D (fun r P M=>aM (wpAny_letTemporaryGo (bI M))) fun _ _ x=>x)
 refine aM ?_
 rw [getitemInPython_of_ne G.not_modules];refine aM (yS G F ?_)
 first
  |exact bI (aM fin)
  |exact aM (bI (aM fin))
  |exact aM fin
theorem aa.slice{P:Expr}{J N:Option Expr}{p z2:Pos}{f:ER}{l u:PR}(h:aa T b X P f)(hl:fX T b X J l)(hu:fX T b X N u):aa T b X (.Subscript P (.Slice J N Option.none p) z2) (eb f l u):=by
 refine⟨?_⟩;intro A R W σ s pv z1 hA V hr;obtain⟨q,σ₁,c,V⟩:=aX V;obtain⟨lo,Q,d,V⟩:=aX V;obtain⟨hi,U,e,V⟩:=aX V;refine Dq (aK (h.1 A R W σ s q σ₁ hA c hr) fun z0 o r j ho w=>?_);refine wpAny_Slice (bt (hl.1 A R z0 σ₁ r lo Q hA d w) (fun lv v hq=>?_) ay);obtain⟨a,B,⟨M,rfl,G⟩,y⟩:=hq;refine bt (hu.1 A R a Q v hi U hA e y) (fun uv Y hq=>bI ?_) ay;obtain⟨S,C,⟨O,rfl,I⟩,z⟩:=hq;have H:=ho.mono (B.trans C).ext;have hg:=(j.trans B).trans C;have Z:bQ T X R S U {Y with heap:=Y.heap.push {cls:=.type "slice",data:=.fields #[partValue M,partValue O,.none]},toks:=Y.toks}:=z.push _ _;have E:ci W s.heap S (Y.heap.push {cls:=.type "slice",data:=.fields #[partValue M,partValue O,.none]}):=hg.trans (ci.push ..);cases q with
 |str x=>
  obtain⟨t,rfl⟩:=H;refine fO V fun hx V=>bv V ?_
  refine⟨"str",_,F.slot_str_getitem.lookup,gS _ _ _,wpAny_getItem_str_slice (l:=M) (u:=O) (st:=Option.none) ⟨_,im _ rfl,rfl,rfl⟩ rfl
   (post_val_or_str ⟨bP (Txt.slice_le x _ _) (bP hx (by decide)),fun t' k=>?_⟩)⟩
  subst G I;exact⟨S,E,nc _ _,Z.tok k⟩
 |loc i=>
  obtain⟨z4,rfl⟩:=H;have V:sJ i (fun ps σ=>if ps.length<=2^20 then some (.loc σ.nx,{σ with st:=(σ.nx,.list (pX ps lo hi))::σ.st,nx:=σ.nx+1})else Option.none) U=some (pv,z1):=V;refine uk V fun ps g V=>fO V fun hn V=>bv V ?_
  obtain⟨vs,n,m,z3,D⟩:=cT Z g;refine⟨"list",_,slot_list_getitem.lookup,(show Heap.IsList _ _ vs from⟨_,m,rfl,n,rfl⟩).typeIs,?_⟩;refine wpAny_getItem_list_slice (items:=vs) ⟨_,m,rfl,n,rfl⟩ (Jn ..) Bj Bj .none (by exact(fun h=>aZ h)) ?_ (by rw [D];exact bP hn (by decide))
  rw [G,I];have hz:=Z.newId (o:={cls:=.type "list",data:=.seq (slicePick vs lo hi Option.none)}) rfl (ao:=.list (pX ps lo hi)) ⟨_,_,rfl,?_⟩ Y.toks
  .exact⟨_,E.trans hz.1,om Z rfl,hz.2⟩
  .refine aN.mono (Wd.add_ext S _) ?_
   unfold slicePick pX;rw [D]
   simpa using z3.pick _
 |_=>exact aZ V
noncomputable def dA.stored'(Z:List (Str×PV))(k:Str)(v:PV):List (Str×PV):=
 if Z.any (fun Y=>Y.1==k)then Z.map (fun Y=>if Y.1==k then(Y.1,v)else Y)else Z++[(k,v)]
noncomputable def yo(i:Nat)(n:Int)(v:PV)(σ:AS):Option AS:=match σ.st.lookup i with
 |some (.list Z)=>if 0<=n/\n<Z.length/\Z.length<=2^20 then some {σ with st:=aG σ.st i (.list (Z.set n.toNat v))}else none
 |_=>none
noncomputable def Gl(i:Nat)(x:Str)(v:PV)(σ:AS):Option AS:=match σ.st.lookup i with
 |some (.dict Z)=>if Z.length<=2^20 then some {σ with st:=aG σ.st i (.dict (dA.stored' Z x v))}else none
 |_=>none
noncomputable def dA(o k v:PV)(σ:AS):Option AS:=match o with
 |.loc i=>(match k with
  |.int n=>yo i n v σ
  |.str x=>Gl i x v σ
  |_=>none)
 |_=>none
theorem pI(V:bQ T X R W σ s){i:Nat}{Z ps:List PV}{Y:Array Value}{n:Nat}(e:σ.st.lookup i=some (.list Z))(U:s.heap.get? (W.ρ i)=some {cls:=.type "list",data:=.seq Y n})
  {f:Array Value->Array Value} (S:aN W ps (f Y).toList) (k:Nat):ci W s.heap W (s.heap.update (W.ρ i) (Obj.mapSeq f))/\bQ T X R W {σ with st:=aG σ.st i (.list ps)} {s with heap:=s.heap.update (W.ρ i) (Obj.mapSeq f),toks:=k}:=
 V.updId e (uI ..) (IsL.update (items:=Y) (n:=n) U f) (ao:=.list ps) ⟨_,_,rfl,S⟩ k
theorem zt:∀{Z:List (Str×PV)} {Y:List (Str×Value)},Y.map (·.1)=Z.map (·.1)->aN W (Z.map (·.2)) (Y.map (·.2))->∀{x:Str} {p:PV} {v:Value},bn W p v->
  ((stored Y x v).map (·.1)=(dA.stored' Z x p).map (·.1)/\aN W ((dA.stored' Z x p).map (·.2)) ((stored Y x v).map (·.2))):=by
 intro Z Y Q N x p v J;have U:Y.any (fun Y=>decide (Y.1=x))=Z.any (fun Y=>Y.1==x):=by
  have D:Y.any (fun Y=>decide (Y.1=x))=(Y.map (·.1)).any (fun k=>decide (k=x)):=by rw [vF];rfl
  have E:Z.any (fun Y=>Y.1==x)=(Z.map (·.1)).any (fun k=>decide (k=x)):=by
   rw [vF];rfl
  rw [D,E,Q]
 unfold stored dA.stored';rw [U]
 split
 .rename_i F
  clear U F
  induction Z generalizing Y with
  |nil=>
   cases Y with
   |nil=>exact⟨rfl,rfl⟩
   |cons _ _=>exact EG Q
  |cons y Z G=>
   cases Y with
   |nil=>exact Ru Q
   |cons z Y=>
    rw [eh,eh]at Q
    injection Q with V M
    rw [eh,eh]at N
    obtain⟨u,w,e,O,P⟩:=N;injection e with B C
    subst B C;obtain⟨H,I⟩:=G M P;refine⟨?_,?_⟩
    .simp only [eh]
     rw [H]
     congr 1
     by_cases h:y.1=x
     .have S:z.1=x:=V.trans h
      simp [h,S]
     .have S:¬z.1=x:=fun q=>h (V.symm.trans q)
      simp [h,S,V]
    .simp only [eh]
     refine⟨_,_,rfl,?_,I⟩
     by_cases h:y.1=x
     .have S:z.1=x:=V.trans h
      simp [h,S,J]
     .have S:¬z.1=x:=fun q=>h (V.symm.trans q)
      simp [h,S,O]
 .refine⟨by rw [lx,lx,Q];rfl,?_⟩
  rw [lx,lx];exact N.append ⟨_,_,rfl,J,rfl⟩
theorem uF{o:Obj}{V:List (Str×Value)}{Y:Program}{w:World}(h:o.IsDictOf (PySem.strKind Y w) V):∀Z,o.IsDictOf (PySem.strKind Z w) V:=by
 intro Z;obtain⟨O,J,M,P,Q,S,U⟩:=h;refine⟨O,J,M,P,Q,?_,U⟩;clear P Q U;generalize O.toList=l at S
 induction S with
 |nil=>exact .nil
 |cons a c d N=>exact .cons a c N
theorem mY(Q:bQ T X R W σ s){o k p:PV}{u v x:Value}{Y:AS}(Z:dA o k p σ=some Y)(l:bn W o u)(E:bn W k v)(F:bn W p x):
  wpAny (model T.prog T.w) A (setItem u v x) (ke T X R W s Y) bg s:=by
 cases o with
 |loc i=>
  obtain⟨hi,rfl⟩:=l;cases k with
  |int n=>
   obtain⟨t,rfl⟩:=E;have Z:yo i n p σ=some Y:=Z;unfold yo at Z
   cases e:σ.st.lookup i with
   |none=>rw [e]at Z;exact aZ Z
   |some O=>cases O with
    |list H=>
     rw [e]at Z
     refine fO Z fun V Z=>?_
     cases Z;obtain⟨C,m,P,N,g⟩:=cT Q e;refine PySem.W.ki_setAt (items:=C) (n:=m) P V.1 (by have:=V.2.1;have:=V.2.2;exact uV 0x20000000000000000e9021210002000006000010012042422 rfl V.2.1 V.2.2) (by rw [g];exact V.2.1) ?_
     have h:=pI Q e P (ps:=H.set n.toNat p) (f:=(·.setIfInBounds n.toNat x)) (by simpa using N.set F) s.toks;exact⟨W,h.1,h.2⟩
    |_=>rw [e]at Z;exact aZ Z
  |str y=>
   obtain⟨t,rfl⟩:=E;have Z:Gl i y p σ=some Y:=Z;unfold Gl at Z
   cases e:σ.st.lookup i with
   |none=>rw [e]at Z;exact aZ Z
   |some O=>cases O with
    |dict U=>
     rw [e]at Z
     refine fO Z fun V Z=>?_
     cases Z;obtain⟨_,q,P,G,a,D,c⟩:=Q.r.trk i _ e;have d:s.heap.DictOf (PySem.strKind T.prog T.w) (W.ρ i) G:=qd.mpr ⟨q,P,a _⟩;have S:G.length=U.length:=by simpa using bw List.length D
     refine wpAny_setItem_pairs (k:=y) (by show Value.isStrOf y (.str y t)=true;simp [Value.isStrOf]) d (fun h' I j=>?_) (by rw [S];exact bP V (by decide));obtain⟨o',M,J⟩:=qd.mp I;obtain⟨z,B⟩:=zt D c F (x:=y);have h:=Q.updId e j M (ao:=.dict (dA.stored' U y p)) ⟨_,uF J,z,B⟩ (s.toks+1);exact⟨W,h.1,h.2⟩
    |_=>rw [e]at Z;exact aZ Z
  |_=>exact aZ Z
 |_=>exact aZ Z
noncomputable def wT(fo Z:ER):TR:=fun p=>eY fo fun o=>eY Z fun k=>dA o k p
theorem aA.sub{o i:Expr}{J:Pos}{fo G:ER}(h:aa T b X o fo)(y:aa T b X i G):aA T b X (.Subscript o i J) (wT fo G):=by
 refine⟨?_⟩;intro A R W σ s p v E H P C D;obtain⟨q,σ₁,N,P⟩:=aX P;obtain⟨k,V,O,P⟩:=aX P;refine Fw (aK (h.1 A R W σ s q σ₁ H N C) fun M x Q Y B S=>?_);refine aK (y.1 A R M σ₁ Q k V H O S) fun F w I Z z U=>?_
 exact uo (Y.trans Z) (mY U P (B.mono Z.ext) z (D.mono (Y.trans Z).ext))
end
end
section
open PySem.Builtin PySem.Builtin.Str
noncomputable def bu:GR:=g2 fun o p=>Ee (fun i=>Ew i fun Z σ=>some (.none,{σ with st:=aG σ.st i (.list (Z++[p]))})) o
noncomputable def Ux:GR:=g1 (Ee fun i=>Ew i fun Z σ=>Z.getLast?.bind fun p=>some (p,{σ with st:=aG σ.st i (.list Z.dropLast)}))
noncomputable def TC:GR:=g2 fun o q=>Ee (fun i=>qR (fun k=>Ew i fun Z σ=>if -(2^62)<=k/\k<2^62 then(seqIndex? k Z.length).bind fun j=>Z[j]?.bind fun p=>some (p,{σ with st:=aG σ.st i (.list (Z.eraseIdx j))})else none) q) o
noncomputable def vM(Z:List PV):ER:=if Z.length=1 then Ux Z else TC Z
noncomputable def mL:GR:=g1 (Ee fun i=>Ew i fun Z σ=>some (.none,{σ with st:=aG σ.st i (.list Z.reverse)}))
section
variable {T:Tp}{X:Cx}{R:Fz}{W:Wd}{σ:AS}{s:Shared}{b:Nat}{A:Around}
theorem aN.eraseIdx:∀{Y:List PV} {Z:List Value},aN W Y Z->∀j,aN W (Y.eraseIdx j) (Z.eraseIdx j)
 |[],Z,h,j=>by rw [show Z=[]from h];rfl
 |p::Y,Z,h,0=>by obtain⟨v,V,rfl,S,U⟩:=h;exact U
 |p::Y,Z,h,j+1=>by obtain⟨v,V,rfl,S,U⟩:=h;exact⟨v,_,rfl,S,aN.eraseIdx U j⟩
theorem aN.reverse:∀{Y:List PV} {Z:List Value},aN W Y Z->aN W Y.reverse Z.reverse
 |[],Z,h=>by rw [show Z=[]from h];rfl
 |p::Y,Z,h=>by
  obtain⟨v,V,rfl,S,U⟩:=h;rw [yN,yN];exact(aN.reverse U).append ⟨v,[],rfl,S,rfl⟩
theorem lI{Z:Array Value}{j:Nat}:(Z.eraseIdxIfInBounds j).toList=Z.toList.eraseIdx j:=by
 obtain⟨l⟩:=Z;unfold Array.eraseIdxIfInBounds
 split
 .simp
 .rename_i h
  simp only [tW]at h
  rw [List.eraseIdx_of_length_le (by simpa using h)]
theorem Bi{k:Int}(Z:-(2^62)<=k/\k<2^62):Builtin.List.listFitsIndex k=true:=by
 unfold Builtin.List.listFitsIndex;rw [dw];exact⟨dO (by exact(OD Z.1)),dO (by exact(OM Z.2))⟩
theorem dL:gb T b (.builtin "list.append") bu:=by
 intro X A R W σ s S U F P C Y Q Z;refine Kn Y Z fun o p u v Y N O=>pw Y N fun i Y D=>DK Y fun S e H Y=>bv Y ?_
 obtain⟨U,n,I,Z,G⟩:=cT Q e;refine wpAny_list_append_plain (items:=U) ⟨n,I⟩ (fun B J M=>?_) (by rw [G];exact bP H (by decide));obtain⟨E,V⟩:=J;have h:=Q.updId e M V (ao:=.list (S++[p])) ⟨_,_,rfl,by rw [Iz];exact Z.append ⟨v,[],rfl,O,rfl⟩⟩ s.toks;exact⟨W,h.1,Bb,h.2⟩
theorem NF:gb T b (.builtin "list.pop") vM:=by
 intro X A R W σ s V P o C m Z N Y;unfold vM at Z
 by_cases O:V.length=1
 .rw [aJ O]at Z
  refine EE Z Y fun q u Z I=>pw Z I fun i Z w=>DK Z fun V e E Z=>cE Z fun p G Z=>bv Z ?_
  obtain⟨P,n,S,Y,Q⟩:=cT N e;have H:V[V.length-1]?=some p:=by rw [<-Ij];exact G
  obtain⟨y,J,U⟩:=Y.get H;have D:V.dropLast=V.eraseIdx (V.length-1):=by rw [List.eraseIdx_length_sub_one]
  refine kj tZ ⟨_,S,rfl⟩ EM (F.args_list_pop_1 _) (MeetsSeq.list_pop_last (W.ρ i) P n y (by rw [Q];simpa using J) (by rw [Q];exact bP E (by decide))) ⟨S,?_⟩;have h:=pI N e S (ps:=V.dropLast) (f:=fun M=>M.eraseIdxIfInBounds (P.size-1)) (by rw [lI,Q,D];exact Y.eraseIdx _) s.toks;exact⟨W,h.1,U,h.2⟩
 .rw [aO O]at Z
  refine Kn Z Y fun q r u v Z I B=>pw Z I fun i Z w=>fD Z B fun k t Z=>DK Z fun V e E Z=>fO Z fun z Z=>cE Z fun j x Z=>cE Z fun p G Z=>bv Z ?_
  obtain⟨P,n,S,Y,Q⟩:=cT N e;obtain⟨y,J,U⟩:=Y.get G;refine kj tZ ⟨_,S,rfl⟩ EM (F.args_list_pop_2 _ _) (MeetsSeq.list_pop_at (W.ρ i) P n k t j y (Bi z) (Q▸x) (by simpa using J) (by rw [Q];exact bP E (by decide))) ⟨S,?_⟩;have h:=pI N e S (ps:=V.eraseIdx j) (f:=fun M=>M.eraseIdxIfInBounds j) (by rw [lI];exact Y.eraseIdx _) s.toks;exact⟨W,h.1,U,h.2⟩
theorem Ep:gb T b (.builtin "list.reverse") mL:=by
 intro X A R W σ s V S I P G Y Q Z;refine EE Y Z fun q u Y N=>pw Y N fun i Y H=>DK Y fun V e M Y=>bv Y ?_
 obtain⟨S,n,U,Z,J⟩:=cT Q e;refine kj HP ⟨_,U,rfl⟩ F.entry_list_reverse (F.args_list_reverse_1 _) (AutoSeq1.list_reverse_list_0 (W.ρ i) S n (by rw [J];exact bP M (by decide))) ⟨U,?_⟩;have h:=pI Q e U (ps:=V.reverse) (f:=fun O=>O.reverse) (by simpa using Z.reverse) s.toks;exact⟨W,h.1,Bb,h.2⟩
noncomputable def Nm:ER:=fun σ=>some (.loc σ.nx,{σ with st:=(σ.nx,.dict [])::σ.st,nx:=σ.nx+1})
theorem aa.dict{Z:Pos}:aa T b X (.Dict [] [] Z) Nm:=by
 refine⟨?_⟩;intro A R W σ s P U O S V;cases S;refine wpAny_Dict_empty ?_
 have h:=V.newId (o:={cls:=Value.type "dict",data:=Data.dict #[]}) rfl (ao:=.dict []) ⟨[],fun Y=>?_,rfl,rfl⟩ s.toks
 .exact⟨_,h.1,om V rfl,h.2⟩
 .exact⟨#[],0,⟨rfl,rfl,rfl⟩,rfl,fun _ Q=>by simp at Q,.nil,on⟩
noncomputable def wj(Z:List PV)(n:Nat):List PV:=(List.replicate n Z).flatten
noncomputable def Bp(o q:PV):ER:=Ee (fun i=>qR (fun n=>Ew i fun Z σ=>if 0<=n/\n<2^20/\Z.length*n.toNat<=2^20 then some (.loc σ.nx,{σ with st:=(σ.nx,.list (wj Z n.toNat))::σ.st,nx:=σ.nx+1})else none) q) o
theorem aN.rep{Y:List PV}{Z:List Value}(h:aN W Y Z):∀n,aN W (wj Y n) (List.replicate n Z).flatten
 |0=>rfl
 |n+1=>by
  unfold wj;rw [tb,tb,qX,qX];exact h.append (aN.rep h n)
theorem Pw:bC T b (binaryOp .Mult) Bp:=by
 intro X A R W σ s p q u v l E f Y J y z;refine pw Y y fun i Y g=>fD Y z fun n t Y=>DK Y fun G e j Y=>fO Y fun I Y=>bv Y ?_
 obtain⟨Z,m,O,Q,x⟩:=cT J e;have P:Z.size*n.toNat<=2^20:=by rw [x];exact I.2.2
 refine wpAny_binaryOp_repeat_ref (T:="list") (U:="int") (by decide) ⟨_,O,rfl⟩ (fun C=>zR C n t) noFill_list_mul F.fills_int_mul Jt repeat_list F.slot_int_index.lookup
  (kj Jt (zR s n t) F.entry_int_rmul (F.args_int_rmul_2 _ _) (int___rmul___int_list n t (W.ρ i) Z m)
   ⟨O,rfl,⟨_,O,rfl⟩,kj F.slot_list_mul ⟨_,O,rfl⟩ F.entry_list_mul (F.args_list_mul_2 _ _)
    (AutoListH.list___mul___list_int_3 (W.ρ i) Z m n t (by simp [Builtin.List.listFitsIndex];exact⟨mh 0x401000000000000000074b501020014a021 rfl I.1,mh 0x80000000000000003a40848400080000192042421 rfl I.2.1⟩) (by exact(fun D=>aW 0xfffffffffffffff3842000400000c000022 rfl P D)) (by simp [Builtin.List.listTooLong,sizeLine];exact aW 0x4000000c00002000400000c000021 rfl P))
    ⟨O,?_⟩⟩)
 have h:=J.newId (o:={cls:=.type "list",data:=.seq (List.foldl (fun M N=>M++N) #[] (List.replicate (if Z.isEmpty=true then 0 else n.toNat) Z))}) rfl (ao:=.list (wj G n.toNat)) ⟨_,_,rfl,?_⟩ s.toks
 .exact⟨_,h.1,om J rfl,h.2⟩
 .refine aN.mono (Wd.add_ext W _) ?_
  have H:∀(k:Nat) (V:Array Value),(List.foldl (fun M N=>M++N) V (List.replicate k Z)).toList=V.toList++(List.replicate k Z.toList).flatten:=by
   intro k
   induction k with
   |zero=>intro V;simp
   |succ k B=>intro V;rw [tb,Aj,B,tb,qX,IF,nU]
  rw [H]
  by_cases S:Z.isEmpty=true
  .rw [aJ S]
   have r:Z.toList=[]:=by simpa using S
   have w:G=[]:=by
    have:=Q.length;rw [r]at this
    exact List.eq_nil_of_length_eq_zero this
   subst w;have:wj [] n.toNat=[]:=by unfold wj;simp
   rw [this];rfl
  .rw [aO S]
   simpa using Q.rep n.toNat
noncomputable def pE(fo U V:ER)(g:PV->PV->ER):SR:=eY fo fun o=>eY U fun k=>eY (aH o k) fun Y=>eY V fun v=>eY (g Y v) fun new σ=>(dA o k new σ).bind fun Z=>some (.next,Z)
theorem ax.augSub{o i U:Expr}{x z6:Pos}{op:Operator}{fo fi fv:ER}{g:PV->PV->ER}(ho:aa T b X o fo)(hi:aa T b X i fi)(hv:aa T b X U fv)(hg:bC T b (inplaceOp op) g)
  (z7:∀ov iv new,augStore i ov iv new=(do holding [new,ov,iv] (setItem ov iv new);release [new,ov,iv] [];pure .next):=by intro _ _ _;rfl):
  ax T b X (.AugAssign (.Subscript o i x) op U z6) (pE fo fi fv g):=by
 refine⟨?_⟩;intro A R W σ s a y7 hA Y hr;obtain⟨p,σ₁,z0,Y⟩:=aX Y;obtain⟨q,H,c,Y⟩:=aX Y;obtain⟨r,I,d,Y⟩:=aX Y;obtain⟨O,V,e,Y⟩:=aX Y;obtain⟨t,J,f,Y⟩:=aX Y;obtain⟨z5,h,Y⟩:=tI.mp Y;cases Y;refine wpAny_AugAssign_SubscriptAny (aK (ho.1 A R W σ s p σ₁ hA z0 hr) fun z4 y1 u j M B=>?_) z7;refine aK (hi.1 A R z4 σ₁ u q H hA c B) fun y6 y0 y4 P N C=>?_
 obtain⟨_,_,_,_,z8⟩:=mv (A:=A) d C (M.mono P.ext) N;refine aK z8 fun z3 y v Q l D=>?_
 refine aK (hv.1 A R z3 I v O V hA e D) fun z2 z w Z m E=>?_
 refine aK (hg X A R z2 V w r O y z t J hA f E (l.mono Z.ext) m) fun y5 z9 y3 S n F=>?_
 exact bt (mY F h (M.mono (((P.trans Q).trans Z).trans S).ext) (N.mono ((Q.trans Z).trans S).ext) n) (fun _ y2 ⟨z1,k,G⟩=>⟨z1,((((j.trans P).trans Q).trans Z).trans S).trans k,rfl,G⟩) ay
noncomputable def mE(o k:PV):ER:=Ee (fun i=>qR (fun n=>Ew i fun Z σ=>if -(2^62)<=n/\n<2^62 then(seqIndex? n Z.length).bind fun j=>some (.none,{σ with st:=aG σ.st i (.list (Z.eraseIdx j))})else none) k) o
noncomputable def jh(fo Z:ER):SR:=eY fo fun o=>eY Z fun k=>eY (mE o k) fun _ σ=>some (.next,σ)
theorem ax.delSub{o i:Expr}{P z:Pos}{fo g:ER}(w:aa T b X o fo)(p:aa T b X i g):ax T b X (.Delete [.Subscript o i P] z) (jh fo g):=by
 refine⟨?_⟩;intro A R W σ s a f l Q hr;obtain⟨J,σ₁,E,Q⟩:=aX Q;obtain⟨M,U,F,Q⟩:=aX Q;obtain⟨r,B,Z,Q⟩:=aX Q;cases Q;refine wpAny_Delete (GW (HH (aK (w.1 A R W σ s J σ₁ l E hr) fun C u N G H S=>?_)));refine aK (p.1 A R C σ₁ N M U l F S) fun D v O V I Y=>?_
 refine pw Z (H.mono V.ext) fun i Z p=>fD Z I fun n t Z=>DK Z fun c e hn Z=>fO Z fun hk Z=>cE Z fun j hj Z=>?_
 cases Z;obtain⟨d,m,w,y,q⟩:=cT Y e;refine wpAny_delItem_plain (items:=d) (k:=j) ⟨m,w⟩ (Bi hk) (q▸hj) (fun h' hp hs=>?_) (by rw [q];exact bP hn (by decide));obtain⟨n',x⟩:=hp;have h:=Y.updId e hs x (ao:=.list (c.eraseIdx j)) ⟨_,_,rfl,by rw [lI];exact y.eraseIdx _⟩ O.toks;exact Jc ⟨D,(G.trans V).trans h.1,rfl,h.2⟩
end
end
section
open PySem.Builtin
noncomputable def jM(V:TR)(U:BR)(f:ER)(W:Nat):Nat->IK->AS->Option AS
 |0,_,_=>none
 |n+1,k,σ=>match jU σ k with
  |some (some (p,T))=>(match V p σ with
   |some σ₁=>(match U σ₁ with
    |some (true,Z)=>(match f Z with
     |some (q,X)=>(match bu [.loc W,q] X with
      |some (_,Y)=>jM V U f W n T Y
      |none=>none)
     |none=>none)
    |some (false,Z)=>jM V U f W n T Z
    |none=>none)
   |none=>none)
  |some none=>some σ
  |none=>none
theorem GC(tg fs f acc w1_ w2_):jM tg fs f acc 0 w1_ w2_=(none):=rfl
theorem mR(W V f acc n k σ):jM W V f acc (n+1) k σ=(match jU σ k with
  |some (some (p,U))=>(match W p σ with
   |some σ₁=>(match V σ₁ with
    |some (true,Z)=>(match f Z with
     |some (q,X)=>(match bu [.loc acc,q] X with
      |some (_,Y)=>jM W V f acc n U Y
      |none=>none)
     |none=>none)
    |some (false,Z)=>jM W V f acc n U Z
    |none=>none)
   |none=>none)
  |some none=>some σ
  |none=>none):=rfl
noncomputable def dq(n W:Nat)(Y:AS->Option (IK×AS))(X:TR)(V:BR)(f:ER):ER:=fun σ=>match Y σ with
 |some (k,σ₁)=>(match jM X V f σ₁.nx n k ⟨List.replicate W none,(σ₁.nx,.list [])::σ₁.st,σ₁.nx+1⟩with
  |some Z=>some (.loc σ₁.nx,⟨σ₁.loc,Z.st,Z.nx⟩)
  |none=>none)
 |none=>none
section
variable {T:Tp}{X:Cx}{R:Fz}{W:Wd}{σ:AS}{s:Shared}{b:Nat}{A:Around}
structure dR(T:Tp)(b:Nat)(X:Cx)(ifs:List Expr)(f:BR):Prop where
 go:
  ∀A R W σ s c σ',fJ b A->f σ=some (c,σ')->bQ T X R W σ s->
   wpAny (model T.prog T.w) A (forIn ifs true fun c r=>if r=true then do let ok <-isTrue c X.env (eval c X.env);pure (ForInStep.yield ok)else pure (ForInStep.yield r)) (fb T X R W s c σ') bg s
theorem dR.nil:dR T b X [] ff:=by
 refine⟨?_⟩;intro A R W σ s c Z U V Y;cases V;exact bI (fb.same (k:=s.toks) Y)
theorem dR.one{e:Expr}{f:BR}(h:bj T b X e f):dR T b X [e] f:=by
 refine⟨?_⟩;intro A R W σ s c Z Q S V;rw [rt];rw [aJ rfl];refine aM (aM (bt (h.1 A R W σ s c Z Q S V) (fun v Y U=>?_) ay));refine bI ?_
 show wpAny _ _ (forIn [] v _) _ _ _;rw [EK];exact bI U
theorem sG{scope:Scope}{env:Env}(h:∀x∈scope.names,x.2=.free->(env.cells.lookup x.1).isSome=true):
  ∃V,closureFor scope env=pure V/\∀x a,(x,NameKind.free)∈scope.names->env.cells.lookup x=some a->V.lookup x=some a:=by
 have H:∀(Z:List (Str×NameKind)) (Q:List (Str×Addr)),(∀x∈Z,x.2=.free->(env.cells.lookup x.1).isSome=true)->(∀x a,env.cells.lookup x=some a->Q.lookup x=none\/Q.lookup x=some a)->
   ∃V,(forIn Z Q fun x r=>if x.2==NameKind.free then(do let a <-cellOf env x.1;pure (ForInStep.yield ((x.1,a)::r)):Sem (ForInStep (List (Str×Addr))))else pure (ForInStep.yield r))=pure V /\
    (∀x a,env.cells.lookup x=some a->V.lookup x=none\/V.lookup x=some a)/\(∀x a,env.cells.lookup x=some a->((x,NameKind.free)∈Z\/Q.lookup x=some a)->V.lookup x=some a):=by
  intro Z
  induction Z with
  |nil=>intro Q _ I;exact⟨Q,rfl,I,fun x a e q=>q.elim (fun q=>by cases q) id⟩
  |cons y Z z=>
   intro Q G I;obtain⟨y,k⟩:=y;rw [rt]
   by_cases E:k=.free
   .subst E
    have:=G (y,.free) (.head _) rfl;obtain⟨U,Y⟩:=Ix.mp this;have D:cellOf env y=pure U:=by
     unfold cellOf;rw [Y]
    have C:∀x a,env.cells.lookup x=some a->((y,U)::Q).lookup x=none\/((y,U)::Q).lookup x=some a:=fun x a e=>by
     rw [dU]
     by_cases S:x=y
     .subst S
      rw [Y]at e;obtain rfl:=bc e
      simp
     .have:(x==y)=false:=by simp [S]
      rw [this];exact I x a e
    obtain⟨V,J,B,M⟩:=z ((y,U)::Q) (fun x N=>G x (GH _ N)) C;refine⟨V,?_,B,fun x a e q=>?_⟩
    .simp only [uz,hO]
     rw [D];exact J
    .refine M x a e ?_
     by_cases S:x=y
     .subst S
      rw [Y]at e;obtain rfl:=bc e
      right;rw [dU];simp
     .rcases q with q|q
      .rcases cC.mp q with q|q
       .cases q;exact absurd rfl S
       .exact .inl q
      .right
       rw [dU];have:(x==y)=false:=by simp [S]
       rw [this];exact q
   .have F:(k==NameKind.free)=false:=by simp [E]
    obtain⟨V,J,B,M⟩:=z Q (fun x N=>G x (GH _ N)) I;refine⟨V,?_,B,fun x a e q=>M x a e ?_⟩
    .rw [F,aO iA]
     exact J
    .rcases q with q|q
     .rcases cC.mp q with q|q
      .cases q;exact absurd rfl E
      .exact .inl q
     .exact .inr q
 obtain⟨V,J,_,M⟩:=H scope.names [] h (fun x a e=>.inl rfl);refine⟨V,?_,fun x a N e=>M x a e (.inl N)⟩;unfold closureFor;show(forIn scope.names [] _ >>= _)=_;have e:(forIn scope.names ([]:List (Str×Addr)) fun x r=>match x with|(P,O)=>if(O==NameKind.free)=true then(do let a <-cellOf env P;pure (ForInStep.yield ((P,a)::r)):Sem (ForInStep (List (Str×Addr))))else pure (ForInStep.yield r))=pure V:=J;rw [show(forIn scope.names ([]:List (Str×Addr)) _:Sem (List (Str×Addr)))=pure V from e];rfl
end
end
section
open PySem.Builtin
section
variable {T:Tp}{X:Cx}{R:Fz}{W:Wd}{σ:AS}{s:Shared}{b:Nat}{A:Around}
noncomputable def tM:Heap:={objs:=#[]}
theorem kS(a:Addr):tM.get? a=none:=by
 unfold tM Heap.get?;rfl
theorem ci.zero(W:Wd)(h:Heap):ci W tM W h:=⟨fun _ _ e=>e,fun _ _ e=>.inl e,bU _,fun _ _=>rfl,fun b o e=>by rw [kS]at e;exact aZ e⟩
noncomputable def Ty(z:Fz)(W:Wd)(h:Heap)(U:Wd)(V:Heap):Prop:=∀Y Z,du z Z->ci Y Z W h->ci Y Z U V
set_option tactic.hygienic true in
theorem tw{it:Value}{J:Wd->IK->Fz->Prop}(P:ll T b X A it J){z2 Z iter:Expr}{i:List Expr}{scope:Scope}{pos:Pos}{tg:TR}{fs:BR}{f:ER}(ht:aA T b X Z tg)(y4:dR T b X i fs)(hf:aa T b X z2 f)(hA:fJ b A)
  {I:Nat} {a:Addr}:∀(n:Nat) (k:IK) (z:Fz) (W:Wd) (σ:AS) (s:Shared) (O:AS),
  jM tg fs f I n k σ=some O->J W k z->dh T X R W σ s z->bn W (.loc I) (.ref a)->
  codeAny (model T.prog T.w) A (.compLoop (.ListComp z2 [⟨Z,iter,i,0⟩] scope pos) 0 it (.ref a) X.env) (fun r y=>∃fl,r=.ok fl/\∃G,Ty z W s.heap G y.heap/\bn G (.loc I) (.ref a)/\bQ T X R G O y) s
 |0,_,_,_,_,_,_,h,_,_,_=>aZ h
 |n+1,k,z,W,σ,s,O,h,hj,hl,z6=>by
  have hu:A.under (.compLoop (.ListComp z2 [⟨Z,iter,i,0⟩] scope pos) 0 it (.ref a) X.env)=A:=uS rfl;refine uM ?_
  rw [hu];show wpAny (model T.prog T.w) A ((compTurn (.ListComp z2 [⟨Z,iter,i,0⟩] scope pos) 0 it (.ref a) X.env).onRaise (fun x=>do noteFrame x X.env;theTreesLotGoes x)) _ _ s;refine vA (bt (Q:=fun fin y=>match fin with
   |.done fl=>∃G,Ty z W s.heap G y.heap/\bn G (.loc I) (.ref a)/\bQ T X R G O y
   |.again c'=>c'.quiet=true/\codeAny (model T.prog T.w) A c' (fun r y=>∃fl,r=.ok fl/\∃G,Ty z W s.heap G y.heap/\bn G (.loc I) (.ref a)/\bQ T X R G O y) y) (E:=bg) ?_ (fun fin y h'=>?_) ay)
  .rw [compTurn_list]
   refine aM (ic ?_);simp only [GC,mR]at h
   split at h
   .rename_i p k' z1
    refine aM (bt (P.step R W σ s k z p k' hA hj hl z1) (fun x B hx=>?_) ay);obtain⟨v,H,Y,rfl,hv,g,S,d⟩:=hx;have M:=z6.mono (d W tM (fun a o _=>kS a) (ci.zero W s.heap)).2.ext
    split at h
    .rename_i σ₁ x0
     refine aM (P.own R H σ B k' Y Z v _ _ g S ?_);refine aM (fB (ht.1 A (R.un Y) H σ B p v σ₁ hA x0 S.rel hv) fun z9 z4 m C=>?_);have x4:=S.go m C;have c:=M.mono m.ext;have done {l:Wd} {V:AS} {N:Shared} (gg:ci H B.heap l N.heap) (F:bQ T X (R.un Y) l V N) (h:jM tg fs f I n k' V=some O):
       codeAny (model T.prog T.w) A (.compLoop (.ListComp z2 [⟨Z,iter,i,0⟩] scope pos) 0 it (.ref a) X.env) (fun r y=>∃fl,r=.ok fl/\∃G,Ty z W s.heap G y.heap/\bn G (.loc I) (.ref a)/\bQ T X R G O y) N:=
      jP (tw P ht y4 hf hA n k' Y l V N O h (P.mono _ _ _ _ gg.ext g) (S.go gg F) (M.mono gg.ext)) fun r y ⟨fl,e,G,g',x2,x3⟩=>
       ⟨fl,e,G,fun y0 z5 hd hg=>let⟨y5,y3⟩:=d y0 z5 hd hg;g' y0 z5 y5 (y3.trans gg),x2,x3⟩
     split at h
     .rename_i U z0
      refine aM (eA (y4.1 A (R.un Y) z9 σ₁ z4 _ U hA z0 C) fun z8 z3 t D=>?_);simp only [hO]
      split at h
      .rename_i q j y9
       split at h
       .rename_i q' V y8
        refine aM (aM (aK (hf.1 A (R.un Y) z8 U z3 q j hA y9 D) fun x1 u y6 z7 hu y1=>?_));refine aM (aK (dL X A (R.un Y) x1 j y6 [.loc I,q] [.ref a,u] q' V hA y8 y1 ⟨_,_,rfl,c.mono (t.trans z7).ext,_,_,rfl,hu,rfl⟩) fun l u' N y7 _ F=>?_);exact bI (bI ⟨rfl,done (((m.trans t).trans z7).trans y7) F h⟩)
       .exact aZ h
      .exact aZ h
     .rename_i U z0
      refine aM (eA (y4.1 A (R.un Y) z9 σ₁ z4 _ U hA z0 C) fun z8 z3 t D=>?_);simp only [vw,me];exact bI ⟨rfl,done (m.trans t) D h⟩
     .exact aZ h
    .exact aZ h
   .rename_i z1
    refine aM (bt (P.done R W σ s k z hA hj hl z1) (fun x B hx=>?_) ay);obtain⟨H,rfl,y2,d⟩:=hx;obtain rfl:=bc h;exact bI ⟨H,d,z6.mono (d W tM (fun a o _=>kS a) (ci.zero W s.heap)).ext,y2⟩
   .exact aZ h
  .cases fin with
   |done fl=>exact⟨fl,rfl,h'⟩
   |again c'=>exact h'
theorem eD.more{Z:Fz}{st:List (Nat×AO)}(h:eD T R W st s)(U:∀a o,Z.h a=some o->s.heap.get? a=some o)(S:∀g x,Z.g g=some x->s.gens[g]?=some x)
  (O:∀i,i<W.n->Z.h (W.ρ i)=none) (Q:∀P∈T.tabs,Z.h P=none):eD T Z W st s:=
 ⟨h.top,h.hF,U,S,h.trk,fun i Y=>let⟨a,_,c⟩:=h.fre i Y;⟨a,O i Y,c⟩,h.inj,fun P V=>let⟨a,_,c⟩:=h.tabs P V;⟨a,Q P V,c⟩,h.bare,h.os,h.sysm⟩
noncomputable def cu(X:Cx)(Z:Scope)(vars:List Str)(Y:List (Str×Nat))(V:List (Str×Addr))(L:Addr):Cx:=⟨compEnvC Z V L X.env,vars,Y⟩
theorem zZ{Z:Scope}{vars:List Str}{cvn:List (Str×Nat)}{cl:List (Str×Addr)}{nv:Nat}{z:Fz}(J:dh T X R W σ s z)(y:∀x a,(x,NameKind.free)∈Z.names->X.env.cells.lookup x=some a->cl.lookup x=some a)
  (B:∀x∈cvn,x∈X.cv/\(x.1,NameKind.free)∈Z.names) {O:Heap} (E:O.Ns s.heap.objs.size (fun x=>([]:List (Str×Value)).reverse.lookup x)) {N:Obj} (G:Heap.SameBut s.heap.objs.size (s.heap.push N) O) (k:Nat):
  ∃S,s.heap.get? X.env.locals=some S/\dh T (cu X Z vars cvn cl s.heap.objs.size) (R.un (iy X.env.locals S)) W ⟨List.replicate nv none,σ.st,σ.nx⟩ {s with heap:=O,toks:=k} z/\(∀c o,s.heap.get? c=some o->O.get? c=some o):=by
 have V:=J.rel;obtain⟨m,d,_⟩:=V.l.m;obtain⟨S,_,_,M,_⟩:=id d;have keep:∀c o,s.heap.get? c=some o->O.get? c=some o:=fun c o e=>G.extBut c o (fH (bN e)) (dS _ e)
 have F:=aP.mp V.l.nR;have U:∀a o,((R.un (iy X.env.locals S)).un z).h a=some o->(a=X.env.locals/\o=S)\/(R.un z).h a=some o:=fun a o e=>by
  rcases bx.mp e with e|⟨u,e⟩
  .exact .inr (bx.mpr (.inl e))
  .rcases bx.mp e with e|⟨_,e⟩
   .obtain⟨rfl,rfl⟩:=cj.mp e;exact .inl ⟨rfl,rfl⟩
   .exact .inr (bx.mpr (.inr ⟨u,e⟩))
 have Q:∀a o,((R.un (iy X.env.locals S)).un z).h a=some o->s.heap.get? a=some o:=fun a o e=>by
  rcases U a o e with⟨rfl,rfl⟩|e
  .exact M
  .exact V.r.hR a o e
 have Y:∀a,(R.un z).h a=none->a≠X.env.locals->((R.un (iy X.env.locals S)).un z).h a=none:=fun a e D=>by
  have:=aP.mp e;exact aP.mpr ⟨this.1,aP.mpr ⟨dz.mpr D,this.2⟩⟩
 refine⟨S,M,⟨⟨?_,⟨⟨_,E,fun i x p _ n=>?_⟩,?_,?_,?_,?_,?_⟩,V.nx⟩,J.nF,fun a o e=>?_,fun g x e=>?_⟩,keep⟩
 .refine(eD.ext (σ:=⟨[],σ.st,0⟩) (s':={s with heap:=O,toks:=k}) V.r keep rfl rfl).more (fun a o e=>keep a o (Q a o e)) (fun g x e=>?_) (fun i I=>Y _ (V.r.fre i I).2.1 (V.l.ρ i I)) (fun P H=>Y _ (V.r.tabs P H).2.1 fun q=>V.l.t (q▸H))
  refine V.r.hG g x ?_
  rcases cb.mp e with e|⟨u,e⟩
  .exact cb.mpr (.inl e)
  .rcases cb.mp e with e|⟨_,e⟩
   .exact aZ e
   .exact cb.mpr (.inr ⟨u,e⟩)
 .rw [kx]at n;exact aZ n
 .exact bb V.r.hF (bU _)
 .cases q:((R.un (iy X.env.locals S)).un z).h (cu X Z vars cvn cl s.heap.objs.size).env.locals with
  |none=>rfl
  |some o=>exact absurd (bN (Q _ o q)) (dW _)
 .intro H
  obtain⟨_,_,ps,v,_⟩:=V.r.tabs _ H;exact absurd (bN v) (dW _)
 .intro i I e
  obtain⟨_,_,_,o,w⟩:=V.r.fre i I;exact absurd (bN w) (by rw [e];exact dW _)
 .intro j x i hj
  obtain⟨h1,h2⟩:=B (x,i) (iB hj);obtain⟨f,C⟩:=qe h1
  obtain⟨v,w⟩:=V.l.cv f x i C;exact⟨v,y x _ h2 w⟩
 .refine aP.mpr ⟨dz.mpr fun q=>?_,J.nR a o e⟩
  have:=F.1;rw [<-q,e]at this
  exact kR this
 .have:=J.nG g x e
  show(none:Option GenState).or (R.g g)=none;rw [this];rfl
theorem zK{V:Scope}{vars:List Str}{Q:List (Str×Nat)}{u:List (Str×Addr)}{O z:Obj}{C:Addr}{Y:Wd}{σ₁ σ₂:AS}{Z U:Shared}(h:bQ T (cu X V vars Q u C) (R.un (iy X.env.locals O)) Y σ₁ Z)
  (S:bQ T X R W σ₂ U) (J:U.heap.get? X.env.locals=some O) (g:HK W Y) (H:Y.F X.env.locals=none) (I:Z.heap.get? C=some z):
  dh T X R Y ⟨σ₂.loc,σ₁.st,σ₁.nx⟩ Z (iy C z):=by
 have D:(R.un (iy X.env.locals O)).h X.env.locals=some O:=bx.mpr (.inl (cj.mpr ⟨rfl,rfl⟩));have E:X.env.locals≠C:=fun q=>by have:=h.l.nR;rw [show(cu X V vars Q u C).env.locals=C from rfl,<-q,D]at this;exact kR this
 have G:=aP.mp h.l.nR;have c:∀a o,R.h a=some o->Z.heap.get? a=some o:=fun a o e=>by
  by_cases y:a=X.env.locals
  .subst y;rw [S.l.nR]at e;exact aZ e
  .exact h.r.hR a o (bx.mpr (.inr ⟨dz.mpr y,e⟩))
 refine⟨⟨h.r.more (fun a o e=>?_) (fun g x e=>?_) (fun i N=>?_) (fun P w=>?_),?_,h.nx⟩,fun a o e=>?_,fun a o e=>?_,fun a o e=>by exact aZ e⟩
 .rcases bx.mp e with e|⟨_,e⟩
  .obtain⟨rfl,rfl⟩:=cj.mp e;exact I
  .exact c a o e
 .rcases cb.mp e with e|⟨_,e⟩
  .exact aZ e
  .exact h.r.hG g x (cb.mpr (.inr ⟨rfl,e⟩))
 .exact aP.mpr ⟨dz.mpr (h.l.ρ i N),(aP.mp (h.r.fre i N).2.1).2⟩
 .exact aP.mpr ⟨dz.mpr fun q=>h.l.t (q▸w),(aP.mp (h.r.tabs P w).2.1).2⟩
 .obtain⟨m,f,k⟩:=S.l.m
  refine⟨⟨m,f.at' fun o e=>?_,fun i x p M B=>let⟨v,h3,h4⟩:=k i x p M B;⟨v,h3,h4.mono g⟩⟩,H,aP.mpr ⟨dz.mpr E,S.l.nR⟩,S.l.t,fun i N e=>?_,fun j x i d=>?_⟩
  .rw [J]at e;obtain rfl:=bc e
   exact h.r.hR _ _ D
  .have:=(h.r.fre i N).2.1
   rw [e,D]at this;exact kR this
  .obtain⟨M,B⟩:=S.l.cv j x i d
   exact⟨eB M g.n,by rw [g.ρ i M];exact B⟩
 .obtain⟨rfl,_⟩:=cj.mp e;exact h.l.nF
 .obtain⟨rfl,_⟩:=cj.mp e;exact G.2
end
end
section
open PySem.Builtin
section
variable {T:Tp}{X:Cx}{R:Fz}{W:Wd}{σ:AS}{s:Shared}{b:Nat}{A:Around}
noncomputable def wl(Z:Scope)(Y:List (Str×Nat))(V:List Nat):Bool:=
 decide (Z.kind=.function)&&Z.names.all (fun x=>!(x.2==.cell)&&(!(x.2==.local)||decide (Z.names.lookup x.1=some .local))&&(!(x.2==.free)||Y.any (fun y=>y.1==x.1))) &&
 (V.filterMap (Y[·]?)).all (fun x=>decide ((x.1,NameKind.free)∈Z.names))
theorem DV{Z:Scope}{Y S:List (Str×Nat)}{P:List Nat}(U:P.filterMap (Y[·]?)=S)(h:wl Z Y P=true):
  Z.kind=.function/\(∀x∈Z.names,x.2≠.cell)/\(∀x∈Z.names,x.2=.local->Z.names.lookup x.1=some .local)/\(∀x∈Z.names,x.2=.free->∃i,(x.1,i)∈Y)/\(∀x∈S,x∈Y/\(x.1,NameKind.free)∈Z.names):=by
 unfold wl at h
 simp only [dw,fL,je,Ap,qx,lj]at h
 obtain⟨⟨J,Q⟩,O⟩:=h;rw [U]at O
 refine⟨J,fun x V=>(Q x V).1.1,fun x V e=>?_,fun x V e=>?_,fun x V=>⟨?_,O x V⟩⟩
 .rcases(Q x V).1.2 with q|q
  .exact absurd e q
  .exact q
 .rcases(Q x V).2 with q|q
  .exact absurd e q
  .obtain⟨y,N,I⟩:=List.any_eq_true.mp q
   exact⟨y.2,by rw [<-lR I];exact N⟩
 .rw [<-U]at V
  obtain⟨j,_,M⟩:=uE.mp V;exact iB M
set_option tactic.hygienic true in
theorem BX(n:Nat){y V iter:Expr}{D:List Expr}{Z:Scope}{M z3:Pos}{vars:List Str}{U:List (Str×Nat)}{z2:AS->Option (IK×AS)}{tg:TR}{fs:BR}{f:ER}{use:Option (Value->Sem Unit)}{Q:Value->Shared->Prop}
  (z7:bR T b X iter z2) {js:List Nat} (x0:js.filterMap (X.cv[·]?)=U) (hB:wl Z X.cv js=true) (hs:∀x,foldedSetIterable iter X.env x=pure x)
  (c:∀L O,aA T b (cu X Z vars U O L) V tg/\dR T b (cu X Z vars U O L) D fs/\aa T b (cu X Z vars U O L) y f) (hA:fJ b A) {pv:PV} {z1:AS}
  (hf:dq n vars.length z2 tg fs f σ=some (pv,z1)) (hr:bQ T X R W σ s)
  (hQ:∀W' C oC v S,bn W' pv v->(∃m,S.heap.Ns C m)->dh T X R W' z1 S (iy C oC)->du (iy C oC) s.heap->ci W s.heap W' S.heap->compPost (model T.prog T.w) A bg use Q v C (.ok .next) S):
  wpAny (model T.prog T.w) A (comprehension (.ListComp y [⟨V,iter,D,0⟩] Z M) Z X.env z3 (newList []) false (eval iter X.env) use) Q bg s:=by
 obtain⟨hk,y9,y8,x1,x2⟩:=DV x0 hB;unfold dq at hf
 split at hf
 .rename_i k σ₁ y2
  split at hf
  .rename_i N y1
   cases hf;have B:∀x i,(x,i)∈X.cv->X.env.cells.lookup x=some (W.ρ i):=fun x i g=>by
    obtain⟨j,hj⟩:=qe g
    exact(hr.l.cv j x i hj).2
   obtain⟨O,d,x3⟩:=sG (scope:=Z) (env:=X.env) fun x g e=>by
    obtain⟨i,hi⟩:=x1 x g e;rw [B _ _ hi];rfl
   refine wpAny_comprehension_free rfl hs d hk y8 (bt (z7.1 A R W σ s k σ₁ hA y2 hr) (fun x x5 g=>bt g (fun it Y hp=>?_) ay) ay);obtain⟨J,p,z,P,hj,hl,hd,hg⟩:=hp;refine wpAny_newList ?_ (by decide)
   have hz:=hl.rel.newId (o:={cls:=.type "list",data:=.seq ([]:List Value).toArray}) rfl (ao:=.list []) ⟨_,_,rfl,rfl⟩ Y.toks;have E:=hl.go hz.1 hz.2;have y0:bn (p.add Y.heap.objs.size) (.loc σ₁.nx) (.ref Y.heap.objs.size):=om hl.rel rfl;refine uY y9 (fun x g=>by cases g) (fun z6 y7 y4=>?_) hk;obtain⟨oL,y5,G,keep⟩:=zZ (vars:=vars) (cvn:=U) (cl:=O) (nv:=vars.length) E x3 x2 y7 y4 (Y.toks+0);show codeAny _ _ (.compStart _ _ _ _ (cu X Z vars U O (Y.heap.push {cls:=.type "list",data:=.seq ([]:List Value).toArray}).objs.size).env) _ _;obtain⟨b1,b2,b3⟩:=c (Y.heap.push {cls:=.type "list",data:=.seq ([]:List Value).toArray}).objs.size O;have z5:=tw (pos:=M) (iter:=iter) (scope:=Z) (P (cu X Z vars U O (Y.heap.push {cls:=.type "list",data:=.seq ([]:List Value).toArray}).objs.size)) b1 b2 b3 hA n k z _ _ _ N y1 (((P X).mono _ _ _ _ hz.1.ext hj)) G y0;have fin:codeAny (model T.prog T.w) A (.compLoop (.ListComp y [⟨V,iter,D,0⟩] Z M) 0 it (.ref Y.heap.objs.size) (cu X Z vars U O (Y.heap.push {cls:=.type "list",data:=.seq ([]:List Value).toArray}).objs.size).env)
     (compPost (model T.prog T.w) A bg use Q (.ref Y.heap.objs.size) (Y.heap.push {cls:=.type "list",data:=.seq ([]:List Value).toArray}).objs.size) {Y with heap:=z6,toks:=Y.toks+0}:=by
    refine jP z5 fun r S ⟨fl,e,t,u,hv,I⟩=>?_
    subst e;have g1:=u W s.heap (fun a o e=>hd a o e) ((hg.trans hz.1).trans (ci.keep keep));have gx:=(u (p.add Y.heap.objs.size) tM (fun a o _=>kS a) (ci.zero _ _)).ext;obtain⟨z4,H,_⟩:=I.l.m;have x4:∃o,s.heap.get? X.env.locals=some o:=by
     obtain⟨m,hm,_⟩:=hr.l.m;obtain⟨o,_,_,ho,_⟩:=hm;exact⟨o,ho⟩
    obtain⟨oC,_,_,y6,_⟩:=id H;have z9:=zK (σ₂:={σ₁ with st:=(σ₁.nx,.list [])::σ₁.st,nx:=σ₁.nx+1}) I E.out y5 gx (by
     cases q:t.F X.env.locals with
     |none=>rfl
     |some o=>
      rcases g1.fr _ o q with q'|q'
      .rw [hr.l.nF]at q';exact aZ q'
      .obtain⟨o',z8⟩:=x4
       rw [q']at z8;exact aZ z8) y6
    have:=hQ t _ _ _ S hv ⟨z4,H⟩ z9 (fun a o e=>by
     obtain⟨rfl,rfl⟩:=cj.mp e;cases q:s.heap.get? (cu X Z vars U O (Y.heap.push {cls:=.type "list",data:=.seq ([]:List Value).toArray}).objs.size).env.locals with
     |none=>rfl
     |some x7=>
      obtain⟨x6,z0⟩:=(hg.trans hz.1).th _ _ q;exact absurd (bN z0) (dW _)) g1
    cases use<;>exact this
   refine codeAny_compStart_list fin ?_
   exact bt ((P _).self _ _ _ _ k z (fun y3 s'=>codeAny (model T.prog T.w) A (.compLoop (.ListComp y [⟨V,iter,D,0⟩] Z M) 0 y3 (.ref Y.heap.objs.size) (cu X Z vars U O (Y.heap.push {cls:=.type "list",data:=.seq ([]:List Value).toArray}).objs.size).env)
     (compPost (model T.prog T.w) A bg use Q (.ref Y.heap.objs.size) (Y.heap.push {cls:=.type "list",data:=.seq ([]:List Value).toArray}).objs.size) s') bg ((P X).mono _ _ _ _ hz.1.ext hj) G fin) (fun _ _ h=>h) ay
  .exact aZ hf
 .exact aZ hf
theorem aa.comp(n:Nat){S Y iter:Expr}{V:List Expr}{Z:Scope}{O:Pos}{vars:List Str}{cvn:List (Str×Nat)}{P:AS->Option (IK×AS)}{E:TR}{D:BR}{f:ER}
  (N:bR T b X iter P) {js:List Nat} (H:js.filterMap (X.cv[·]?)=cvn) (p:wl Z X.cv js=true)
  (U:∀L F,aA T b (cu X Z vars cvn F L) Y E/\dR T b (cu X Z vars cvn F L) V D/\aa T b (cu X Z vars cvn F L) S f)
  (y:∀x,foldedSetIterable iter X.env x=pure x:=by intro _;rfl):aa T b X (.ListComp S [⟨Y,iter,V,0⟩] Z O) (dq n vars.length P E D f):=by
 refine⟨?_⟩;intro A R W σ s k B o r w;show wpAny _ A (comprehension (.ListComp S [⟨Y,iter,V,0⟩] Z O) Z X.env _ (newList []) false (eval iter X.env) Option.none) _ _ s;refine BX n N H p y U o r w fun l C j v Q z I u q t=>?_
 obtain⟨m,I⟩:=I;refine⟨m,I,fun i M=>?_⟩;obtain⟨J,G⟩:=u.fin M.extBut Q.toks;exact⟨l,G W s.heap q t,z,J⟩
theorem ax.assignComp(n:Nat){S Y iter:Expr}{U:List Expr}{Z:Scope}{I O:Pos}{vars:List Str}{cvn:List (Str×Nat)}{B:AS->Option (IK×AS)}{tg E:TR}{fs:BR}{f:ER}{y:Str}{F:Pos}
  (z:bR T b X iter B) {js:List Nat} (c:js.filterMap (X.cv[·]?)=cvn) (hB:wl Z X.cv js=true)
  (G:∀L cl,aA T b (cu X Z vars cvn cl L) Y tg/\dR T b (cu X Z vars cvn cl L) U fs/\aa T b (cu X Z vars cvn cl L) S f)
  (k:aA T b X (.Name y F) E)
  (j:swapsWith (.ListComp S [⟨Y,iter,U,0⟩] Z I) (some (.Name y F)) O.line X.env=pure true)
  (hs:∀x,foldedSetIterable iter X.env x=pure x:=by intro _;rfl):ax T b X (.Assign [.Name y F] (.ListComp S [⟨Y,iter,U,0⟩] Z I) O) (am (dq n vars.length B tg fs f) E):=by
 refine⟨?_⟩;intro A R W σ s a M hA u hr;obtain⟨p,σ₁,r,u⟩:=aX u;refine cE u fun l t u=>?_
 cases u;rw [exec_Assign_Name_used _ _ _ _ j];refine aM (ic (aM ?_));show wpAny _ A (do let _ <-comprehension (.ListComp S [⟨Y,iter,U,0⟩] Z I) Z X.env _ (newList []) false (eval iter X.env) (some (PySem.assign (.Name y F) X.env))) _ _ s;refine aM (bt (BX n (use:=some (PySem.assign (.Name y F) X.env)) (Q:=fun _ s'=>fG T X R W s .next M .next s') z c hB hs G hA r hr fun W' C oC v P hv g d hd hg=>?_) (fun _ s' hq=>bI (bI hq)) ay);obtain⟨m,g⟩:=g;show wpAny (model T.prog T.w) A (PySem.assign (.Name y F) X.env v) (fun _ J=>∃m,J.heap.Ns C m/\∀h',Heap.SameBut C J.heap h'->fG T X R W s .next M .next {J with heap:=h'}) bg P;refine fB (k.1 A (R.un (iy C oC)) W' σ₁ P p v M hA t d.rel hv) fun q D N H=>?_
 have V:=d.go N H;have hC:=V.here;refine⟨m,g.at' fun o e=>?_,fun h' i=>?_⟩
 .rw [d.here]at e;cases e;exact hC
 .obtain⟨h,z0⟩:=V.fin i.extBut D.toks
  exact⟨q,z0 W s.heap hd (hg.trans N),rfl,h⟩
end
end
section
open PySem.Builtin
section
variable {T:Tp}{X:Cx}{R:Fz}{W:Wd}{σ:AS}{s:Shared}{b:Nat}{A:Around}
theorem aa.globV(V:bf X)(i:Nat){x:Str}{v:Value}{Z:Pos}{p:PV}(Q:∀W,bn W p v)(S:T.gl[i]?=some (x,v))(P:X.env.scope.names.lookup x=some .globalImplicit)(N:(x==("__debug__":Str))=false):
  aa T b X (.Name x Z) (ab p):=by
 refine⟨?_⟩;intro A R W σ s I U G O Y;cases O;obtain⟨H,J,M⟩:=Y.r.top.glob i x v S s.heap Y.r.hF;exact qV V.kind P (IE (by rw [V.glob];exact J) M (aT.same' Y (Q W))) N
noncomputable def NE:PV->Option (PV×PV)
 |.tup Z=>(match Z with
  |[p,q]=>some (p,q)
  |_=>none)
 |_=>none
theorem zD{r p q:PV}(h:NE r=some (p,q)):r=.tup [p,q]:=by
 cases r with
 |tup Z=>cases Z with
  |nil=>exact aZ h
  |cons p Z=>cases Z with
   |nil=>exact aZ h
   |cons q Z=>cases Z with
    |nil=>cases h;rfl
    |cons _ _=>exact aZ h
 |_=>exact aZ h
noncomputable def jd(f:ER)(i j:Nat):SR:=eY f fun r σ=>(NE r).bind fun z=>some (.next,{σ with loc:=pu (pu σ.loc j z.2) i z.1})
theorem ax.swap(l:bf X)(i j:Nat){x y:Str}{U:List Expr}{k:Nat}{Y N:Pos}{Z:Expr}{f:ER}(h:aa T b X Z f)(hi:X.vars[i]?=some x)(hj:X.vars[j]?=some y)
  (h1:swapsWithSole [.Tuple U k Y] Z (Pos.line N) X.env=pure false) (h2:swappedStores [.Tuple U k Y] Z X.env=pure (some [x,y])):ax T b X (.Assign [.Tuple U k Y] Z N) (jd f i j):=by
 refine⟨?_⟩;intro A R W σ s a z0 g J hr;obtain⟨r,σ₁,F,J⟩:=aX J;obtain⟨⟨p,q⟩,G,J⟩:=tI.mp J;cases J;cases zD G;refine Assign_Tuple_swapped (names:=[x,y]) (aK (h.1 A R W σ s _ σ₁ g F hr) fun D v S H hv V=>?_) h1 h2;obtain⟨t,vs,n,rfl,hF,C⟩:=hv;obtain⟨u,w,hu,hp,hq⟩:=UQ C;have M:vs=#[u,w]:=by apply AJ.mp;rw [hu]
 subst M;refine wpAny_unpackItems_tuple (items:=#[u,w]) g.hnd ⟨_,V.r.hF _ _ hF,rfl,n,rfl⟩ fun d hx=>?_
 have keep:∀b o,S.heap.get? b=some o->d.get? b=some o:=fun b o e=>hx b o (fH (bN e)) e
 have B:bQ T X R D σ₁ {S with heap:=d}:=V.ext keep rfl rfl;show wpAny _ _ (assignInOrder [bindName X.env y,bindName X.env x] [w,u]) _ _ _;refine zU (Hm (fB (lc l hj B hq) fun c m Q O=>?_));refine zU (Hm (fB (lc l hi O (hp.mono Q.ext)) fun E z I P=>?_));exact Jg ⟨E,((H.trans (ci.keep keep)).trans Q).trans I,rfl,P⟩
end
end
section
open PySem.Builtin
noncomputable def df:List (Str×NameKind)->List Str
 |[]=>[]
 |(x,k)::r=>if k==.cell then x::df r else df r
theorem gO:∀(Z:List (Str×NameKind)) (n:Nat) (Y:List (Str×Addr)) (x:Str),x∉df Z->(cellsFrom n Z Y).lookup x=Y.lookup x
 |[],_,_,_,_=>rfl
 |(y,k)::r,n,Y,x,h=>by
  unfold df at h
  unfold cellsFrom
  by_cases X:(k==NameKind.cell)=true
  .rw [aJ X]at h ⊢
   rw [cC,not_or]at h
   rw [gO r _ _ x h.2,dU];have:(x==y)=false:=by simp [h.1]
   rw [this]
  .rw [aO X]at h ⊢
   exact gO r _ _ x h
theorem ji:∀(Z:List (Str×NameKind)) (n:Nat) (X:List (Str×Addr)) (x:Str) (j:Nat),(df Z).Nodup->(df Z)[j]?=some x->(cellsFrom n Z X).lookup x=some (n+j)
 |[],_,_,_,_,_,h=>by simp [df]at h
 |(y,k)::r,n,X,x,j,Y,h=>by
  unfold df at h Y
  unfold cellsFrom
  by_cases W:(k==NameKind.cell)=true
  .rw [aJ W]at h Y ⊢
   rw [lT]at Y
   cases j with
   |zero=>
    obtain rfl:=bc h;rw [gO r _ _ _ Y.1,dU];simp
   |succ j=>
    rw [ji r (n+1) _ x j Y.2 (by simpa using h)]
    congr 1;exact bY (bD 0x42100800104010800210020 rfl) (bD 0x40108002104210080010020 rfl)
  .rw [aO W]at h Y ⊢
   exact ji r n X x j Y h
theorem sV(kindOf:Str->Option NameKind){x:Str}(W:kindOf x=some .local):∀(pn:List Str) (Z:List Value) (m:Str->Option Value),pn.Nodup->bindL kindOf (pn.zip Z) m x=((pn.zip Z).lookup x).or (m x)
 |[],Z,m,_=>by rfl
 |_::_,[],m,_=>by rfl
 |y::pn,v::Z,m,X=>by
  rw [lT]at X
  rw [tL];unfold bindL;rw [sV kindOf W pn Z _ X.2,dU]
  by_cases h:x=y
  .subst h
   have Y:(pn.zip Z).lookup x=none:=by
    rw [yL];intro p V;have:=EZ (show(p.1,p.2)∈pn.zip Z from V);simp only [zw,ne_eq,lj];intro e;exact X.1 (e▸this.1)
   rw [Y];simp [W]
  .have:(x==y)=false:=by simp [h]
   simp only [this]
   congr 1
   split
   .simp [h]
   .rfl
theorem sN(kindOf:Str->Option NameKind){x:Str}(W:kindOf x≠some .local):∀(pn:List Str) (Z:List Value) (m:Str->Option Value),pn.Nodup->bindC kindOf (pn.zip Z) m x=((pn.zip Z).lookup x).or (m x)
 |[],Z,m,_=>by rfl
 |_::_,[],m,_=>by rfl
 |y::pn,v::Z,m,X=>by
  rw [lT]at X
  rw [tL];unfold bindC;rw [sN kindOf W pn Z _ X.2,dU]
  by_cases h:x=y
  .subst h
   have Y:(pn.zip Z).lookup x=none:=by
    rw [yL];intro p V;have:=EZ (show(p.1,p.2)∈pn.zip Z from V);simp only [zw,ne_eq,lj];intro e;exact X.1 (e▸this.1)
   rw [Y];simp [W]
  .have:(x==y)=false:=by simp [h]
   simp only [this]
   congr 1
   split
   .rfl
   .simp [h]
section
variable {T:Tp}{R:Fz}{W:Wd}{s:Shared}{b:Nat}{A:Around}
theorem pO:∀{pn:List Str} {X:List PV} {Z:List Value},aN W X Z->∀{x:Str},match(pn.zip X).lookup x with|some p=>∃v,(pn.zip Z).lookup x=some v/\bn W p v|none=>(pn.zip Z).lookup x=none
 |[],X,Z,h,x=>by simp
 |_::_,[],Z,h,x=>by rw [show Z=[]from h];rfl
 |y::pn,p::X,Z,h,x=>by
  obtain⟨v,V,rfl,S,U⟩:=h;simp only [tL,dU]
  by_cases Y:x=y
  .subst Y
   simp only [uz];exact⟨v,rfl,S⟩
  .have:(x==y)=false:=by simp [Y]
   simp only [this];exact pO U
noncomputable def bp(T:Tp)(fd:FuncData)(O:List Value->Args)(pn:List Str)(X:Nat->List PV)(V:List AO):Prop:=
 ∀A R W s Q S os E,S.length+(X os.length).length=pn.length->aN W S Q->W.n=os.length->eD T R W (dY 0 os) s->
  wpAny (model T.prog T.w) A (bindArgs fd (O Q)) (fun Z P=>∃U Y,ci W s.heap U P.heap/\Z=pn.zip Y/\aN U (S++X os.length) Y/\eD T R U (dY 0 (os++V)) P/\U.n=(os++V).length) E s
theorem bp.dflt{fd:FuncData}{U:List Value->Args}{pn:List Str}{dps:List PV}{dvs:List Value}(S:∀W,aN W dps dvs)
  (h:∀Z:List Value,Z.length+dvs.length=pn.length->∀s:Shared,Frag.In T.K s.heap->BindsTo s fd (U Z) (pn.zip (Z++dvs))):bp T fd U pn (fun _=>dps) []:=by
 intro A R W s Z O os E P Y Q V;have X:=(S W).length;refine h Z (by rw [<-Y.length,<-X];exact P) s (fun a o e=>V.hF a o (V.top.kin a o e)) _ _ _ _ ⟨W,Z++dvs,ci.refl ..,rfl,Y.append (S W),by rw [lw];exact V,by rw [lw];exact Q⟩
theorem bp.plain{fd:FuncData}{Y:List Value->Args}{pn:List Str}
  (h:∀Z:List Value,Z.length=pn.length->∀s:Shared,Frag.In T.K s.heap->BindsTo s fd (Y Z) (pn.zip Z)):bp T fd Y pn (fun _=>[]) []:=
 bp.dflt (dvs:=[]) (fun _=>rfl) fun Z X s V=>by rw [lw];exact h Z (by simpa using X) s V
noncomputable def cH(pn Y X:List Str)(Z:List PV)(os:List AO):AS:=
 ⟨X.map (fun x=>(pn.zip Z).lookup x),dY 0 (os++Y.map fun x=>AO.cell ((pn.zip Z).lookup x)),(os++Y.map fun x=>AO.cell ((pn.zip Z).lookup x)).length⟩
noncomputable def bW(pn U V:List Str)(Z:Nat->List PV)(Y:List AO)(f:Nat->SR):bz:=fun X os=>if X.length+(Z os.length).length=pn.length then fM os.length (f (os++Y).length (cH pn U V (X++Z os.length) (os++Y)))else none
noncomputable def aF(Z:List Str)(n:Nat):List (Str×Nat):=Z.zip (List.range' n Z.length)
theorem EF{Y:List Str}{n j:Nat}{x:Str}{i:Nat}(h:(aF Y n)[j]?=some (x,i)):Y[j]?=some x/\i=n+j:=by
 unfold aF at h
 rw [List.getElem?_zip_eq_some]at h
 refine⟨h.1,?_⟩;have Z:=h.2;have X:j<Y.length:=by
  have:=(jQ.mp Z).1
  simpa using this
 rw [List.getElem?_range' X]at Z
 have:n+1*j=i:=by simpa using Z
 exact bY (cq 0x100002100011002008c0010a21 rfl this) (cq 0x200400008011002008c0010821 rfl this)
theorem qm:∀{l:List (Option PV)} {i:Nat} {q:PV},fQ l i=some q->l[i]?=some (some q)
 |[],_,_,h=>aZ h
 |y::l,0,q,h=>by rw [show y=some q from h];rfl
 |y::l,i+1,q,h=>qm (l:=l) h
theorem oE{fa:Addr}{fo:Obj}{fd:FuncData}{body:List Stmt}{pn Q vn:List Str}{mk:List Value->Args}{O:Nat->List PV}{J:List AO}
  (hK:T.K.lookup fa=some fo) (hd:fo.data=.func fd) (w3:fd.scope.isCoroutine=false) (y8:fd.scope.isGenerator=false) (hb:fd.body=.stmts body)
  (w1:fd.globals=mainGlobals) (w6:fd.builtins=builtinsNs) (w4:fd.closure=[])
  (w5:∀h:Heap,Frag.In T.K h->h.CodeRec fd.code fd.qualname)
  (y0:bp T fd mk pn O J)
  (hk:fd.scope.kind=.function) (x2:df fd.scope.names=Q) (x1:Q.Nodup)
  (z6:∀x∈pn,fd.scope.names.lookup x=some .local\/(fd.scope.names.lookup x=some .cell/\x∈Q))
  (x3:∀x∈Q,fd.scope.names.lookup x≠some .local)
  (z2:∀x∈vn,fd.scope.names.lookup x=some .local) (y4:pn.Nodup)
  {d:Result->Shared->Prop} {D:List PV} {vs:List Value} {os:List AO} (hA:A.depth<recursionLimit) (y3:D.length+(O os.length).length=pn.length) (x8:aN W D vs) (hn:W.n=os.length) (h0:eD T R W (dY 0 os) s)
  (z9:∀L cs S H,ci W s.heap S H.heap->bQ T ⟨nf fd.qualname fd.scope fa L fd.code cs,vn,aF Q (os++J).length⟩ R S (cH pn Q vn (D++O os.length) (os++J)) H->codeAny (model T.prog T.w) A (.func body (nf fd.qualname fd.scope fa L fd.code cs)) d H):
  codeAny (model T.prog T.w) A (.call (.ref fa) (mk vs)) d s:=by
 have x4:∀s':Shared,FH W.F s'.heap->Frag.In T.K s'.heap:=fun s' h a o e=>h a o (h0.top.kin a o e)
 have w2:=h0.hF _ _ (h0.top.kin _ _ hK);refine yZ (hA) w2 hd w3 y8 hb (w5 _ (x4 s h0.hF)) ?_
 refine bt (y0 A.in1 R W s vs D os _ y3 x8 hn h0) (fun w9 Z hq=>?_) (fun _ _ h=>h);obtain⟨Y,ws,x5,rfl,z1,M,I⟩:=hq;have x7:ws.length=pn.length:=by rw [<-z1.length,jL,y3]
 have z7:((pn.zip ws).map (·.1))=pn:=rF x7.symm;have z8:∀{x:Str} {j:Nat},Q[j]?=some x->(cellsFrom (Z.heap.objs.size+1) fd.scope.names []).lookup x=some (Z.heap.objs.size+1+j):=fun{x j} C=>ji _ _ _ _ _ (x2▸x1) (x2▸C)
 rw [w4];refine wpAny_newFunctionEnv_cells hk (fun x m=>?_) (fun w8 f H k=>?_)
 .have x6:x.1∈pn:=by
   have:x.1∈(pn.zip ws).map (·.1):=qY m
   rwa [z7]at this
  rcases z6 x.1 x6 with h|⟨h,h'⟩
  .exact .inl h
  .refine .inr ⟨h,?_⟩
   obtain⟨j,C⟩:=qe h'
   rw [z8 C];rfl
 obtain⟨⟨⟨E,tk,rfl⟩,y5,keep,_⟩,z,_,_⟩:=k;have u:FH Y.F E:=fun c o e=>keep c o (M.hF c o e)
 refine⟨M.top.nolim _ u,?_⟩;have hE:w8=nf fd.qualname fd.scope fa Z.heap.objs.size fd.code (cellsFrom (Z.heap.objs.size+1) fd.scope.names []):=by
  rw [f,w1,w6];rfl
 rw [hE]at y5 z ⊢
 clear f hE
 let S:Wd:={Y with ρ:=fun i=>if i<Y.n then Y.ρ i else Z.heap.objs.size+1+(i-Y.n),n:=Y.n+Q.length}
 have X:∀i,i<Y.n->S.ρ i=Y.ρ i:=fun i N=>aJ N
 have V:∀j,S.ρ (Y.n+j)=Z.heap.objs.size+1+j:=fun j=>by
  show(if Y.n+j<Y.n then _ else _)=_;rw [aO (by exact(fun u0=>bD 0x800010421 rfl u0))];congr 1;exact bY (cq 0x80000022004020800010821 rfl (aV (Ek))) (cq 0x200022004020800010a21 rfl (aV (Ek)))
 have U:∀i,i<S.n->i<Y.n\/∃j,j<Q.length/\i=Y.n+j:=fun i N=>by
  have y6:i<Y.n+Q.length:=N
  by_cases h:i<Y.n
  .exact .inl h
  .exact .inr ⟨i-Y.n,by exact iF 0x200c010800100c02104400804000422 rfl y6 (aV (sB h)),by exact bY (Nf (aV (sB h))) (KW (aV (sB h)))⟩
 have B:HK Y S:=⟨fun _ _ e=>e,eX _ _,fun i N=>X i N⟩;have y7:ci Y Z.heap S E:=⟨fun _ _ e=>e,fun _ _ e=>.inl e,eX _ _,fun i N=>X i N,fun c o e=>⟨o,keep c o e⟩⟩;have x0:∀j,j<Q.length->∃x o,Q[j]?=some x/\E.get? (Z.heap.objs.size+1+j)=some o/\lJ T.w S (.cell ((pn.zip (D++O os.length)).lookup x)) o:=fun j C=>by
  have m:Q[j]?=some Q[j]:=fh C
  obtain⟨o,ho,y9⟩:=z _ _ (z8 m);refine⟨_,o,m,ho,_,y9,?_⟩;have hz:=pO (pn:=pn) (z1.mono B) (x:=Q[j]);cases q:(pn.zip (D++O os.length)).lookup Q[j]with
  |none=>exact trivial
  |some p=>
   rw [q]at hz
   obtain⟨v,z4,z3⟩:=hz;refine⟨v,?_,z3⟩;rw [sN _ (x3 _ (nh C)) _ _ _ y4,z4];rfl
 have z5:bQ T ⟨nf fd.qualname fd.scope fa Z.heap.objs.size fd.code (cellsFrom (Z.heap.objs.size+1) fd.scope.names []),vn,aF Q (os++J).length⟩ R S (cH pn Q vn (D++O os.length) (os++J)) {Z with heap:=E,toks:=tk}:=by
  refine⟨⟨M.top,u,fun c o e=>keep c o (M.hR c o e),M.hG,fun i ao e=>?_,fun i N=>?_,fun i j N C e=>?_,fun P hP=>?_,M.bare,M.os,fun i N=>?_⟩,⟨⟨_,y5,fun i x q m hq=>?_⟩,?_,?_,fun hP=>?_,fun i N e=>?_,fun j x i h=>?_⟩,?_⟩
  .have e':(dY 0 ((os++J)++Q.map fun x=>AO.cell ((pn.zip (D++O os.length)).lookup x))).lookup i=some ao:=e
   rw [fT]at e'
   by_cases N:i<(os++J).length
   .rw [vO N]at e'
    obtain⟨r,o,t,g⟩:=M.trk i ao (by rw [fT];exact e');exact⟨eB r (eX _ _),o,by rw [X i r];exact keep _ _ t,g.mono B⟩
   .rw [zN (HJ N),kH]at e'
    obtain⟨x,m,w7⟩:=iO.mp e';have l:i-(os++J).length<Q.length:=(jQ.mp m).1;obtain⟨y,o,hy,ho,x9⟩:=x0 _ l;rw [m]at hy;obtain rfl:=bc hy
    have k:i=Y.n+(i-(os++J).length):=by rw [I];exact bY (Nf (aV (sB N))) (KW (aV (sB N)))
    have w0:i<Y.n+Q.length:=by exact iF 0x100c021002100060108020840000422 rfl l k
    refine⟨w0,o,?_,w7▸x9⟩;rw [k,V];exact ho
  .rcases U i N with h|⟨j,C,rfl⟩
   .rw [X i h]
    obtain⟨r,t,g,o,h5⟩:=M.fre i h;exact⟨r,t,g,o,keep _ _ h5⟩
   .rw [V]
    obtain⟨_,o,_,ho,_⟩:=x0 j C;refine⟨bb M.hF (by exact(bD 0x1004200084000020 rfl)),bb M.hR (by exact(bD 0x1004200084000020 rfl)),fun hP=>?_,o,ho⟩;obtain⟨_,_,z0,t,_⟩:=M.tabs _ hP;have h9:@LT.lt Nat _ (Z.heap.objs.size+1+j) Z.heap.objs.size:=bN t;exact absurd h9 (by exact(fun u0=>bD 0x4010800210421 rfl h9))
  .have G:∀i,i<Y.n->Y.ρ i<Z.heap.objs.size:=fun i N=>by
    obtain⟨_,_,_,o,h5⟩:=M.fre i N;exact bN h5
   rcases U i N with h|⟨i',y6,rfl⟩<;>rcases U j C with h'|⟨j',v0,rfl⟩
   .rw [X i h,X j h']at e;exact M.inj i j h h' e
   .rw [X i h,V]at e
    have h7:@LT.lt Nat _ (Y.ρ i) Z.heap.objs.size:=G i h;rw [e]at h7
    exact absurd (show @LT.lt Nat _ (Z.heap.objs.size+1+j') Z.heap.objs.size from h7) (by exact(fun u0=>bD 0x4010800210421 rfl h7))
   .rw [V,X j h']at e
    have h7:@LT.lt Nat _ (Y.ρ j) Z.heap.objs.size:=G j h';rw [<-e]at h7
    exact absurd (show @LT.lt Nat _ (Z.heap.objs.size+1+i') Z.heap.objs.size from h7) (by exact(fun u0=>bD 0x4010800210421 rfl h7))
   .rw [V,V]at e
    have h8:@Eq Nat (Z.heap.objs.size+1+i') (Z.heap.objs.size+1+j'):=e;exact bY (iF 0x80300820180400880108002104010800210821 rfl h8) (iF 0x40300840180400880108002104010800210a21 rfl h8)
  .obtain⟨r,t,z0,g,h5⟩:=M.tabs P hP
   exact⟨r,t,z0,keep _ _ g,h5⟩
  .rcases U i N with h|⟨j,C,rfl⟩
   .rw [X i h];exact M.sysm i h
   .rw [V]
    obtain⟨a,o',r,t⟩:=M.top.big;have h5:@LT.lt Nat _ a Z.heap.objs.size:=bN (M.hF a o' r);have g:@LT.lt Nat _ 1 a:=t;intro q;have q':@Eq Nat (Z.heap.objs.size+1+j) 1:=q;exact cq 0x1088010840210820004210840000423 rfl h5 g q'
  .have hz:=pO (pn:=pn) (z1.mono B) (x:=x)
   have y2:(vn.map fun x=>(pn.zip (D++O os.length)).lookup x)[i]?=some (some q):=by
    have:fQ (vn.map fun x=>(pn.zip (D++O os.length)).lookup x) i=some q:=hq;exact qm this
   rw [kH,m]at y2
   have y1:(pn.zip (D++O os.length)).lookup x=some q:=by simpa using y2
   rw [y1]at hz
   obtain⟨v,z4,z3⟩:=hz;refine⟨v,?_,z3⟩;rw [sV _ (z2 x (iB m)) _ _ _ y4,z4];rfl
  .exact bb M.hF (bU _)
  .exact bb M.hR (bU _)
  .obtain⟨_,_,z0,t,_⟩:=M.tabs _ hP
   exact absurd (bN t) (dW _)
  .rcases U i N with h|⟨j,C,rfl⟩
   .rw [X i h]at e
    obtain⟨_,_,_,o,g⟩:=M.fre i h;exact absurd (bN g) (by rw [e];exact dW _)
   .rw [V]at e
    have e':@Eq Nat (Z.heap.objs.size+1+j) Z.heap.objs.size:=e;exact bD 0x4010800210821 rfl e'
  .obtain⟨r,rfl⟩:=EF h
   have l:j<Q.length:=(jQ.mp r).1;rw [<-I];exact⟨by show _<Y.n+Q.length;exact cq 0x40200800100410840000421 rfl l,by rw [V];exact z8 r⟩
  .show(os++J++Q.map fun x=>AO.cell ((pn.zip (D++O os.length)).lookup x)).length=Y.n+Q.length
   rw [jL,db,I]
 exact z9 _ _ S _ (x5.trans y7) z5
theorem fy.of_cells{j:Addr}{fo:Obj}{fd:FuncData}{body:List Stmt}{pn P C:List Str}{c:List Value->Args}{H:Nat->List PV}{Q:List AO}{f:Nat->SR}
  (hK:T.K.lookup j=some fo) (hd:fo.data=.func fd) (r:fd.scope.isCoroutine=false) (O:fd.scope.isGenerator=false) (hb:fd.body=.stmts body)
  (t:fd.globals=mainGlobals) (l:fd.builtins=builtinsNs) (o:fd.closure=[])
  (m:∀h:Heap,Frag.In T.K h->h.CodeRec fd.code fd.qualname)
  (S:bp T fd c pn H Q)
  (hk:fd.scope.kind=.function) (q:df fd.scope.names=P) (M:P.Nodup)
  (V:∀x∈pn,fd.scope.names.lookup x=some .local\/(fd.scope.names.lookup x=some .cell/\x∈P))
  (J:∀x∈P,fd.scope.names.lookup x≠some .local)
  (Y:∀x∈C,fd.scope.names.lookup x=some .local) (w:pn.Nodup)
  (U:∀n L i,ah T b ⟨nf fd.qualname fd.scope j L fd.code i,C,aF P n⟩ body (f n)):fy T (b+1) (.ref j) c (bW pn P C H Q f):=by
 intro A R W s vs ps os pv B ns hA E z0 z u h0;unfold bW at E
 split at E
 .rename_i y
  obtain⟨a,p,D,ef,k,hex⟩:=Et E;refine oE hK hd r O hb t l o m S hk q M V J Y w (by have:=hA.dep;exact cq 0x80000422004210080010421 rfl this) y z u h0 fun L i F e I X=>?_
  refine uB (bt ((U (os++Q).length L i).1 (A.deeper _) R F _ _ a D (hA.deeper _) ef X) (fun fl d hp=>?_) ay);obtain⟨G,g,N,Z⟩:=hp;have hg:ci W s.heap G d.heap:=I.trans g;show GX T R W s pv (B++ns) _ d;rcases k with rfl|⟨rfl,rfl⟩
  .obtain⟨v,rfl,hv⟩:=N
   exact oY hex u hg hv Z
  .rw [show fl=.next from N]
   exact oY hex u hg Bb Z
 .exact aZ E
end
end
section
open PySem.Builtin
section
variable {T:Tp}{X X':Cx}{R:Fz}{W:Wd}{σ:AS}{s:Shared}{b:Nat}{A:Around}
theorem oV{loc':List (Option PV)}(Y:bQ T X R W σ s){Q:Heap}{G:Str->Option Value}{O:Obj}(E:Q.Ns s.heap.objs.size G)(F:Heap.SameBut s.heap.objs.size (s.heap.push O) Q)(k:Nat)
  (J:X'.env.locals=s.heap.objs.size) (M:∀(i:Nat) x p,X'.vars[i]?=some x->fQ loc' i=some p->∃v,G x=some v/\bn W p v)
  (C:∀(j:Nat) x i,X'.cv[j]?=some (x,i)->i<W.n/\X'.env.cells.lookup x=some (W.ρ i)):
  ∃U,s.heap.get? X.env.locals=some U/\bQ T X' (R.un (iy X.env.locals U)) W ⟨loc',σ.st,σ.nx⟩ {s with heap:=Q,toks:=k}/\(∀c o,s.heap.get? c=some o->Q.get? c=some o):=by
 obtain⟨m,B,_⟩:=Y.l.m;obtain⟨U,_,_,N,_⟩:=id B;have keep:∀c o,s.heap.get? c=some o->Q.get? c=some o:=fun c o e=>F.extBut c o (fH (bN e)) (dS _ e)
 have V:∀a o,(R.un (iy X.env.locals U)).h a=some o->(a=X.env.locals/\o=U)\/R.h a=some o:=fun a o e=>by
  rcases bx.mp e with e|⟨_,e⟩
  .obtain⟨rfl,rfl⟩:=cj.mp e;exact .inl ⟨rfl,rfl⟩
  .exact .inr e
 have S:∀a o,(R.un (iy X.env.locals U)).h a=some o->s.heap.get? a=some o:=fun a o e=>by
  rcases V a o e with⟨rfl,rfl⟩|e
  .exact N
  .exact Y.r.hR a o e
 have Z:∀a,R.h a=none->a≠X.env.locals->(R.un (iy X.env.locals U)).h a=none:=fun a e D=>aP.mpr ⟨dz.mpr D,e⟩
 refine⟨U,N,⟨?_,⟨⟨G,by rw [J];exact E,M⟩,?_,?_,?_,?_,C⟩,Y.nx⟩,keep⟩
 .refine(eD.ext (σ:=⟨[],σ.st,0⟩) (s':={s with heap:=Q,toks:=k}) Y.r keep rfl rfl).more (fun a o e=>keep a o (S a o e)) (fun g x e=>?_) (fun i I=>Z _ (Y.r.fre i I).2.1 (Y.l.ρ i I)) (fun P H=>Z _ (Y.r.tabs P H).2.1 fun q=>Y.l.t (q▸H))
  rcases cb.mp e with e|⟨_,e⟩
  .exact aZ e
  .exact Y.r.hG g x e
 .rw [J];exact bb Y.r.hF (bU _)
 .rw [J]
  cases q:(R.un (iy X.env.locals U)).h s.heap.objs.size with
  |none=>rfl
  |some o=>exact absurd (bN (S _ o q)) (dW _)
 .rw [J];intro H
  obtain⟨_,_,w,y,_⟩:=Y.r.tabs _ H;exact absurd (bN y) (dW _)
 .rw [J];intro i I e
  obtain⟨_,_,_,o,z⟩:=Y.r.fre i I;exact absurd (bN z) (by rw [e];exact dW _)
theorem pk{N:Obj}{Y:Wd}{σ₁ V:AS}{Z U:Shared}(h:bQ T X' (R.un (iy X.env.locals N)) Y σ₁ Z)
  (S:bQ T X R W V U) (O:U.heap.get? X.env.locals=some N) (g:ci W U.heap Y Z.heap):
  bQ T X R Y ⟨V.loc,σ₁.st,σ₁.nx⟩ Z:=by
 have G:(R.un (iy X.env.locals N)).h X.env.locals=some N:=bx.mpr (.inl (cj.mpr ⟨rfl,rfl⟩));have B:∀a o,R.h a=some o->Z.heap.get? a=some o:=fun a o e=>by
  by_cases H:a=X.env.locals
  .subst H;rw [S.l.nR]at e;exact aZ e
  .exact h.r.hR a o (bx.mpr (.inr ⟨dz.mpr H,e⟩))
 refine⟨h.r.more B (fun g x e=>h.r.hG g x (cb.mpr (.inr ⟨rfl,e⟩))) (fun i J=>(aP.mp (h.r.fre i J).2.1).2) (fun P z=>(aP.mp (h.r.tabs P z).2.1).2),?_,h.nx⟩;obtain⟨m,D,E⟩:=S.l.m;refine⟨⟨m,D.at' fun o e=>?_,fun i x p M I=>let⟨v,w,y⟩:=E i x p M I;⟨v,w,y.mono g.ext⟩⟩,?_,S.l.nR,S.l.t,fun i J e=>?_,fun j x i C=>?_⟩
 .rw [O]at e;obtain rfl:=bc e
  exact h.r.hR _ _ G
 .cases q:Y.F X.env.locals with
  |none=>rfl
  |some o=>
   rcases g.fr _ o q with Q|Q
   .rw [S.l.nF]at Q;exact aZ Q
   .rw [O]at Q;exact kR Q
 .have:=(h.r.fre i J).2.1
  rw [e,G]at this;exact kR this
 .obtain⟨M,I⟩:=S.l.cv j x i C
  exact⟨eB M g.n,by rw [g.ρ i M];exact I⟩
noncomputable abbrev CF:=List PV->List (Nat×AO)->Nat->Option (PV×List (Nat×AO)×Nat)
noncomputable def pq(T:Tp)(b:Nat)(p:PV)(F:CF):Prop:=
 ∀X A R W σ s a o fd S V U Z Y,fJ b A->F S σ.st σ.nx=some (U,Z,Y)->bQ T X R W σ s->bn W p (.ref a)->s.heap.get? a=some o->o.data=.func fd->aN W S V->
  wpAny (model T.prog T.w) A (runValue (.call (.ref a) ⟨V,[]⟩)) (aT T X R W s U ⟨σ.loc,Z,Y⟩) bg s
open Classical in
noncomputable def lU(Y:PV)(F:CF)(P:ER)(Q:LR):ER:=fun σ=>match P σ with
 |some (p,σ₁)=>(match Q σ₁ with
  |some (S,Z)=>if p=Y then(match F S Z.st Z.nx with|some (q,V,U)=>some (q,⟨Z.loc,V,U⟩)|none=>none)else none
  |none=>none)
 |none=>none
noncomputable def NR:PV->Bool
 |.clo ..=>true
 |_=>false
theorem yQ{p:PV}(h:NR p=true):∃U V Z S Y Q,p=.clo U V Z S Y Q:=by
 cases p with
 |clo=>exact⟨_,_,_,_,_,_,rfl⟩
 |_=>exact EJ h
set_option tactic.hygienic true in
theorem aa.clo{f:Expr}{D:List Expr}{V:Pos}{Y:PV}{F:CF}{fc:ER}{fs:LR}(hf:aa T b X f fc)(m:ak T b X D fs)(hF:pq T b Y F)(hp:NR Y=true:=by rfl)(t:∀Q,(starEach D Q).any (·.1)=false:=by intro _;rfl)
  (k:∀Q,eval (.Call f D [] V) Q=(do callWith V (<-eval f Q) [] (backTo V (starEach D Q)) []):=by intro _;rfl):aa T b X (.Call f D [] V) (lU Y F fc fs):=by
 refine⟨?_⟩;intro A R W σ s pv z1 j P hr;unfold lU at P
 split at P
 .rename_i p σ₁ E
  split at P
  .rename_i g Z G
   split at P
   .rename_i v
    subst v
    split at P
    .rename_i q z2 z3 H
     cases P;rw [k];refine aM (aK (hf.1 A R W σ s p σ₁ j E hr) fun B u M I d O=>?_);have w:=d;obtain⟨e,h,z,z0,y,cs,rfl⟩:=yQ hp;obtain⟨_,a,o,rfl,n,z5,z6,pm,an,z7,ct,l,z4⟩:=d;obtain⟨i,J⟩:∃fd,o.data=.func fd:=⟨_,l⟩;refine rf (o:=o) (fd:=i) (cG (co (t _)) (bt (m.1 A R B σ₁ M g Z V j G O) (fun vs N hq=>?_) ay));obtain⟨C,S,x,U⟩:=hq;have c:=U.r.hF _ _ (S.F _ _ n);refine⟨⟨c,J⟩,?_⟩;exact dl (I.trans S) (hF X A R C Z N a o _ g vs _ _ _ j H U (w.mono S.ext) c J x)
    .exact aZ P
   .exact aZ P
  .exact aZ P
 .exact aZ P
noncomputable def fm(pn V:List Str)(f:SR):CF:=fun Y st U=>if Y.length=pn.length then
  (match f ⟨V.map (fun x=>(pn.zip Y).lookup x),st,U⟩with
   |some (.ret p,Z)=>some (p,Z.st,Z.nx)
   |some (.next,Z)=>some (.none,Z.st,Z.nx)
   |_=>none)else none
theorem yt{pn V:List Str}{f:SR}{Y:List PV}{st:List (Nat×AO)}{U:Nat}{r:PV×List (Nat×AO)×Nat}(h:fm pn V f Y st U=some r):
  Y.length=pn.length/\∃a Z,f ⟨V.map (fun x=>(pn.zip Y).lookup x),st,U⟩=some (a,Z)/\r.2=(Z.st,Z.nx)/\(a=.ret r.1\/a=.next/\r.1=.none):=by
 unfold fm at h
 split at h
 .rename_i S
  refine⟨S,?_⟩
  split at h
  .obtain rfl:=bc h;exact⟨_,_,by assumption,rfl,.inl rfl⟩
  .obtain rfl:=bc h;exact⟨_,_,by assumption,rfl,.inr ⟨rfl,rfl⟩⟩
  .exact aZ h
 .exact aZ h
theorem pq.step{O V:Str}{U:Arguments}{Y:List Stmt}{Z:Scope}{H:List (Str×Nat)}{pn vn:List Str}{f:SR}
  (y8:Z.isCoroutine=false) (z0:Z.isGenerator=false)
  (u:∀(P:List Value) (z2:List (Str×Addr)) (M pm:Value) (an:Option Addr) (Q ct:Value),P.length=pn.length->bindArgs (fnX O V U Y Z z2 .none .none M pm an Q ct) ⟨P,[]⟩=pure (pn.zip P))
  (hk:Z.kind=.function) (z:∀x∈Z.names,x.2≠.cell) (y0:∀x∈pn,Z.names.lookup x=some .local) (z9:pn.Nodup) (y7:(H.map (·.1)).Nodup)
  (w:∀fa L cd cl,ah T b ⟨nf V Z fa L cd cl,vn,H⟩ Y f):pq T (b+1) (.clo O V U Y Z H) (fm pn vn f):=by
 intro X A R W σ s a o fd ps P pv z3 z4 hA hF n hu ho hd E;obtain⟨hl,af,G,ef,z8,k⟩:=yt hF;obtain⟨y9,a',o',e,y6,x2,M,pm,an,Q,ct,x1,x0⟩:=hu;cases e;have y4:=n.r.hF _ _ y6;have D:P.length=pn.length:=by rw [<-E.length,hl]
 refine rN (yZ (fd:=fnX O V U Y Z (H.map fun x=>(x.1,W.ρ x.2)) .none .none M pm an Q ct) (body:=Y) (by have:=hA.dep;exact cq 0x80000422004210080010421 rfl this) y4 x1 y8 z0 rfl (x0 _ n.r.hF) ?_);rw [u P _ M pm an Q ct D];refine bI ?_
 have S:((pn.zip P).map (·.1))=pn:=rF D.symm;refine uY z (fun x hx=>y0 x.1 (by
  have:x.1∈(pn.zip P).map (·.1):=qY hx
  rwa [S]at this)) (fun J d z7=>?_) hk
 have y5:∀x,(pn.zip P).reverse.lookup x=(pn.zip P).lookup x:=fun x=>by
  cases q:(pn.zip P).lookup x with
  |none=>
   rw [yL]at q ⊢
   intro p hp;exact q p (qo.mp hp)
  |some v=>
   have hm:(x,v)∈pn.zip P:=by
    clear d S D E
    revert q
    generalize pn.zip P=l;intro q
    induction l with
    |nil=>exact aZ q
    |cons y l ih=>
     obtain⟨y1,y2⟩:=y;rw [dU]at q
     by_cases m:x=y1
     .subst m
      rw [uz,Option.some.injEq]at q
      subst q;exact .head _
     .have:(x==y1)=false:=by simp [m]
      rw [this]at q
      exact .tail _ (ih q)
   exact ma (by rw [Ii,S];exact List.pairwise_reverse.mpr (z9.imp fun h=>lW h)) (qo.mpr hm)
 obtain⟨oL,y3,B,keep⟩:=oV (X':=⟨nf V Z a s.heap.objs.size Q (H.map fun x=>(x.1,W.ρ x.2)),vn,H⟩) (loc':=vn.map (fun x=>(pn.zip ps).lookup x)) n d z7 (s.toks+(pn.zip P).length) rfl (fun i x p h1 h2=>by
   have h3:=qm h2;rw [kH,h1]at h3
   have h4:(pn.zip ps).lookup x=some p:=by simpa using h3
   have hz:=pO (pn:=pn) E (x:=x);rw [h4]at hz
   obtain⟨v,z6,z5⟩:=hz;exact⟨v,by rw [y5];exact z6,z5⟩) (fun j x i hj=>by
   have hm:=iB hj;refine⟨y9 _ hm,?_⟩;show(H.map fun x=>(x.1,W.ρ x.2)).lookup x=_;exact ma (by rw [lK];exact y7) (da.mpr ⟨(x,i),hm,rfl⟩))
 have t:FH W.F J:=fun c o e=>keep c o (n.r.hF c o e)
 refine⟨n.r.top.nolim _ t,?_⟩;show codeAny _ _ (.func Y (nf V Z a s.heap.objs.size Q (H.map fun x=>(x.1,W.ρ x.2)))) _ _;refine uB (bt ((w a s.heap.objs.size Q _).1 (A.deeper _) _ W _ _ af G (hA.deeper _) ef B) (fun fl s' hp=>?_) ay);obtain⟨N,g,z1,C⟩:=hp;have hg:ci W s.heap N s'.heap:=(ci.keep (W:=W) (h:=s.heap) (h':=J) keep).trans g;have I:=pk C n y3 hg;injection z8 with q1 q2
 rw [show z3=G.st from q1,show z4=G.nx from q2];rcases k with rfl|⟨rfl,hn⟩
 .obtain⟨v,rfl,hv⟩:=z1
  exact⟨N,hg,hv,I⟩
 .rw [show fl=.next from z1]
  refine⟨N,hg,?_,I⟩;rw [show pv=.none from hn];exact Bb
end
end
section
open PySem.Builtin
section
variable {T:Tp}{X:Cx}{R:Fz}{W:Wd}{σ:AS}{s:Shared}{b:Nat}{A:Around}
noncomputable def iw:List (Str×NameKind)->List Str
 |[]=>[]
 |(x,k)::r=>if k==.free then x::iw r else iw r
theorem RK:iw []=([]):=rfl
theorem RO(x k r):iw ((x,k)::r)=(if k==.free then x::iw r else iw r):=rfl
theorem se{Z:Scope}{V:Env}{g:Str->Addr}(h:∀x∈iw Z.names,V.cells.lookup x=some (g x)):closureFor Z V=pure ((iw Z.names).reverse.map fun x=>(x,g x)):=by
 have O:∀(Y:List (Str×NameKind)) (Q:List (Str×Addr)),(∀x∈iw Y,V.cells.lookup x=some (g x))->
   (forIn Y Q fun x r=>if x.2==NameKind.free then(do let a <-cellOf V x.1;pure (ForInStep.yield ((x.1,a)::r)):Sem (ForInStep (List (Str×Addr))))else pure (ForInStep.yield r))=pure (((iw Y).reverse.map fun x=>(x,g x))++Q):=by
  intro Y
  induction Y with
  |nil=>intro Q _;rfl
  |cons y Y M=>
   intro Q S;obtain⟨y,k⟩:=y;rw [rt];unfold iw at S ⊢
   by_cases J:(k==NameKind.free)=true
   .simp only [J,hO]at S ⊢
    have N:cellOf V y=pure (g y):=by
     unfold cellOf;rw [S y (.head _)]
    rw [N];have:=M ((y,g y)::Q) (fun x H=>S x (.tail _ H));rw [yN,lx,nU];exact this
   .simp only [J,vw,me]at S ⊢
    exact M Q S
 have I:=O Z.names [] h;unfold closureFor;show(forIn Z.names [] _ >>= _)=_;have e:(forIn Z.names ([]:List (Str×Addr)) fun x r=>match x with|(U,P)=>if(P==NameKind.free)=true then(do let a <-cellOf V U;pure (ForInStep.yield ((U,a)::r)):Sem (ForInStep (List (Str×Addr))))else pure (ForInStep.yield r))=pure ((iw Z.names).reverse.map fun x=>(x,g x)):=by rw [lw]at I;exact I
 rw [show(forIn Z.names ([]:List (Str×Addr)) _:Sem (List (Str×Addr)))=pure ((iw Z.names).reverse.map fun x=>(x,g x))from e];rfl
noncomputable def sE(i:Nat)(p:PV):SR:=fun σ=>match σ.st.lookup i with|some (.cell _)=>some (.next,{σ with st:=aG σ.st i (.cell (some p))})|_=>none
theorem bQ.made(Y:bQ T X R W σ s){P c':Addr}{oc fo:Obj}{f:Array Value}{V:Heap}(j:P∈T.tabs)(hx:Heap.ExtBut P s.heap V)(H:s.heap.objs.size<=c')(u:V.get? c'=some oc)(z3:fo.isFreed=false)
  (w:V.get? P=some (tabObj f)) (y:FT (T.tl P) ((W.fz c' oc).fz V.objs.size fo).F f) (k:Nat):
  ci W s.heap ((W.fz c' oc).fz V.objs.size fo) (V.push fo)/\bQ T X R ((W.fz c' oc).fz V.objs.size fo) σ {s with heap:=V.push fo,toks:=k}:=by
 obtain⟨tF,tR,g,tO,tT⟩:=Y.r.tabs P j;have N:=bN u;have keep:∀a o,a≠P->s.heap.get? a=some o->(V.push fo).get? a=some o:=fun a o z2 e=>dS _ (hx a o z2 e)
 have O {F:Addr->Option Obj} (hF:F P=none):∀a o,F a=some o->a≠P:=fun a o e q=>by rw [q,hF]at e;exact aZ e
 have C:s.heap.objs.size<=V.objs.size:=bP H (kr N);have z5:W.F c'=none:=bb Y.r.hF H;have z4:(W.fz c' oc).F V.objs.size=none:=by
  show(if _=_ then _ else _)=_;rw [aO (ng N)];exact bb Y.r.hF C
 have z0:=Wd.fz_ext W (o:=oc) z5;have d:=Wd.fz_ext (W.fz c' oc) (o:=fo) z4;have M:∀a o,W.F a=some o->((W.fz c' oc).fz V.objs.size fo).F a=some o:=fun a o e=>d.F _ _ (z0.F _ _ e)
 have U:∀a o,((W.fz c' oc).fz V.objs.size fo).F a=some o->(a=V.objs.size/\o=fo)\/(a=c'/\o=oc)\/W.F a=some o:=fun a o e=>by
  by_cases Z:a=V.objs.size
  .subst Z
   have:some fo=some o:=by
    have B:(if V.objs.size=V.objs.size then some fo else(W.fz c' oc).F V.objs.size)=some o:=e
    rwa [aJ rfl]at B
   obtain rfl:=bc this;exact .inl ⟨rfl,rfl⟩
  .have B:(if a=V.objs.size then some fo else(W.fz c' oc).F a)=some o:=e
   rw [aO Z]at B
   have E:(if a=c' then some oc else W.F a)=some o:=B
   by_cases J:a=c'
   .rw [aJ J]at E;obtain rfl:=bc E;exact .inr (.inl ⟨J,rfl⟩)
   .rw [aO J]at E;exact .inr (.inr E)
 have S:∀a o,s.heap.get? a=some o->W.F a=none->((W.fz c' oc).fz V.objs.size fo).F a=none:=fun a o e hn=>by
  have I:=bN e;cases q:((W.fz c' oc).fz V.objs.size fo).F a with
  |none=>rfl
  |some z=>
   rcases U a z q with⟨Z,_⟩|⟨Z,_⟩|Z
   .rw [Z]at I;exact absurd I (kf.mpr C)
   .rw [Z]at I;exact absurd I (kf.mpr H)
   .rw [hn]at Z;exact aZ Z
 have th:∀a o,s.heap.get? a=some o->∃z,(V.push fo).get? a=some z:=fun a o e=>by
  by_cases ha:a=P
  .subst ha;exact⟨_,dS _ w⟩
  .exact⟨o,keep a o ha e⟩
 refine⟨⟨M,fun a o e=>?_,bU _,fun i hi=>rfl,th⟩,⟨?_,?_,Y.nx⟩⟩
 .rcases U a o e with⟨Z,_⟩|⟨Z,_⟩|Z
  .refine .inr ?_
   cases q:s.heap.get? a with
   |none=>rfl
   |some z=>have:=bN q;rw [Z]at this;exact absurd this (kf.mpr C)
  .refine .inr ?_
   cases q:s.heap.get? a with
   |none=>rfl
   |some z=>have:=bN q;rw [Z]at this;exact absurd this (kf.mpr H)
  .exact .inl Z
 .refine⟨Y.r.top.mono M,fun a o e=>?_,fun a o e=>keep a o (O tR a o e) (Y.r.hR a o e),Y.r.hG,fun i ao e=>?_,fun i hi=>?_,Y.r.inj,fun Q hQ=>?_,Y.r.bare,Y.r.os,Y.r.sysm⟩
  .rcases U a o e with⟨rfl,rfl⟩|⟨rfl,rfl⟩|Z
   .exact im _ z3
   .exact dS _ u
   .exact keep a o (O tF a o Z) (Y.r.hF a o Z)
  .obtain⟨Z,o,J,G⟩:=Y.r.trk i ao e
   exact⟨Z,o,keep _ _ (fun q=>(Y.r.fre i Z).2.2.1 (q▸j)) J,G.mono ⟨M,bU _,fun _ _=>rfl⟩⟩
  .obtain⟨Z,J,G,o,D⟩:=Y.r.fre i hi
   exact⟨S _ o D Z,J,G,o,keep _ _ (fun q=>G (q▸j)) D⟩
  .by_cases n:Q=P
   .subst n
    exact⟨S _ _ tO tF,tR,f,dS _ w,y⟩
   .obtain⟨Z,J,qs,G,D⟩:=Y.r.tabs Q hQ
    refine⟨S _ _ G Z,J,qs,keep _ _ n G,?_⟩;rcases D with D|⟨c,e,h5⟩
    .exact .inl D
    .exact .inr ⟨c,e,fun h hh=>h5 h fun a o B=>hh a o (M a o B)⟩
 .obtain⟨m,hm,hl⟩:=Y.l.m
  obtain⟨oL,_,_,z1,_⟩:=id hm;have z6:X.env.locals≠P:=fun q=>Y.l.t (q▸j)
  refine⟨⟨m,hm.at' fun o e=>keep _ o z6 e,fun i x p Z J=>let⟨v,G,D⟩:=hl i x p Z J;⟨v,G,D.mono ⟨M,bU _,fun _ _=>rfl⟩⟩⟩,S _ oL z1 Y.l.nF,Y.l.nR,Y.l.t,Y.l.ρ,Y.l.cv⟩
set_option tactic.hygienic true in
theorem ax.defn(hX:bf X){V q:Str}{Z:Arguments}{U:List Stmt}{Y:Scope}{d:Pos}(j i:Nat){P c:Addr}{cs:List (Str×Nat)}(hx:X.cv[j]?=some (V,i))(D:X.env.scope.names.lookup V=some .cell)
  (hP:P∈T.tabs) (G:X.env.code=.ref c) (y3:∀h:Heap,Frag.In T.K h->CodeHd h c P) (hq:qualnameIn X.env V V=q) (v:T.tl P=(d.line,d.col,q))
  (z6:cs.map (·.1)=(iw Y.names).reverse) (y8:∀x∈cs,x∈X.cv) (x7:(cs.map (·.1)).Nodup)
  (hd:Z.defaults=[]) (y2:Z.kw_defaults=[]) (z7:annTrees Z none X.env=[]):
  ax T b X (.FunctionDef V Z U [] none [] Y none V d) (sE i (.clo V q Z U Y cs)):=by
 refine⟨?_⟩;intro A R W σ s a x5 hA hf I;unfold sE at hf
 split at hf
 .rename_i x3 e
  cases hf;have S:∀x∈cs,X.env.cells.lookup x.1=some (W.ρ x.2)/\x.2<W.n:=fun x Q=>by
   obtain⟨j',z3⟩:=qe (y8 x Q)
   exact⟨(I.l.cv j' x.1 x.2 z3).2,(I.l.cv j' x.1 x.2 z3).1⟩
  have E:closureFor Y X.env=pure (cs.map fun x=>(x.1,W.ρ x.2)):=by
   rw (occs:=.all) [se (g:=fun x=>(X.env.cells.lookup x).getD 0) (fun x Q=>?_)]
   .congr 1
    rw (occs:=.all) [<-z6,lK];exact AD fun x Q=>by show(x.1,(X.env.cells.lookup x.1).getD 0)=_;rw (occs:=.all) [(S x Q).1];rfl
   .have:x∈cs.map (·.1):=by rw (occs:=.all) [z6];exact qo.mpr Q
    obtain⟨y,hy,rfl⟩:=da.mp this;rw (occs:=.all) [(S y hy).1];rfl
  obtain⟨w,bm,ob,m,y7,y6,p,y5,y4,z5⟩:=I.r.top.bm s.heap I.r.hF;obtain⟨tF,tR,ps,tO,tT⟩:=I.r.tabs P hP;have y9:bm≠P:=fun q=>by rw [q,tF]at p;exact aZ p
  have x1:mainGlobals≠P:=fun q=>by
   obtain⟨o,es,ep,e1,e2,_⟩:=m;rw [q,tO]at e1;cases e1;cases e2
  have x0:bm≠mainGlobals:=fun q=>by
   obtain⟨o,es,ep,e1,e2,_⟩:=m;have:=I.r.hF _ _ p;rw [q,e1]at this;cases this;rw [z5]at e2;cases e2
  have z9:s.heap.BuiltinsAt w P:=⟨bm,ob,y7,y6,x0,y9,I.r.hF _ _ p,y5,y4,z5⟩;have z8:=y3 s.heap fun a o e=>I.r.hF a o (I.r.top.kin a o e)
  refine nestDef_K hd y2 z7 ?_
  rw (occs:=.all) [hq];rcases tT with rfl|⟨B,rfl,N⟩
  .refine makeFunction_K (mg:=w) E hX.glob m G z8 tO trivial rfl x1 z9 fun H J M h' tk Q z4 x8 N y0=>?_
   obtain⟨x4,k,vs,t,e2,u,f,hv⟩:=N;cases e2;have hm:=I.made (P:=P) (c':=H) (oc:=k) (fo:=fnMade V q Z U Y (cs.map fun x=>(x.1,W.ρ x.2)) M ((w "__name__").getD .none) H J) hP Q z4 u rfl y0
    (.inr ⟨H,by rw (occs:=.all) [v];rfl,fun h hh=>⟨H,k,vs,t,rfl,hh _ _ (Wd.fz_ext (W.fz H k) (by
     show(if _=_ then _ else _)=_;rw (occs:=.all) [aO (ng (bN u))];exact bb I.r.hF (bP z4 (kr (bN u)))) |>.F _ _ (by show(if _=_ then _ else _)=_;rw (occs:=.all) [aJ rfl])),f,by rw (occs:=.all) [v];exact hv⟩⟩) tk
   have x2:((W.fz H k).fz h'.objs.size (fnMade V q Z U Y (cs.map fun x=>(x.1,W.ρ x.2)) M ((w "__name__").getD .none) H J)).F H=some k:=by
    show(if _=_ then _ else _)=_;rw (occs:=.all) [aO (fH (bN u))];show(if _=_ then _ else _)=_;rw (occs:=.all) [aJ rfl]
   have z0:bn ((W.fz H k).fz h'.objs.size (fnMade V q Z U Y (cs.map fun x=>(x.1,W.ρ x.2)) M ((w "__name__").getD .none) H J)) (.clo V q Z U Y cs) (.ref h'.objs.size):=
    ⟨fun x Q=>(S x Q).2,_,_,rfl,by show(if _=_ then _ else _)=_;rw (occs:=.all) [aJ rfl],rfl,_,_,_,_,_,rfl,fun h hh=>⟨H,k,vs,t,rfl,hh _ _ x2,f,hv⟩⟩
   exact fB (lE hX hx D hm.2 e z0) fun z z1 C O=>⟨z,hm.1.trans C,rfl,O⟩
  .refine makeFunction_hit (mg:=w) E hX.glob m G z8 tO (by exact trivial) (cv:=.ref B) (by rw (occs:=.all) [v];simp [codeAmong,rawInt]) z9 fun J M h' tk z2 x6=>?_
   have y1:bQ T X R W σ {s with heap:=h',toks:=tk}:=I.ext z2 rfl rfl;have hm:=y1.newF (o:={cls:=Value.type "function",data:=Data.func (fnX V q Z U Y (cs.map fun x=>(x.1,W.ρ x.2)) .none .none M ((w "__name__").getD .none) none (.ref B) J)}) rfl tk;have z0:bn (W.fz h'.objs.size {cls:=Value.type "function",data:=Data.func (fnX V q Z U Y (cs.map fun x=>(x.1,W.ρ x.2)) .none .none M ((w "__name__").getD .none) none (.ref B) J)}) (.clo V q Z U Y cs) (.ref h'.objs.size):=
    ⟨fun x Q=>(S x Q).2,_,_,rfl,hm.2.1,rfl,_,_,_,_,_,rfl,fun h hh=>by rw [v]at N;exact N h fun a o q'=>hh a o (hm.1.F a o q')⟩
   exact fB (lE hX hx D hm.2.2 e z0) fun z z1 C O=>⟨z,((ci.keep z2).trans hm.1).trans C,rfl,O⟩
 .exact aZ hf
end
end
section
open PySem.Builtin
section
variable {T:Tp}{X:Cx}{R:Fz}{W:Wd}{σ:AS}{s:Shared}{b:Nat}{A:Around}
inductive QX(a:Addr)(W:Wd)(k:IK)(z:Fz):Prop
 |mk(i j:Nat)(ek:k=.rev i j)(hi:i<W.n)(o:Obj)(ez:z=iy a o)(hio:QL "list_reverseiterator" #[.ref (W.ρ i),.int ((j:Int)-1) 0] o)
set_option tactic.hygienic true in
theorem tc(a:Addr):ll T b X A (.ref a) (QX a) where
 mono:=fun W W' k z g h=>by
  obtain⟨i,j,d,S,o,e,Z⟩:=h;exact⟨i,j,d,eB S g.n,o,e,by rw [g.ρ _ S];exact Z⟩
 step:=fun R W σ s k z p k' B U V Y=>by
  obtain⟨i,j,rfl,S,o,rfl,Z⟩:=U;cases j with
  |zero=>cases Y
  |succ j=>
   refine cE (show(cN (σ.st.lookup i)).bind _=_ from Y) fun u e Y=>?_
   obtain⟨t,y,Y⟩:=iO.mp Y;cases Y;obtain⟨_,c,J,w,n,rfl,N⟩:=V.rel.r.trk i _ (dE e);obtain⟨x,m,O⟩:=N.get y;refine wpAny_pyNext_rev_item (it:=a) (l:=W.ρ i) (i:=j) (items:=w) (x:=x) ⟨o,V.here,Z.1,by rw [Z.2,show((j+1:Nat):Int)-1=j from by exact cX (Mb) (LP)];rfl⟩ ⟨_,J,rfl,n,rfl⟩ (by simpa using m) fun f H M=>?_
   obtain⟨q,I,F,G⟩:=H;obtain⟨C,D⟩:=V.upd M I s.toks;exact⟨x,W,_,rfl,O,⟨i,j,rfl,S,q,rfl,F,G⟩,C,D⟩
 done:=fun R W σ s k z B U V Y=>by
  obtain⟨i,j,rfl,S,o,rfl,Z⟩:=U;cases j with
  |succ j=>
   refine cE (show(cN (σ.st.lookup i)).bind _=_ from Y) fun u e Y=>?_
   obtain⟨t,y,Y⟩:=iO.mp Y;exact kR Y
  |zero=>
   refine wpAny_pyNext_rev_end B.hnd (it:=a) (l:=W.ρ i) ⟨o,V.here,Z.1,by rw [Z.2];rfl⟩ fun f M=>?_
   obtain⟨C,D⟩:=V.fin M s.toks;exact⟨W,rfl,C,D⟩
 own:=fun R W σ s k z P v Q E U V h=>by
  obtain⟨i,j,rfl,S,o,rfl,Z⟩:=U;exact gI V.here Z.1 Z.2 (by decide) h
 self:=fun R W σ s k z Q E U V h=>by
  obtain⟨i,j,rfl,S,o,rfl,Z⟩:=U;exact wpAny_pyIter_revIter (it:=a) (l:=W.ρ _) (i:=_) ⟨o,V.here,Z.1,Z.2⟩ h
noncomputable def NC:PV->Option Nat
 |.loc i=>some i
 |_=>none
theorem yW{p:PV}{i:Nat}(h:NC p=some i):p=.loc i:=by
 cases p with
 |loc j=>obtain rfl:=(bc h).symm;rfl
 |_=>exact aZ h
noncomputable def uX(f:ER):AS->Option (IK×AS):=eY f fun p σ=>(NC p).bind fun i=>(cN (σ.st.lookup i)).bind fun Z=>some (.rev i Z.length,σ)
theorem bR.rev{G e:Expr}{U:Pos}{f:ER}(l:aa T b X G (ab (.val (.type "reversed"))))(h:aa T b X e f)(t:∀V,starEach [e] V=[(false,eval e V)]:=by intro _;rfl)
  (F:∀V,eval (.Call G [e] [] U) V=(do callWith U (<-eval G V) [] (backTo U (starEach [e] V)) []):=by intro _;rfl):bR T b X (.Call G [e] [] U) (uX f):=by
 refine⟨?_⟩;intro A R W σ s k z B P r;obtain⟨p,σ₁,I,P⟩:=aX P;refine cE P fun i j P=>cE P fun D J P=>?_
 cases P;cases yW j;rw [F,t];refine aM (aK (l.1 A R W σ s _ σ B rfl r) fun H u O M w Q=>?_);rw [show u=.type "reversed" from w];refine AN rfl (vB (qM (aK (h.1 A R H σ O _ _ B I Q) fun S v Z N x Y=>rK ?_)));obtain⟨m,rfl⟩:=x;obtain⟨E,n,q,y,o⟩:=cT Y (dE J);refine call_reversed_list (items:=E) ⟨_,q,rfl,n,rfl⟩ ?_
 have C:QX Z.heap.objs.size S (.rev i D.length) (iy Z.heap.objs.size (revObj (S.ρ i) ((E.size:Int)-1))):=⟨i,D.length,rfl,m,_,rfl,rfl,by rw [<-o];rfl⟩;exact(tc (b:=b) Z.heap.objs.size).self _ _ _ _ _ _ _ _ C (dh.new Y rfl Z.toks).1 (kh.new (M.trans N) Y rfl (fun X=>tc Z.heap.objs.size) C)
noncomputable def kA:SR:=fun _=>none
theorem ax.dead{st:Stmt}:ax T b X st kA:=⟨fun _ _ _ _ _ _ _ _ h _=>by exact aZ h⟩
theorem ah.dead{st:List Stmt}:ah T b X st kA:=⟨fun _ _ _ _ _ _ _ _ h _=>by exact aZ h⟩
noncomputable def QO:SR:=fun σ=>some (.ret .none,σ)
theorem ax.retNone{Z:Pos}:ax T b X (.Return none Z) QO:=by
 refine⟨?_⟩;intro A R W σ s a Y S U V;cases U;exact wpAny_Return_none ⟨W,ci.refl ..,⟨_,rfl,rfl⟩,V⟩
end
end
section
open PySem.Builtin
section
variable {prog:Program}{w:World}{A:Around}{E:Value->Shared->Prop}{s:Shared}
theorem oQ{a:Addr}{g n:Nat}{gs:GenState}{P:Nat->Shared->Shared->Prop}{Y:Protocol}{Q:Option Value->Shared->Prop}(D:A.handled=none)
  (F:s.heap.NoLimit) (V:A.depth<recursionLimit)
  (O:s.heap.IsGen a g) (S:s.gens[g]?=some gs)
  (U:gs.Goes (model prog w) A.in1 (fun n X r Z=>r=.ok (.ret .none)/\P n X Z) Y n (.send .none) (s.setGen g .running))
  (C:∀v Z W,W.bare=true->Y (n-1) (s.setGen g .running) v Z (fun J R=>match n with
    |0=>False
    |m+1=>W.Goes (model prog w) A.in1 (fun n X r Z=>r=.ok (.ret .none)/\P n X Z) Y m J R)->Q (some v) (Z.setGen g W))
  (B:∀Z,P n (s.setGen g .running) Z->∀M,(∀b o,Z.heap.get? b=some o->M.get? b=some o)->Q none {Z.setGen g .finished with heap:=M}):
  wpAny (model prog w) A (pyNext (.ref a)) Q E s:=by
 unfold pyNext;refine aM (wpAny_attempt (FJ (name:=Str.ofString "__next__") O.typeIs slot_gen_next
  (vm slot_gen_next O.typeIs entry_gen_next ?_ (args_gen_next _))))
 show wpAny _ _ (Builtin.Generator.genWake (.ref a) (.send .none)) _ _ s;unfold Builtin.Generator.genWake;refine aM (fZ (wpAny_genNumber O (aM (wpAny_genState S ?_))));cases gs with
 |running=>exact U.elim
 |finished=>exact U.elim
 |_=>
  refine aM (wpAny_roomToWake F V ?_);show wpAny _ _ (.resume g (.send .none) [] _) _ _ s;refine wpAny_resumeQ S U (fun x Z I=>?_) (fun v Z W N H=>?_)
  .obtain⟨rfl,G⟩:=I
   show wpAny _ _ (newExc (.type "StopIteration") [] >>= _) _ _ _;refine aM ?_
   simp only [newExc,newTuple];refine aM (JR ?_ (by size_fits));refine aM (m:=firstArgMember _ _) (jp (a:=Value.none) (by first|rfl|(simp only [firstArgMember];rfl)) ?_);refine JR ?_ (by size_fits)
   dsimp only [raiseNew];refine aM (aM (wpAny_handled ?_));rw [show A.in1.handled=none from D];refine wpAny_throw ?_
   refine aM (wpAny_isInstance (T:="StopIteration") (b:=true) ⟨_,im _ rfl,rfl⟩ isSubtype_stop ?_);exact bI (B Z G _ fun b o N=>dS _ (dS _ N))
  .exact bI ⟨v,rfl,bI (C v Z W N H)⟩
end
section
variable {M:Model}{A:Around}{R:GenEnd}{Y:Protocol}{n:Nat}{s₀:Shared}{c:Code}{fs:List Frame}{s:Shared}{env:Env}
 {K:Flow->Sem Fin} {H:Value->Sem Fin} {gd:Bool->Bool} {lv:List Value->List Value}
theorem jE{W X:Type}{m:Sem W}{f:W->Sem X}{K:X->Sem Fin}
  (h:wpAny M (A.over c fs) m (fun a Z=>Seg M A R Y n s₀ c ((f a).wrap K H gd lv) fs Z) (fun x Z=>Seg M A R Y n s₀ c (H x) fs Z) s):
  Seg M A R Y n s₀ c ((m >>= f).wrap K H gd lv) fs s:=by
 rw [uT,rB];exact zk h
theorem As{X:Expr}{W Z:List Stmt}{U:Pos}
  (h:wpAny M (A.over c fs) (isTrue X env (eval X env)) (fun b V=>if b=true then Seg M A R Y n s₀ c ((execs W env).wrap K H gd lv) fs V else Seg M A R Y n s₀ c ((execs Z env).wrap K H gd lv) fs V)
   (fun x V=>Seg M A R Y n s₀ c (H x) fs V) s):Seg M A R Y n s₀ c ((exec (.If X W Z U) env).wrap K H gd lv) fs s:=by
 rw [exec_If];show Seg M A R Y n s₀ c (.at U fun _=>(isTrue X env (eval X env) >>= fun b=>if b=true then execs W env else execs Z env).wrap K H gd lv) fs s;refine seg_at ?_
 rw [uT,rB];refine zk (bt h (fun b V T=>?_) fun _ _ x=>x);cases b with
 |true=>rw [aJ rfl]at T ⊢;exact T
 |false=>rw [aO iA]at T ⊢;exact T
theorem qE{st:Stmt}(h:wpAny M (A.over c fs) (exec st env) (fun f Z=>Seg M A R Y n s₀ c (K f) fs Z) (fun x Z=>Seg M A R Y n s₀ c (H x) fs Z) s):
  Seg M A R Y n s₀ c ((exec st env).wrap K H gd lv) fs s:=zk h
theorem KC{Z iter:Expr}{W X:List Stmt}{P:Pos}(N:∀x,foldedSetIterable iter env x=pure x)
  (h:wpAny M (A.over c fs) (eval iter env) (fun x U=>wpAny M (A.over c fs) (pyIter x) (fun O V=>∀p,Seg M A R Y n s₀ (.forLoop Z O W X env) (M.den (.forLoop Z O W X env))
   (.ret (fun r=>((match r with|.ok f=>(.pure f:Sem Flow)|.error e=>.raise e).onRaise fun(x:Value)=>do
    if(<-field x 1)==Value.none then unsupported "frame.own-activation:exception-without-traceback"
    setFlight x env.frame).wrap K H gd lv) none (gd false) (lv []) c p []::fs) V) (fun x Q=>Seg M A R Y n s₀ c (H x) fs Q) U) (fun x Q=>Seg M A R Y n s₀ c (H x) fs Q) s):
  Seg M A R Y n s₀ c ((exec (.For Z iter W X P) env).wrap K H gd lv) fs s:=by
 rw [exec_For];refine jE (ic (jE (bt h (fun x U S=>?_) fun _ _ x=>x)));rw [N];refine jE (bI (jE (ic (jE (fZ (bt S (fun O V T=>?_) fun _ _ x=>x))))));exact seg_call T
end
section
variable {prog:Program}{w:World}{A:Around}{R:GenEnd}{Y:Protocol}{n:Nat}{s₀:Shared}{fs:List Frame}{s:Shared}{env:Env}
noncomputable def Np(c:Code):Flow->Sem Fin
 |.next|.cont=>.pure (.again c)
 |.brk=>.pure (.done .next)
 |.ret v=>.pure (.done (.ret v))
noncomputable def qC(env:Env)(e:Value):Sem Fin:=(do noteFrame e env;theTreesLotGoes e:Sem Unit).wrap (fun _=>.raise e) .raise id id
theorem ph{Z:Expr}{V:Value}{W X:List Stmt}
  (h:wpAny (model prog w) (A.over (.forLoop Z V W X env) fs) (pyNext V) (fun r U=>match r with
   |none=>Seg (model prog w) A R Y n s₀ (.forLoop Z V W X env) (.pure (.again (.block X env))) fs U
   |some v=>wpAny (model prog w) (A.over (.forLoop Z V W X env) fs) (letOwnedTupleGo Z V v) (fun _ S=>wpAny (model prog w) (A.over (.forLoop Z V W X env) fs) (assign Z env v)
     (fun _ T=>Seg (model prog w) A R Y n s₀ (.forLoop Z V W X env) ((execs W env).wrap (Np (.forLoop Z V W X env)) (qC env) id id) fs T) bg S) bg U) bg s):
  Seg (model prog w) A R Y n s₀ (.forLoop Z V W X env) ((model prog w).den (.forLoop Z V W X env)) fs s:=by
 show Seg _ A R Y n s₀ _ ((forTurn Z V W X env).onRaise (fun x=>do noteFrame x env;theTreesLotGoes x)) fs s;rw [Hh];unfold forTurn;refine jE (ic (jE (uA (bt h (fun r U Q=>?_) ay))));cases r with
 |none=>exact Q
 |some v=>
  refine jE (bt Q (fun _ S O=>jE (bt O (fun _ T P=>?_) ay)) ay);rw [uT,rB];rw [GQ (execs W env) _ _ (K':=Np (.forLoop Z V W X env)) (H':=qC env) (fun f=>by cases f<;>rfl)
   (fun e=>by unfold qC;first|exact Aa _ _|(show(do noteFrame e env;theTreesLotGoes e:Sem Unit).bind (fun _=>.raise e)=_;rw [Aa]))]
  exact P
theorem Ex{Z:List Stmt}(h:Seg (model prog w) A R Y n s₀ (.block Z env) ((execs Z env).wrap (fun f=>.pure (.done f)) (qC env) id id) fs s):
  Seg (model prog w) A R Y n s₀ (.block Z env) ((model prog w).den (.block Z env)) fs s:=by
 show Seg _ A R Y n s₀ _ (((execs Z env).onRaise (fun x=>do noteFrame x env;theTreesLotGoes x)) >>= fun f=>pure (.done f)) fs s;rw [Hh,uT,rB];refine cast (bw (fun t=>Seg (model prog w) A R Y n s₀ (.block Z env) t fs s) (GQ (execs Z env) _ _ (fun f=>rfl) (fun e=>?_))) h;unfold qC;rw [Aa,rB];rfl
end
end
section
open PySem.Builtin
section
variable {T:Tp}{X:Cx}{R:Fz}{W:Wd}{σ:AS}{s s' s₀:Shared}{b:Nat}{A:Around}
noncomputable def Tp.nt(T:Tp):Tp:={T with tabs:=[]}
noncomputable def base(F:Addr->Option Obj):Wd:=⟨F,fun _=>0,0⟩
structure de(os:OsState)(own:List Addr)(s₀ s₁:Shared):Prop where
 heap:∀a o,a∉own->s₀.heap.get? a=some o->s₁.heap.get? a=some o
 gens:∀(g:Nat) x,s₀.gens[g]?=some x->s₁.gens[g]?=some x
 bare:AllBare s₁.gens
 os:s₁.os=os
theorem de.trans{os:OsState}{own:List Addr}{s₀ Y Z:Shared}(a:de os own s₀ Y)(c:de os own Y Z):de os own s₀ Z:=
 ⟨fun x o h e=>c.heap x o h (a.heap x o h e),fun g x e=>c.gens g x (a.gens g x e),c.bare,c.os⟩
structure ju(T:Tp)(F:Addr->Option Obj)(own:List Addr)(s:Shared):Prop where
 top:jc T F
 hF:FH F s.heap
 none:∀a∈own,F a=none
 bare:AllBare s.gens
 os:s.os=T.os
theorem ju.go{F:Addr->Option Obj}{own:List Addr}{Z:Shared}(h:ju T F own s)(g:de T.os own s Z):ju T F own Z:=
 ⟨h.top,fun a o e=>g.heap a o (fun Y=>by rw [h.none a Y]at e;exact aZ e) (h.hF a o e),h.none,g.bare,g.os⟩
theorem jc.nt{F:Addr->Option Obj}(h:jc T F):jc T.nt F:=⟨h.kin,h.glob,h.blt,h.nolim,h.big,h.bm⟩
theorem Un{F:Addr->Option Obj}{own:List Addr}{loc:List (Option PV)}(h:ju T F own s)(U:X.env.locals∈own)(Y:X.cv=[])(S:∃m,s.heap.Ns X.env.locals m/\∀(i:Nat) x p,X.vars[i]?=some x->fQ loc i=some p->∃v,m x=some v/\bn (base F) p v):
  bQ T.nt X (eT s own) (base F) ⟨loc,[],0⟩ s:=
 {r:={top:=h.top.nt,hF:=h.hF,hR:=fun a o e=>(dZ.mp e).2,hG:=fun g x e=>e,trk:=(fun i Q e=>by exact aZ e),fre:=fun i Z=>absurd Z (fg i),inj:=fun i j Z=>absurd Z (fg i),tabs:=(fun P V=>by cases V),bare:=h.bare,os:=h.os,sysm:=fun i Z=>absurd Z (fg i)}
  l:={m:=S,nF:=h.none _ U,nR:=hZ U,t:=(fun V=>by cases V),ρ:=fun i Z=>absurd Z (fg i),cv:=(fun j x i e=>by rw [Y]at e;trivial)}
  nx:=rfl}
theorem vS{own:List Addr}(h:bQ T.nt X (eT s own) W σ s'):de T.os own s s':=
 ⟨fun a o Z e=>h.r.hR a o (dZ.mpr ⟨Z,e⟩),fun g x e=>h.r.hG g x e,h.r.bare,h.r.os⟩
noncomputable def eQ:Nat->Bool->List Nat->List PV
 |_,_,[]=>[]
 |i,true,c::Z=>.tup [.int i,.str ⟨#[92,c]⟩]::eQ (i+1) false Z
 |i,false,c::Z=>if c=92 then eQ (i+1) true Z else .tup [.int i,.str ⟨#[c]⟩]::eQ (i+1) false Z
theorem kY(w1_ w2_):eQ w1_ w2_ []=([]):=rfl
theorem lb(i c cs):eQ i true (c::cs)=(.tup [.int i,.str ⟨#[92,c]⟩]::eQ (i+1) false cs):=rfl
theorem lf(i c cs):eQ i false (c::cs)=(if c=92 then eQ (i+1) true cs else .tup [.int i,.str ⟨#[c]⟩]::eQ (i+1) false cs):=rfl
noncomputable def eH:Bool->List Nat->Bool
 |e,[]=>e
 |true,_::Z=>eH false Z
 |false,c::Z=>eH (c==92) Z
inductive QZ(T:Tp)(F:Addr->Option Obj)(own:List Addr)(its:List PV)(n:Nat)(s₀:Shared)(v:Value)(s₁:Shared)(kap:Resume->Shared->Prop):Prop
 |mk(ps:List PV)(a:Addr)(vs:Array Value)(k:Nat)(h1:its[its.length-1-n]?=some (.tup ps))(h2:v=.ref a)(h3:s₁.heap.get? a=some {cls:=.type "tuple",data:=.seq vs k})(h4:a∉own)
  (h5:F a=some {cls:=.type "tuple",data:=.seq vs k}\/s₀.heap.get? a=none) (h6:aN (base F) ps vs.toList) (h7:de T.os own s₀ s₁) (h8:∀c∈own,∃o,s₁.heap.get? c=some o)
  (h9:∀s'',(∀c∈own,∀o,s₁.heap.get? c=some o->s''.heap.get? c=some o)->ju T F own s''->kap (.send .none) s'')
noncomputable def sj(T:Tp)(F:Addr->Option Obj)(own:List Addr)(Z:List PV):Protocol:=QZ T F own Z
noncomputable def El(T:Tp)(own:List Addr):GenEnd:=fun n s₀ r Z=>r=.ok (.ret .none)/\(n=0/\de T.os own s₀ Z)
noncomputable def mf:PV->Bool
 |.int _|.str _|.bool _|.none=>true
 |_=>false
theorem bn.plain{W Y:Wd}{p:PV}{v:Value}(Z:mf p=true)(h:bn W p v):bn Y p v:=by
 cases p<;>first|exact h|exact EJ Z
theorem aN.plain{W P:Wd}:∀{Y:List PV} {Z:List Value},Y.all mf=true->aN W Y Z->aN P Y Z
 |[],Z,_,h=>h
 |p::Y,Z,U,h=>by
  rw [List.all_cons,dw]at U
  obtain⟨v,V,e,Q,S⟩:=h;exact⟨v,V,e,Q.plain U.1,aN.plain U.2 S⟩
noncomputable def eF(x:Str)(Z:Int)(esc:Bool)(Y:Option Str):List (Option PV):=[cS x,cI Z,some (.bool esc),Y.map .str]
structure fK(T:Tp)(X:Cx)(F:Addr->Option Obj)(own:List Addr)(x:Str)(pv:Int)(esc:Bool)(ch:Option Str)(s:Shared):Prop where
 base:ju T F own s
 loc:∃m,s.heap.Ns X.env.locals m/\∀(j:Nat) y p,X.vars[j]?=some y->fQ (eF x pv esc ch) j=some p->∃v,m y=some v/\bn (Mine.base F) p v
structure jH(e it:Addr)(x:Str)(t:Tok)(i:Nat)(s:Shared):Prop where
 en:∃old,IsEnum s.heap e it i old
 si:s.heap.IsStrIter it "str_ascii_iterator" x t i
theorem jH.keep{e Z:Addr}{x:Str}{t:Tok}{i:Nat}(h:jH e Z x t i s)(U:∀o,s.heap.get? e=some o->s'.heap.get? e=some o)(V:∀o,s.heap.get? Z=some o->s'.heap.get? Z=some o):jH e Z x t i s':=
 ⟨let⟨Y,S⟩:=h.en;⟨Y,U _ S⟩,let⟨o,P,Q⟩:=h.si;⟨o,V _ P,Q⟩⟩
theorem ju.sub{F:Addr->Option Obj}{own Z:List Addr}(h:ju T F own s)(Y:∀a∈Z,a∈own):ju T F Z s:=⟨h.top,h.hF,fun a V=>h.none a (Y a V),h.bare,h.os⟩
theorem de.sub{os:OsState}{own Z:List Addr}(h:de os own s s')(Y:∀a∈own,a∈Z):de os Z s s':=⟨fun a o V e=>h.heap a o (fun U=>V (Y a U)) e,h.gens,h.bare,h.os⟩
theorem gE{x:Str}{Y:Int}{esc:Bool}{Z:Option Str}{j:Nat}{p:PV}(h:fQ (eF x Y esc Z) j=some p):mf p=true:=by
 unfold eF at h
 match j,h with
 |0,h=>cases h;rfl
 |1,h=>cases h;rfl
 |2,h=>cases h;rfl
 |3,h=>
  cases Z with
  |none=>exact aZ h
  |some c=>cases h;rfl
 |j+4,h=>exact aZ h
theorem fK.rel{F:Addr->Option Obj}{own:List Addr}{x:Str}{Y:Int}{esc:Bool}{V:Option Str}(h:fK T X F own x Y esc V s)(S:X.env.locals∈own)(Z:X.cv=[]):
  bQ T.nt X (eT s [X.env.locals]) (Mine.base F) ⟨eF x Y esc V,[],0⟩ s:=
 Un (h.base.sub fun a U=>by rw [cJ.mp U];exact S) (cJ.mpr rfl) Z h.loc
theorem fK.of{F:Addr->Option Obj}{own:List Addr}{x:Str}{Z:Int}{esc:Bool}{V:Option Str}(Q:ju T F own s)(O:X.env.locals∈own)(h:bQ T.nt X (eT s [X.env.locals]) W ⟨eF x Z esc V,[],0⟩ s'):
  fK T X F own x Z esc V s'/\de T.os [X.env.locals] s s':=
 ⟨⟨Q.go ((vS h).sub fun a P=>by rw [cJ.mp P];exact O),let⟨m,S,U⟩:=h.l.m;⟨m,S,fun j y p J Y=>let⟨v,M,N⟩:=U j y p J Y;⟨v,M,N.plain (gE Y)⟩⟩⟩,vS h⟩
end
end
section
open PySem.Builtin
section
variable {T:Tp}{X:Cx}{s s' s₀:Shared}{b:Nat}{A:Around}
theorem de.refl'{F:Addr->Option Obj}{own:List Addr}(h:ju T F own s):de T.os own s s:=⟨fun _ _ _ e=>e,fun _ _ e=>e,h.bare,h.os⟩
theorem vL{F Z:Addr->Option Obj}{own:List Addr}{I:Wd}{R:Fz}{M:List PV}{v:Value}{N:AS}(z:ju T F own s₀)(D:de T.os own s₀ s)(V:∀a o,Z a=some o->F a=some o\/s₀.heap.get? a=none)(S:∀a∈own,Z a=none)
  (Y:∀a∈own,∃o,s.heap.get? a=some o) (g:ci (base Z) s.heap I s'.heap) (E:bn I (.tup M) v) (C:bQ T.nt X R I N s') (B:M.all mf=true):
  ∃a U k,v=.ref a/\s'.heap.get? a=some {cls:=.type "tuple",data:=.seq U k}/\a∉own/\(F a=some {cls:=.type "tuple",data:=.seq U k}\/s₀.heap.get? a=none)/\aN (base F) M U.toList:=by
 obtain⟨a,U,k,rfl,O,J⟩:=E;have P:=g.fr _ _ O;have Q:a∉own:=fun G=>by
  rcases P with h|h
  .have:=S a G
   rw [show Z a=some _ from h]at this;exact kR this
  .obtain⟨o,H⟩:=Y a G
   rw [h]at H;exact aZ H
 have W:s.heap.get? a=none->s₀.heap.get? a=none:=fun h=>by
  cases q:s₀.heap.get? a with
  |none=>rfl
  |some o=>rw [D.heap a o Q q]at h;exact kR h
 refine⟨a,U,k,rfl,C.r.hF _ _ O,Q,?_,J.plain B⟩;rcases P with h|h
 .exact V _ _ h
 .exact .inr (W h)
theorem tJ{F P:Addr->Option Obj}{e I:Addr}{x:Str}{t:Tok}{i:Nat}{r:Int}{esc:Bool}{ch:Option Str}{O:List PV}{ps:List PV}{n:Nat}{c:Code}{z:List Frame}{K:Flow->Sem Fin}{H:Value->Sem Fin}{gd:Bool->Bool}{lv:List Value->List Value}
  {ye:Expr} {u z0:Pos} {f:ER} {R:GenEnd} {own:List Addr} (W:own=[X.env.locals,e,I]) (y1:X.env.locals≠e) (y0:X.env.locals≠I)
  (z1:aa T.nt b X ye f) (hf:f ⟨eF x r esc ch,[],0⟩=some (.tup ps,⟨eF x r esc ch,[],0⟩)) (hp:ps.all mf=true)
  (hA:fJ b (A.over c z)) (z5:splitAtGen z=none) (z4:gd false=false) (z6:z.any Frame.guarded=false) (z8:X.env.scope.isCoroutine=false) (hi:interactive X.env=false) (z7:X.cv=[])
  (hb:ju T F own s₀) (hs:de T.os own s₀ s) (B:∀a o,P a=some o->F a=some o\/s₀.heap.get? a=none) (M:fK T X P own x r esc ch s) (C:jH e I x t i s)
  (l:O[O.length-1-n]?=some (.tup ps))
  (cont:∀Y,fK T X F own x r esc ch Y->jH e I x t i Y->Seg (model T.prog T.w) A R (sj T F own O) n Y c (K .next) z Y):
  Seg (model T.prog T.w) A R (sj T F own O) (n+1) s₀ c ((exec (.Expr (.Yield (some ye) u) z0) X.env).wrap K H gd lv) z s:=by
 have Z:X.env.locals∈own:=by rw [W];exact .head _
 refine seg_Expr_Yield z5 z4 z6 (bt (z1.1 (A.over c z) _ (base P) ⟨eF x r esc ch,[],0⟩ s _ _ hA hf (M.rel Z z7)) (fun v U z2=>?_) ay) z8 hi;obtain⟨W',g,hv,hr⟩:=z2;intro y3 hk;obtain⟨V,S⟩:=fK.of M.base Z hr;have hL:∀a o,a≠X.env.locals->s.heap.get? a=some o->U.heap.get? a=some o:=fun a o hn q=>S.heap a o (fun E=>hn (cJ.mp E)) q
 have N:jH e I x t i U:=C.keep (fun o q=>hL e o (lW y1) q) (fun o q=>hL I o (lW y0) q);have Q:∀a∈own,∃o,s.heap.get? a=some o:=fun a J=>by
  rw [W]at J
  rcases cC.mp J with rfl|J
  .obtain⟨m,E,_⟩:=M.loc
   obtain⟨o,_,_,G,_⟩:=E;exact⟨o,G⟩
  rcases cC.mp J with rfl|J
  .obtain⟨y2,G⟩:=C.en;exact⟨_,G⟩
  .rw [cJ.mp J]
   obtain⟨o,G,_⟩:=C.si;exact⟨o,G⟩
 obtain⟨a,vs,k,rfl,h1,h2,h3,h4⟩:=vL hb hs B M.base.none Q g hv hr hp;have hS:de T.os own s₀ U:=hs.trans (S.sub fun a J=>by rw [cJ.mp J];exact Z);refine⟨ps,a,vs,k,l,rfl,h1,h2,h3,h4,hS,fun c' z9=>?_,fun Y D d=>?_⟩
 .obtain⟨o,G⟩:=Q c' z9
  by_cases h:c'=X.env.locals
  .subst h
   obtain⟨m,E,_⟩:=V.loc;obtain⟨o',_,_,z3,_⟩:=E;exact⟨o',z3⟩
  .exact⟨o,hL c' o h G⟩
 .refine hk .none Y ?_
  show Seg _ _ _ _ _ _ _ _ _ _;refine cont Y ⟨d,?_⟩ (N.keep (fun o q=>D e (by rw [W];exact .tail _ (.head _)) o q) (fun o q=>D I (by rw [W];exact .tail _ (.tail _ (.head _))) o q));obtain⟨m,E,hv⟩:=V.loc;exact⟨m,E.at' fun o q=>D _ Z o q,fun j y p q1 q2=>let⟨v,q3,q4⟩:=hv j y p q1 q2;⟨v,q3,q4.plain (gE q2)⟩⟩
structure uN(T:Tp)(b:Nat)(X:Cx)(target escE c2 y1 y2:Expr)(sF sT:Stmt):Prop where
 tg:aA T b X target (dk 2 (aU (ap 1) (aU (ap 3) cp)))
 be:bj T b X escE (au (ac 2))
 b2:bj T b X c2 (au (ai (ac 3) (ab (.str ⟨#[92]⟩)) fE))
 y1:aa T b X y1 (bT (ae (ac 1) (ae (ai (ab (.str ⟨#[92]⟩)) (ac 3) bk) al)))
 y2:aa T b X y2 (bT (ae (ac 1) (ae (ac 3) al)))
 sF:ax T b X sF (am (ab (.bool false)) (ap 2))
 sT:ax T b X sT (am (ab (.bool true)) (ap 2))
noncomputable def fw(Z M P Q:Expr)(N O:Stmt)(W U Y V R S:Pos):List Stmt:=
 [.If Z [.Expr (.Yield (some P) W) U,N] [.If M [O] [.Expr (.Yield (some Q) Y) V] S] R]
theorem IX{F:Addr->Option Obj}{e d:Addr}{x:Str}{t:Tok}{S:List PV}{own:List Addr}(P:own=[X.env.locals,e,d])(v6:X.env.locals≠e)(w6:X.env.locals≠d)(t0:e≠d)
  {ts:List Expr} {kk:Nat} {tp:Pos} {O c2 y1 y2:Expr} {sF sT:Stmt} {y9 x1 y8 x0 x3 x2:Pos} (B:uN T.nt b X (.Tuple ts kk tp) O c2 y1 y2 sF sT)
  {c0:Code} {k:Result->Sem Fin} {g0:Bool} {l0:List Value} {p0:Pos} (r5:g0=false)
  (hA:fJ b (A.over (.forLoop (.Tuple ts kk tp) (.ref e) (fw O c2 y1 y2 sF sT y9 x1 y8 x0 x3 x2) [] X.env) [.ret k none g0 l0 c0 p0 []]))
  (s2:X.env.scope.isCoroutine=false) (hi:interactive X.env=false) (x5:X.cv=[]) (r8:∀c∈x.cps.toList,c<128)
  (s6:∀pv ch s₀ s,ju T F own s₀->de T.os own s₀ s->fK T X F own x pv false ch s->Seg (model T.prog T.w) A (El T own) (sj T F own S) 0 s₀ c0 (k (.ok .next)) [] s):
  ∀(cs:List Nat) (i:Nat) (pv:Int) (esc:Bool) (ch:Option Str) (n:Nat) (s₀ s:Shared),x.cps.toList.drop i=cs->i<=x.cps.size->eH esc cs=false->n=(eQ i esc cs).length->S.drop (S.length-n)=eQ i esc cs->n<=S.length->
   ju T F own s₀->de T.os own s₀ s->fK T X F own x pv esc ch s->jH e d x t i s->
   Seg (model T.prog T.w) A (El T own) (sj T F own S) n s₀ (.forLoop (.Tuple ts kk tp) (.ref e) (fw O c2 y1 y2 sF sT y9 x1 y8 x0 x3 x2) [] X.env)
    ((model T.prog T.w).den (.forLoop (.Tuple ts kk tp) (.ref e) (fw O c2 y1 y2 sF sT y9 x1 y8 x0 x3 x2) [] X.env)) [.ret k none g0 l0 c0 p0 []] s:=by
 have Z:X.env.locals∈own:=by rw [P];exact .head _
 have D:=Draws.strAscii (prog:=T.prog) (w:=T.w) (A:=(A.over (.forLoop (.Tuple ts kk tp) (.ref e) (fw O c2 y1 y2 sF sT y9 x1 y8 x0 x3 x2) [] X.env) [.ret k none g0 l0 c0 p0 []]).in1) hA.hnd d x t;intro cs
 induction cs with
 |nil=>
  intro i pv esc ch n s₀ s t1 u0 G g J Q hb hs V x4;have he:esc=false:=G;subst he;have r1:n=0:=g;subst r1;refine ph ?_
  obtain⟨s7,v5⟩:=x4.en;have r4:x.cps.size<=i:=by simpa using zA.mp t1
  have r2:i=x.cps.size:=bY u0 r4;refine wpAny_pyNext_enum_endD D v5 (r2▸x4.si) fun h' hx=>?_
  refine ud rfl (Ex ?_);show Seg _ _ _ _ _ _ _ (leafOf (.ok .next)) _ _;refine seg_leaf (.ok .next) ?_
  have hS:de T.os own s {s with heap:=h'}:=⟨fun a o g q=>hx a o (fun e'=>g (by rw [P,e'];exact .tail _ (.tail _ (.head _)))) q,fun _ _ q=>q,V.base.bare,V.base.os⟩;obtain⟨m,hm,hv⟩:=V.loc;exact s6 pv ch s₀ _ hb (hs.trans hS) ⟨V.base.go hS,m,hm.at' fun o q=>hx _ o w6 q,hv⟩
 |cons c cs ih=>
  intro i pv esc ch n s₀ s t1 u0 G g J Q hb hs V x4;obtain⟨s4,z5⟩:=fP t1;have y0:i<x.cps.size:=by
   have:=(jQ.mp s4).1
   simpa using this
  have s3:x.cps[i]?=some c:=by simpa using s4
  refine ph ?_
  obtain⟨s7,v5⟩:=x4.en;refine wpAny_pyNext_enum_itemD D v5 x4.si y0 t0 (by simpa using t0) fun v h' tk hP t9 u2 t7 p2 u8=>?_
  obtain⟨c',u,s5,rfl⟩:=hP;rw [s3]at s5;obtain rfl:=bc s5
  refine wpAny_letOwnedTupleGo_enum t9 fun x6 v4 z0=>?_
  have x8:e<s.heap.objs.size:=bN v5;have w9:d<s.heap.objs.size:=by obtain⟨o,ho,_⟩:=x4.si;exact bN ho
  have u7:X.env.locals<s.heap.objs.size:=by obtain⟨m,hm,_⟩:=V.loc;exact hm.lt
  have M:∀a o,a≠e->a≠d->s.heap.get? a=some o->x6.get? a=some o:=fun a o h1 h2 q=>(z0.2 a h1).trans (u8 a o h1 h2 q)
  have x7:x6.get? s.heap.objs.size=some {cls:=.type "tuple",data:=.seq #[.int i tk,.str ⟨#[c]⟩ u]}:=(z0.2 _ (ng x8)).trans t7;have s9:s.heap.get? s.heap.objs.size=none:=by
   cases q:s.heap.get? s.heap.objs.size with
   |none=>rfl
   |some o=>exact absurd (bN q) (dW _)
  let U:Addr->Option Obj:=fun a=>if a=s.heap.objs.size then some {cls:=.type "tuple",data:=.seq #[.int i tk,.str ⟨#[c]⟩ u]}else F a
  have r7:F s.heap.objs.size=none:=bb V.base.hF (bU _);have v7:∀a o,F a=some o->U a=some o:=fun a o q=>by
   show(if a=_ then _ else _)=_;rw [aO (fun e'=>by rw [e',r7]at q;exact aZ q)];exact q
  have l:∀a o,U a=some o->(a=s.heap.objs.size/\o={cls:=.type "tuple",data:=.seq #[.int i tk,.str ⟨#[c]⟩ u]})\/F a=some o:=fun a o q=>by
   have q':(if a=s.heap.objs.size then some {cls:=.type "tuple",data:=.seq #[.int i tk,.str ⟨#[c]⟩ u]}else F a)=some o:=q
   by_cases h:a=s.heap.objs.size
   .rw [aJ h]at q';obtain rfl:=bc q';exact .inl ⟨h,rfl⟩
   .rw [aO h]at q';exact .inr q'
  have z7:∀a∈own,a<s.heap.objs.size:=fun a ha=>by
   rw [P]at ha
   rcases cC.mp ha with rfl|ha
   .exact u7
   rcases cC.mp ha with rfl|ha
   .exact x8
   .rw [cJ.mp ha];exact w9
  have v9:∀a,a∉own->a≠e/\a≠d:=fun a g=>⟨fun q=>g (by rw [P,q];exact .tail _ (.head _)),fun q=>g (by rw [P,q];exact .tail _ (.tail _ (.head _)))⟩
  let W:Shared:={s with heap:=x6,toks:=tk+1}
  have w1:de T.os own s W:=⟨fun a o g q=>M a o (v9 a g).1 (v9 a g).2 q,fun _ _ q=>q,V.base.bare,V.base.os⟩;have t3:ju T U own W:=by
   refine⟨V.base.top.mono v7,fun a o q=>?_,fun a ha=>?_,V.base.bare,V.base.os⟩
   .rcases l a o q with⟨rfl,rfl⟩|q
    .exact x7
    .exact w1.heap a o (fun hm=>by rw [V.base.none a hm]at q;exact aZ q) (V.base.hF a o q)
   .cases q:U a with
    |none=>rfl
    |some o=>
     rcases l a o q with⟨h1,_⟩|q'
     .have:=z7 a ha;rw [h1]at this;exact absurd this (dW _)
     .rw [V.base.none a ha]at q';exact aZ q'
  have y5:fK T X U own x pv esc ch W:=by
   obtain⟨m,hm,hv⟩:=V.loc;exact⟨t3,m,hm.at' fun o q=>M _ o v6 w6 q,fun j y p q1 q2=>let⟨w,q3,q4⟩:=hv j y p q1 q2;⟨w,q3,q4.plain (gE q2)⟩⟩
  have v1:jH e d x t (i+1) W:=⟨⟨_,v4⟩,by
   obtain⟨o,ho,hr⟩:=u2;exact⟨o,(z0.2 d (lW t0)).trans ho,hr⟩⟩
  have s8:bn (base U) (.tup [.int i,.str ⟨#[c]⟩]) (.ref s.heap.objs.size):=
   ⟨_,#[.int i tk,.str ⟨#[c]⟩ u],0,rfl,by show(if _=_ then _ else _)=_;rw [aJ rfl],⟨_,_,rfl,ed _ _,_,_,rfl,nc _ _,rfl⟩⟩
  have t8:dk 2 (aU (ap 1) (aU (ap 3) cp)) (.tup [.int i,.str ⟨#[c]⟩]) ⟨eF x pv esc ch,[],0⟩=some ⟨eF x i esc (some ⟨#[c]⟩),[],0⟩:=rfl;refine fB (T:=T.nt) (B.tg.1 _ _ (base U) ⟨eF x pv esc ch,[],0⟩ W _ _ _ hA t8 (y5.rel Z x5) s8) fun p1 v8 q6 u6=>?_
  obtain⟨y4,w5⟩:=fK.of y5.base Z u6;have w7 {R W:Shared} (h:de T.os [X.env.locals] R W):de T.os own R W:=h.sub fun a ha=>by rw [cJ.mp ha];exact Z
  have E {R W:Shared} {j:Nat} (h:de T.os [X.env.locals] R W) (q:jH e d x t j R):jH e d x t j W:=
   q.keep (fun o r=>h.heap e o (fun hm=>v6 (cJ.mp hm).symm) r) (fun o r=>h.heap d o (fun hm=>w6 (cJ.mp hm).symm) r)
  have v0:=E w5 v1;have t2:de T.os own s₀ v8:=(hs.trans w1).trans (w7 w5);have y7:∀a o,U a=some o->F a=some o\/s₀.heap.get? a=none:=fun a o q=>by
   rcases l a o q with⟨rfl,_⟩|q
   .refine .inr ?_
    cases r:s₀.heap.get? s.heap.objs.size with
    |none=>rfl
    |some o'=>
     have:=hs.heap _ o' (fun hm=>absurd (z7 _ hm) (dW _)) r;rw [s9]at this;exact aZ this
   .exact .inl q
  unfold fw;refine lA (As (bt (B.be.1 _ _ (base U) ⟨eF x i esc (some ⟨#[c]⟩),[],0⟩ v8 esc _ hA rfl (y4.rel Z x5)) (fun v t5 hp=>?_) ay));obtain⟨rfl,q9,q5,u5⟩:=hp;obtain⟨C,w4⟩:=fK.of y4.base Z u5;have z9:=E w4 v0;have w0:=t2.trans (w7 w4);have u1:splitAtGen [Frame.ret k none g0 l0 c0 p0 []]=none:=rfl;have s0:([Frame.ret k none g0 l0 c0 p0 []]:List Frame).any Frame.guarded=false:=by rw [r5];rfl
  have t6 {st:Stmt} {ev t4:Bool} {F':Addr->Option Obj} {N R:Shared} {m:Nat} {K:Flow->Sem Fin} {H:Value->Sem Fin} (u2:ax T.nt b X st (am (ab (.bool t4)) (ap 2))) (s1:fK T X F' own x i ev (some ⟨#[c]⟩) N) (r3:jH e d x t (i+1) N)
    (hk:∀Y,fK T X F' own x i t4 (some ⟨#[c]⟩) Y->jH e d x t (i+1) Y->de T.os own N Y->Seg (model T.prog T.w) A (El T own) (sj T F own S) m R (.forLoop (.Tuple ts kk tp) (.ref e) (fw O c2 y1 y2 sF sT y9 x1 y8 x0 x3 x2) [] X.env) (K .next) [.ret k none g0 l0 c0 p0 []] Y):
    Seg (model T.prog T.w) A (El T own) (sj T F own S) m R (.forLoop (.Tuple ts kk tp) (.ref e) (fw O c2 y1 y2 sF sT y9 x1 y8 x0 x3 x2) [] X.env) ((exec st X.env).wrap K H id id) [.ret k none g0 l0 c0 p0 []] N:=by
   refine qE (dK (T:=T.nt) (u2.1 _ _ (base F') ⟨eF x i ev (some ⟨#[c]⟩),[],0⟩ N .next ⟨eF x i t4 (some ⟨#[c]⟩),[],0⟩ hA rfl (s1.rel Z x5)) fun q7 fl Y r9 r6 u3=>?_);rw [show fl=.next from r6];obtain⟨v3,w2⟩:=fK.of s1.base Z u3;exact hk Y v3 (E w2 r3) (w7 w2)
  cases v with
  |true=>
   rw [aJ rfl];obtain⟨m,rfl⟩:∃m,n=m+1:=⟨_,g⟩;obtain⟨z3,z1⟩:=fP (x:=PV.tup [.int i,.str ⟨#[92,c]⟩]) (r:=eQ (i+1) false cs) J;refine lA (tJ P v6 w6 B.y1 (f:=_) (ps:=[.int i,.str ⟨#[92,c]⟩]) rfl rfl hA u1 rfl s0 s2 hi x5 hb w0 y7 C z9 (by rw [show S.length-1-m=S.length-(m+1)from by omega];exact z3) fun w8 I x9=>?_);refine lA (t6 B.sF I x9 fun Y z4 z2 z=>?_);refine ud rfl ?_
   refine ih (i+1) i false (some ⟨#[c]⟩) m w8 Y z5 y0 G (by simpa [kY,lb,lf]using g) (by rw [show S.length-m=S.length-(m+1)+1 from by exact bY (JV (aV (yI Q)) (aV (Ko Q))) (EU (aV (Ko Q)) (aV (yI Q)))];exact z1) (by exact(yI Q)) I.base z z4 z2
  |false=>
   rw [aO iA];refine lA (As (bt (B.b2.1 _ _ (base U) ⟨eF x i false (some ⟨#[c]⟩),[],0⟩ t5 ((⟨#[c]⟩:Str)==⟨#[92]⟩) _ hA rfl (C.rel Z x5)) (fun v N hp=>?_) ay));obtain⟨rfl,q8,q0,u4⟩:=hp;obtain⟨y3,w3⟩:=fK.of C.base Z u4;have z8:=E w3 z9;have z6:=w0.trans (w7 w3)
   by_cases y6:c=92
   .subst y6
    rw [aJ (by rfl)];refine lA (t6 B.sT y3 z8 fun Y z4 z2 z=>?_);refine ud rfl ?_
    have e1:eQ i false (92::cs)=eQ (i+1) true cs:=by rfl
    rw [e1]at g J
    have v2:fK T X F own x i true (some ⟨#[92]⟩) Y:=by
     obtain⟨m,hm,hv⟩:=z4.loc;exact⟨hb.go (z6.trans z),m,hm,fun j y p q1 q2=>let⟨w,q3,q4⟩:=hv j y p q1 q2;⟨w,q3,q4.plain (gE q2)⟩⟩
    exact ih (i+1) i true (some ⟨#[92]⟩) n s₀ Y z5 y0 G g J Q hb (z6.trans z) v2 z2
   .have r0:((⟨#[c]⟩:Str)==⟨#[92]⟩)=false:=by simp [y6]
    rw [r0,aO iA];have e1:eQ i false (c::cs)=.tup [.int i,.str ⟨#[c]⟩]::eQ (i+1) false cs:=by simp [kY,lb,lf,y6]
    rw [e1]at g J
    have u9:eH false cs=false:=by
     have:eH false (c::cs)=eH (c==92) cs:=rfl;rw [this]at G
     have hb:(c==92)=false:=by simp [y6]
     rwa [hb]at G
    obtain⟨m,rfl⟩:∃m,n=m+1:=⟨_,g⟩;obtain⟨z3,z1⟩:=fP J;refine lA (tJ P v6 w6 B.y2 (f:=_) (ps:=[.int i,.str ⟨#[c]⟩]) rfl rfl hA u1 rfl s0 s2 hi x5 hb z6 y7 y3 z8 (by rw [show S.length-1-m=S.length-(m+1)from by omega];exact z3) fun w8 I x9=>?_);refine ud rfl ?_
    exact ih (i+1) i false (some ⟨#[c]⟩) m w8 w8 z5 y0 u9 (by simpa using g) (by rw [show S.length-m=S.length-(m+1)+1 from by exact bY (JV (aV (yI Q)) (aV (Ko Q))) (EU (aV (Ko Q)) (aV (yI Q)))];exact z1) (by exact(yI Q)) I.base (de.refl' I.base) I x9
end
end
section
open PySem.Builtin
section
variable {T:Tp}{X:Cx}{s s' s₀:Shared}{b:Nat}{A:Around}
noncomputable def jo(v w x y z B C D E P Q:Pos)(r t u:Nat)(I:List Expr)(H:Pos)(W q J M:Expr)(F G:Stmt)(U R V S N O:Pos)(Z:Expr)(Y:List Stmt):List Stmt:=
 [.Assign [.Name "pos" v] (.Constant (.int 0) r w) x,.Assign [.Name "escape" y] (.Constant (.bool false) t z) B,
  .For (.Tuple I u H) (.Call (.Name "enumerate" C) [.Name "addr" D] [] E) (fw W q J M F G U R V S N O) [] P,.If Z Y [] Q]
theorem Hr{F:Addr->Option Obj}{x:Str}{t:Tok}{m:Str->Option Value}{q1 q2 q3 q4 q5 q6 q7 q8 q9 l J:Pos}{k1 k2 kk:Nat}{ts:List Expr}{tp:Pos}{W c2 y1 y2:Expr}{sF sT:Stmt}{O M P N H I:Pos}{Y:Expr}{U:List Stmt}
  (B:uN T.nt b X (.Tuple ts kk tp) W c2 y1 y2 sF sT) (y5:bj T.nt b X Y (au (ac 2))) (hX:bf X) (G:X.vars=([("addr":Str),"pos","escape","ch"]:List Str)) (y4:X.cv=[]) (x0:X.env.scope.isCoroutine=false) (hi:interactive X.env=false)
  (z5:∀h:Heap,FH F h->∃mg mb,h.Ns mainGlobals mg/\mg "enumerate"=none/\h.Ns builtinsNs mb/\mb "enumerate"=some (.type "enumerate")) (y9:X.env.scope.names.lookup ("enumerate":Str)=some NameKind.globalImplicit)
  (x4:fJ b (A.over (.func (jo q1 q2 q3 q4 q5 q6 q7 q8 q9 l J k1 k2 kk ts tp W c2 y1 y2 sF sT O M P N H I Y U) X.env) []))
  (x3:∀it k p,fJ b (A.over (.forLoop (.Tuple ts kk tp) it (fw W c2 y1 y2 sF sT O M P N H I) [] X.env) [.ret k none false [] (.func (jo q1 q2 q3 q4 q5 q6 q7 q8 q9 l J k1 k2 kk ts tp W c2 y1 y2 sF sT O M P N H I Y U) X.env) p []]))
  (r:ju T F [X.env.locals] s) (hm:s.heap.Ns X.env.locals m) (z9:m "addr"=some (.str x t)) (f:∀c∈x.cps.toList,c<128) (y3:eH false x.cps.toList=false):
  Seg (model T.prog T.w) A (El T [X.env.locals,s.heap.objs.size+1,s.heap.objs.size]) (sj T F [X.env.locals,s.heap.objs.size+1,s.heap.objs.size] (eQ 0 false x.cps.toList)) (eQ 0 false x.cps.toList).length s
   (.func (jo q1 q2 q3 q4 q5 q6 q7 q8 q9 l J k1 k2 kk ts tp W c2 y1 y2 sF sT O M P N H I Y U) X.env) ((model T.prog T.w).den (.func (jo q1 q2 q3 q4 q5 q6 q7 q8 q9 l J k1 k2 kk ts tp W c2 y1 y2 sF sT O M P N H I Y U) X.env)) [] s:=by
 have z4:∀y∈([("addr":Str),"pos","escape","ch"]:List Str),X.env.scope.names.lookup y=some .local:=fun y hy=>hX.vars y (G▸hy)
 have g:(X.env.scope.kind==.class||X.env.scope.kind==.module&&X.env.locals != X.env.globals)=false:=by rw [hX.kind];rfl
 refine seg_func ?_
 unfold jo;refine lA (qE (Ho (Hi (AI (z4 "pos" (by exact .tail _ (.head _))) hm (fun x6 z2 D=>?_) g)) rfl));refine lA (qE (Ho (Au (AI (z4 "escape" (by exact .tail _ (.tail _ (.head _)))) z2 (fun Z C E=>?_) g)) rfl));have y7:Z.objs.size=s.heap.objs.size:=E.1.trans D.1;have S:∀a o,a≠X.env.locals->s.heap.get? a=some o->Z.get? a=some o:=fun a o hn q=>(E.2 a hn).trans ((D.2 a hn).trans q)
 have z7:FH F Z:=fun a o q=>S a o (fun e=>by rw [e,r.none _ (cJ.mpr rfl)]at q;exact aZ q) (r.hF a o q)
 refine lA (KC (by intro _;rfl) ?_);obtain⟨mg,mb,e1,e2,e3,e4⟩:=z5 Z z7;show wpAny _ _ (do callWith q9 (<-eval (.Name "enumerate" q7) X.env) [] (backTo q9 (starEach [.Name "addr" q8] X.env)) []) _ _ _;refine aM (qV hX.kind y9 (yX (by rw [hX.glob];exact e1) e2 (by rw [hX.blt];exact e3) e4 ?_) rfl);refine AN rfl (vB (qM (uG (Ay hX.kind (z4 "addr" (by exact rh)) C (v:=.str x t) (by rw [aO (by decide),aO (by decide)];exact z9) (rK ?_)) rfl)));refine call_enumerate_str fun h' he z x7 V=>?_
 have R:Z.objs.size=s.heap.objs.size:=y7;replace he:IsEnum h' (Z.objs.size+1) Z.objs.size 0 .none:=he;replace z:h'.IsStrIter Z.objs.size (strIterType x) x t 0:=z;replace V:∀c o,Z.get? c=some o->h'.get? c=some o:=V;rw [R]at he z
 have y8:strIterType x="str_ascii_iterator":=by
  unfold strIterType;rw [aJ];rw [Array.all_eq_true];intro i hi;exact dO (f _ (by simp))
 rw [y8]at z
 show wpAny _ _ (pyIter (.ref (Z.objs.size+1))) _ _ _;rw [R];refine wpAny_pyIter_enum (e:=s.heap.objs.size+1) (it:=s.heap.objs.size) (i:=0) he fun p=>?_
 have u:X.env.locals<s.heap.objs.size:=hm.lt;have d:∀a o,a≠X.env.locals->s.heap.get? a=some o->h'.get? a=some o:=fun a o hn q=>V a o (S a o hn q)
 have hL:X.env.locals≠s.heap.objs.size+1:=fun q=>by rw [q]at u;exact absurd (show(s.heap.objs.size+1:Nat)<s.heap.objs.size from u) (by exact(fun u0=>aW 0x840010421 rfl u0))
 have x2:X.env.locals≠s.heap.objs.size:=fH u;have z3:∀a∈[X.env.locals,s.heap.objs.size+1,s.heap.objs.size],F a=none:=fun a ha=>by
  rcases cC.mp ha with rfl|ha
  .exact r.none _ (cJ.mpr rfl)
  rcases cC.mp ha with rfl|ha
  .exact bb r.hF (iG _)
  .rw [cJ.mp ha];exact bb r.hF (bU _)
 have y6:ju T F [X.env.locals,s.heap.objs.size+1,s.heap.objs.size] s:=⟨r.top,r.hF,z3,r.bare,r.os⟩;have hS:∀tk,de T.os [X.env.locals,s.heap.objs.size+1,s.heap.objs.size] s {s with heap:=h',toks:=tk}:=fun tk=>⟨fun a o hn q=>d a o (fun e=>hn (by rw [e];exact .head _)) q,fun _ _ q=>q,r.bare,r.os⟩
 refine IX rfl hL x2 (Nat.succ_ne_self _) B (g0:=false) rfl (x3 _ _ _) x0 hi y4 f (fun pv ch s₀ z8 x1 z0 y0=>?_) x.cps.toList 0 0 false none _ s _ rfl (ki _) y3 rfl (by rw [Nat.sub_self];rfl) (bU _) y6 (hS _) ⟨y6.go (hS _),?_⟩ ⟨⟨_,he⟩,z⟩
 .show Seg _ _ _ _ _ _ _ ((execs [.If Y U [] J] X.env).wrap _ _ _ _) _ _
  refine lA (As (bt (y5.1 _ _ (base F) ⟨eF x pv false ch,[],0⟩ z8 false _ x4 rfl (y0.rel (.head _) y4)) (fun v x5 Q=>?_) ay));obtain⟨rfl,x9,x8,z1⟩:=Q;rw [aO iA];obtain⟨_,z6⟩:=fK.of y0.base (.head _) z1;show Seg _ _ _ _ _ _ _ (leafOf (.ok (.ret .none))) _ _;exact seg_end (.ok (.ret .none)) ⟨rfl,rfl,z0.trans (z6.sub fun a ha=>by rw [cJ.mp ha];exact .head _)⟩
 .refine⟨_,C.keeps V,fun j y p n Q=>?_⟩
  rw [G]at n
  match j,n,Q with
  |0,n,Q=>cases n;cases Q;exact⟨_,by rw [aO (by decide),aO (by decide)];exact z9,nc _ _⟩
  |1,n,Q=>cases n;cases Q;exact⟨_,by rw [aO (by decide),aJ rfl],ed _ _⟩
  |2,n,Q=>cases n;cases Q;exact⟨_,aJ rfl,eW _⟩
  |3,n,Q=>exact aZ Q
  |j+4,n,Q=>exact aZ Q
end
end
section
open PySem.Builtin
section
variable {T:Tp}{X:Cx}{R:Fz}{W:Wd}{σ:AS}{s s':Shared}{b:Nat}{A:Around}
theorem dh.turn{z:Fz}(h:dh T X R W σ s z)(V:∀c o,z.h c=none->s.heap.get? c=some o->s'.heap.get? c=some o)
  (F:∀g x,z.g g=none->s.gens[g]?=some x->s'.gens[g]?=some x) (E:AllBare s'.gens) (J:s'.os=s.os):bQ T X R W σ s':=by
 have Z:=h.rel;have O:∀c,(R.un z).h c=none->z.h c=none:=fun c e=>(aP.mp e).1
 refine⟨⟨Z.r.top,fun a o e=>V a o ?_ (Z.r.hF a o e),fun a o e=>V a o ?_ (h.out.r.hR a o e),fun g x e=>F g x ?_ (h.out.r.hG g x e),fun i C e=>?_,fun i G=>?_,Z.r.inj,fun P D=>?_,E,J.trans Z.r.os,Z.r.sysm⟩,?_,Z.nx⟩
 .cases q:z.h a with
  |none=>rfl
  |some S=>have:=h.nF a S q;rw [e]at this;exact kR this
 .cases q:z.h a with
  |none=>rfl
  |some S=>have:=h.nR a S q;rw [e]at this;exact kR this
 .cases q:z.g g with
  |none=>rfl
  |some S=>have:=h.nG g S q;rw [e]at this;exact kR this
 .obtain⟨U,o,Y,Q⟩:=Z.r.trk i C e
  exact⟨U,o,V _ _ (O _ (Z.r.fre i U).2.1) Y,Q⟩
 .obtain⟨U,Y,Q,o,N⟩:=Z.r.fre i G
  exact⟨U,(aP.mp Y).2,Q,o,V _ _ (O _ Y) N⟩
 .obtain⟨U,Y,M,Q,N⟩:=Z.r.tabs P D
  exact⟨U,(aP.mp Y).2,M,V _ _ (O _ Y) Q,N⟩
 .obtain⟨m,I,H⟩:=Z.l.m
  exact⟨⟨m,I.at' fun o e=>V _ o (O _ Z.l.nR) e,H⟩,Z.l.nF,(aP.mp Z.l.nR).2,Z.l.t,Z.l.ρ,Z.l.cv⟩
theorem dh.renew{z S:Fz}(h:dh T X R W σ s z)(V:bQ T X R W σ s')(O:∀c o,S.h c=some o->s'.heap.get? c=some o/\(z.h c≠none\/s.heap.get? c=none))
  (J:∀g x,S.g g=some x->s'.gens[g]?=some x/\(z.g g≠none\/s.gens[g]?=none)):dh T X R W σ s' S:=by
 have U:=h.rel;have fresh:∀c o,s.heap.get? c=some o->z.h c=none->S.h c=none:=fun c o e M=>by
  cases q:S.h c with
  |none=>rfl
  |some Y=>
   rcases(O c Y q).2 with Z|Z
   .exact absurd M Z
   .rw [e]at Z;exact kR Z
 have N:∀c,(R.un z).h c=none->z.h c=none:=fun c e=>(aP.mp e).1
 refine⟨⟨V.r.more (fun a o e=>?_) (fun g x e=>?_) (fun i G=>?_) (fun P E=>?_),⟨V.l.m,V.l.nF,?_,V.l.t,V.l.ρ,V.l.cv⟩,V.nx⟩,fun c o e=>?_,fun c o e=>?_,fun g x e=>?_⟩
 .rcases bx.mp e with e|⟨_,e⟩
  .exact(O a o e).1
  .exact V.r.hR a o e
 .rcases cb.mp e with e|⟨_,e⟩
  .exact(J g x e).1
  .exact V.r.hG g x e
 .obtain⟨_,Q,_,o,D⟩:=U.r.fre i G
  exact aP.mpr ⟨fresh _ o D (N _ Q),(aP.mp Q).2⟩
 .obtain⟨_,Q,B,C,_⟩:=U.r.tabs P E
  exact aP.mpr ⟨fresh _ _ C (N _ Q),(aP.mp Q).2⟩
 .obtain⟨m,H,_⟩:=U.l.m
  obtain⟨o,_,_,I,_⟩:=H;exact aP.mpr ⟨fresh _ o I (N _ U.l.nR),(aP.mp U.l.nR).2⟩
 .rcases(O c o e).2 with Z|Z
  .cases q:z.h c with
   |none=>exact absurd q Z
   |some Y=>exact h.nF c Y q
  .cases q:W.F c with
   |none=>rfl
   |some Y=>have:=U.r.hF c Y q;rw [Z]at this;exact aZ this
 .rcases(O c o e).2 with Z|Z
  .cases q:z.h c with
   |none=>exact absurd q Z
   |some Y=>exact h.nR c Y q
  .cases q:R.h c with
   |none=>rfl
   |some Y=>have:=h.out.r.hR c Y q;rw [Z]at this;exact aZ this
 .rcases(J g x e).2 with Z|Z
  .cases q:z.g g with
   |none=>exact absurd q Z
   |some Y=>exact h.nG g Y q
  .cases q:R.g g with
   |none=>rfl
   |some Y=>have:=h.out.r.hG g Y q;rw [Z]at this;exact aZ this
theorem dh.addF{z:Fz}(h:dh T X R W σ s z){c:Addr}{o:Obj}(u:s.heap.get? c=some o)(q:W.F c=none)(H:∀i,i<W.n->W.ρ i≠c)(j:X.env.locals≠c)(k:c∉T.tabs)(C:z.h c=none):
  dh T X R (W.fz c o) σ s z:=by
 have I:=Wd.fz_ext W (o:=o) q;have Y:=h.rel;have U:∀a V,(W.fz c o).F a=some V->(a=c/\V=o)\/W.F a=some V:=fun a V e=>by
  have N:(if a=c then some o else W.F a)=some V:=e
  by_cases S:a=c
  .rw [aJ S]at N;obtain rfl:=bc N;exact .inl ⟨S,rfl⟩
  .rw [aO S]at N;exact .inr N
 have Z:∀a,a≠c->W.F a=none->(W.fz c o).F a=none:=fun a S e=>by
  show(if a=c then some o else W.F a)=none;rw [aO S];exact e
 refine⟨⟨⟨Y.r.top.mono I.F,fun a V e=>?_,Y.r.hR,Y.r.hG,fun i d e=>?_,fun i G=>?_,Y.r.inj,fun P E=>?_,Y.r.bare,Y.r.os,Y.r.sysm⟩,?_,Y.nx⟩,fun a V e=>?_,h.nR,h.nG⟩
 .rcases U a V e with⟨rfl,rfl⟩|e
  .exact u
  .exact Y.r.hF a V e
 .obtain⟨O,V,Q,J⟩:=Y.r.trk i d e
  exact⟨O,V,Q,J.mono I⟩
 .obtain⟨O,Q⟩:=Y.r.fre i G
  exact⟨Z _ (H i G) O,Q⟩
 .obtain⟨O,Q,D,J,M⟩:=Y.r.tabs P E
  refine⟨Z _ (fun e=>k (e▸E)) O,Q,D,J,?_⟩;rcases M with M|⟨f,e,g⟩
  .exact .inl M
  .exact .inr ⟨f,e,fun h w=>g h fun a V N=>w a V (I.F a V N)⟩
 .obtain⟨m,B,y⟩:=Y.l.m
  exact⟨⟨m,B,fun i x p O Q=>let⟨v,J,M⟩:=y i x p O Q;⟨v,J,M.mono I⟩⟩,Z _ j Y.l.nF,Y.l.nR,Y.l.t,Y.l.ρ,Y.l.cv⟩
 .refine Z a (fun S=>?_) (h.nF a V e)
  rw [S,C]at e;exact aZ e
end
end
section
open PySem.Builtin
section
variable {T:Tp}{X:Cx}{R:Fz}{W:Wd}{σ:AS}{s s':Shared}{b:Nat}{A:Around}
theorem iq{g:Nat}{x:GenState}(h:AllBare s.gens)(U:x.bare=true):AllBare (s.setGen g x).gens:=by
 intro y V;obtain⟨i,Z⟩:=Array.mem_iff_getElem?.mp V
 by_cases e:i=g
 .subst e
  have Y:i<s.gens.size:=by
   have:=(Jo.mp Z).1
   simpa [Shared.setGen]using this
  have:(s.setGen i x).gens[i]?=some x:=by simp [Shared.setGen,Y]
  rw [this]at Z;obtain rfl:=bc Z;exact U
 .have:(s.setGen g x).gens[i]?=s.gens[i]?:=by simp [Shared.setGen,lW e]
  rw [this]at Z
  exact h _ (Array.mem_of_getElem? Z)
theorem gB{g Z:Nat}{x:GenState}(h:Z≠g):(s.setGen g x).gens[Z]?=s.gens[Z]?:=by simp [Shared.setGen,lW h]
inductive Oq(o:Obj)(g:Nat):Prop
 |mk(hc:o.cls=.type "generator")(nm qn:Value)(hd:o.data=.fields #[.int g 0,nm,qn])(hs:o.slots=#[])
inductive QQ(T:Tp)(A:Around)(a:Addr)(F:Addr->Option Obj)(z:Fz)(gs:GenState)(g:Nat)(ps:List PV)(s:Shared):Prop
 |mk(own:List Addr)(its:List PV)(o1:a∉own)(o2:∀c∈own,F c=none/\(z.h c≠none\/s.heap.get? c=none))(o3:ps=its.drop (its.length-ps.length))(o4:ps.length<=its.length)
  (o5:gs.Goes (model T.prog T.w) A.in1 (El T own) (sj T F own its) ps.length (.send .none) (s.setGen g .running))
inductive Pd(T:Tp)(A:Around)(a:Addr)(W:Wd)(k:IK)(z:Fz):Prop
 |mk(ps:List PV)(ek:k=.its ps)(g:Nat)(gs:GenState)(oG:Obj)(F:Addr->Option Obj)(h1:z.h a=some oG)(h2:Oq oG g)(h3:z.g g=some gs)(h4:∀g',z.g g'≠none->g'=g)(h5:jc T F)(h6:∀c o,F c=some o->W.F c=some o)
  (h7:∀p∈ps,∃qs,p=.tup qs/\qs.all mf=true) (h8:∀s:Shared,(∀c o,z.h c=some o->s.heap.get? c=some o)->FH F s.heap->AllBare s.gens->s.os=T.os->QQ T A a F z gs g ps s)
set_option tactic.hygienic true in
theorem DR(a:Addr):ll T b X A (.ref a) (Pd T A a) where
 mono:=fun W W' k z g h=>by
  obtain⟨C,ek,M,gs,B,F,d,h2,h3,h4,h5,h6,h7,h8⟩:=h;exact⟨C,ek,M,gs,B,F,d,h2,h3,h4,h5,fun c o e=>g.F c o (h6 c o e),h7,h8⟩
 own:=fun R W σ s k z w2 v Q E hj I h=>by
  obtain⟨C,rfl,M,gs,B,F,d,h2,h3,h4,h5,h6,h7,h8⟩:=hj;obtain⟨hc,nm,qn,hd,hs⟩:=h2;exact gI (I.rel.r.hR a B (bx.mpr (.inl d))) hc hd (by decide) h
 self:=fun R W σ s k z Q E hj I h=>by
  obtain⟨C,rfl,M,gs,B,F,d,⟨hc,nm,qn,hd,hs⟩,h3,h4,h5,h6,h7,h8⟩:=hj;exact wpAny_pyIter_gen (g:=M) ⟨B,nm,qn,I.rel.r.hR a B (bx.mpr (.inl d)),hc,hd,hs⟩ h
 done:=fun R W σ s k z hA hj I hn=>by
  obtain⟨C,rfl,M,gs,B,F,d,⟨hc,nm,qn,hd,hs⟩,h3,h4,h5,h6,h7,h8⟩:=hj;cases C with
  |cons p C=>cases hn
  |nil=>
   have u:∀c o,z.h c=some o->s.heap.get? c=some o:=fun c o e=>I.rel.r.hR c o (bx.mpr (.inl e))
   obtain⟨own,G,o1,o2,o3,o4,o5⟩:=h8 s u (fun c o e=>I.rel.r.hF c o (h6 c o e)) I.rel.r.bare I.rel.r.os;refine oQ (g:=M) (gs:=gs) (n:=0) (P:=fun n z0 V=>n=0/\de T.os own z0 V) (Y:=sj T F own G) hA.hnd (I.rel.r.top.nolim _ I.rel.r.hF) (by have:=hA.dep;exact cq 0x10000084400800010421 rfl this) ⟨B,nm,qn,u a B d,hc,hd,hs⟩ (I.rel.r.hG M gs (cb.mpr (.inl h3))) o5 (fun v V y hb hy=>?_) (fun V hp h' hk=>?_)
   .obtain⟨x0,N,vs,k0,y1,y2,y3,y4,y5,y6,y7,y8,y9⟩:=hy
    exact(y9 V (fun _ _ _ e=>e) ⟨h5,fun c o e=>y7.heap c o (fun hm=>by rw [(o2 c hm).1]at e;exact aZ e) (I.rel.r.hF c o (h6 c o e)),fun c hm=>(o2 c hm).1,y7.bare,y7.os⟩).elim
   .obtain⟨_,hS⟩:=hp
    have j:∀c o,z.h c=none->s.heap.get? c=some o->c∉own:=fun c o w e hm=>by
     rcases(o2 c hm).2 with q|q
     .exact q w
     .rw [q]at e;exact aZ e
    have z9:∀g x,z.g g=none->s.gens[g]?=some x->({V.setGen M .finished with heap:=h'}:Shared).gens[g]?=some x:=fun g x w e=>by
     have z2:g≠M:=fun q=>by rw [q,h3]at w;exact kR w
     show(V.setGen M .finished).gens[g]?=_;rw [gB z2];exact hS.gens g x (by rw [gB z2];exact e)
    have z8:bQ T X R W σ {V.setGen M .finished with heap:=h'}:=I.turn (fun c o w e=>hk c o (hS.heap c o (j c o w e) e)) z9 (iq hS.bare rfl) (hS.os.trans I.rel.r.os.symm);refine⟨W,rfl,z8,fun D S O Z=>⟨Z.F,Z.fr,Z.n,Z.ρ,fun c o e=>?_⟩⟩;obtain⟨H,J⟩:=Z.th c o e
    by_cases w:z.h c=none
    .exact⟨H,hk c H (hS.heap c H (j c H w J) J)⟩
    .cases q:z.h c with
     |none=>exact absurd q w
     |some x1=>have:=O c x1 q;rw [e]at this;exact kR this
 step:=fun R W σ s k z p k' hA hj I hn=>by
  obtain⟨C,rfl,M,gs,B,F,d,⟨hc,nm,qn,hd,hs⟩,h3,h4,h5,h6,h7,h8⟩:=hj;cases C with
  |nil=>cases hn
  |cons p0 C=>
   cases hn;have u:∀c o,z.h c=some o->s.heap.get? c=some o:=fun c o e=>I.rel.r.hR c o (bx.mpr (.inl e))
   obtain⟨own,G,o1,o2,o3,o4,o5⟩:=h8 s u (fun c o e=>I.rel.r.hF c o (h6 c o e)) I.rel.r.bare I.rel.r.os;refine oQ (g:=M) (gs:=gs) (n:=C.length+1) (P:=fun n z0 V=>n=0/\de T.os own z0 V) (Y:=sj T F own G) hA.hnd (I.rel.r.top.nolim _ I.rel.r.hF) (by have:=hA.dep;exact cq 0x10000084400800010421 rfl this) ⟨B,nm,qn,u a B d,hc,hd,hs⟩ (I.rel.r.hG M gs (cb.mpr (.inl h3))) o5 (fun v V y hb hy=>?_) (fun V hp h' hk=>absurd hp.1 (Aq _));obtain⟨x0,N,vs,k0,y1,rfl,y3,y4,y5,y6,y7,y8,y9⟩:=hy;have w4:G.drop (G.length-(C.length+1))=p::C:=o3.symm;obtain⟨w7,z7⟩:=fP w4;have z1:C.length+1<=G.length:=o4;have y0:G[G.length-1-C.length]?=some (.tup x0):=y1;rw [show G.length-1-C.length=G.length-(C.length+1)from by omega,w7]at y0
   obtain rfl:=bc y0;have v0:∀c,(s.setGen M .running).heap.get? c=s.heap.get? c:=fun _=>rfl
   have j:∀c o,z.h c=none->s.heap.get? c=some o->c∉own:=fun c o w e hm=>by
    rcases(o2 c hm).2 with q|q
    .exact q w
    .rw [q]at e;exact aZ e
   have z9:∀g x,z.g g=none->s.gens[g]?=some x->(V.setGen M y).gens[g]?=some x:=fun g x w e=>by
    have z2:g≠M:=fun q=>by rw [q,h3]at w;exact kR w
    rw [gB z2];exact y7.gens g x (by rw [gB z2];exact e)
   have x4:V.gens[M]?=some .running:=y7.gens M _ (setGen_self (I.rel.r.hG M gs (cb.mpr (.inl h3))));have z8:bQ T X R W σ (V.setGen M y):=I.turn (s':=V.setGen M y) (fun c o w e=>y7.heap c o (j c o w e) e) z9 (iq y7.bare hb) (y7.os.trans I.rel.r.os.symm);have w8:V.heap.get? a=some B:=y7.heap a B o1 (u a B d)
   let z':Fz:=⟨fun c=>if c=a\/c∈own then V.heap.get? c else none,fun g=>if g=M then some y else none⟩
   have z5:∀c o,z'.h c=some o->(c=a\/c∈own)/\V.heap.get? c=some o:=fun c o e=>by
    have f:(if c=a\/c∈own then V.heap.get? c else none)=some o:=e
    by_cases U:c=a\/c∈own
    .rw [aJ U]at f;exact⟨U,f⟩
    .rw [aO U]at f;exact aZ f
   have x3:z'.h a=some B:=by show(if a=a\/a∈own then _ else _)=_;rw [aJ (.inl rfl)];exact w8
   have x8:dh T X R W σ (V.setGen M y) z':=I.renew z8 (fun c o e=>by
     obtain⟨U,f⟩:=z5 c o e;refine⟨f,?_⟩;rcases U with rfl|U
     .left;rw [d];exact(fun h=>kR h)
     .exact(o2 c U).2) (fun g x e=>by
     have f:(if g=M then some y else none)=some x:=e
     by_cases z3:g=M
     .subst z3
      rw [aJ rfl]at f;obtain rfl:=bc f
      exact⟨setGen_self x4,.inl (by rw [h3];exact(fun h=>kR h))⟩
     .rw [aO z3]at f;exact aZ f)
   have z6:∀D S,du z S->ci D S W s.heap->du z' S/\∀c o,S.get? c=some o->∃o',V.heap.get? c=some o':=fun D S O Z=>by
    have x2:∀c,c∈own->S.get? c=none:=fun c U=>by
     rcases(o2 c U).2 with q|q
     .cases r:z.h c with
      |none=>exact absurd r q
      |some o'=>exact O c o' r
     .cases r:S.get? c with
      |none=>rfl
      |some o'=>obtain⟨H,J⟩:=Z.th c o' r;rw [q]at J;exact aZ J
    refine⟨fun c o e=>?_,fun c o e=>?_⟩
    .rcases(z5 c o e).1 with rfl|U
     .exact O _ _ d
     .exact x2 c U
    .obtain⟨H,J⟩:=Z.th c o e
     exact⟨H,y7.heap c H (fun hm=>by rw [x2 c hm]at e;exact aZ e) J⟩
   obtain⟨qs,x5,t⟩:=h7 _ (.head _);have hJ:∀W',(∀c o,W.F c=some o->W'.F c=some o)->Pd T A a W' (.its C) z':=fun W' w9=>by
    refine⟨C,rfl,M,y,B,F,x3,⟨hc,nm,qn,hd,hs⟩,by show(if M=M then _ else _)=_;rw [aJ rfl],fun g' z3=>?_,h5,fun c o e=>w9 c o (h6 c o e),fun q hq=>h7 q (.tail _ hq),fun w3 w6 w1 x9 x6=>?_⟩
    .by_cases h:g'=M
     .exact h
     .exfalso;apply z3;show(if g'=M then _ else _)=_;rw [aO h]
    .refine⟨own,G,o1,fun c U=>⟨(o2 c U).1,.inl ?_⟩,?_,by exact yI z1,?_⟩
     .obtain⟨o,ho⟩:=y8 c U
      have:z'.h c=some o:=by show(if c=a\/c∈own then _ else _)=_;rw [aJ (.inr U)];exact ho
      rw [this];exact(fun h=>kR h)
     .rw [show G.length-C.length=G.length-(C.length+1)+1 from by exact bY (JV (aV (yI z1)) (aV (Ko z1))) (EU (aV (Ko z1)) (aV (yI z1)))];exact z7.symm
     .refine y9 (w3.setGen M .running) (fun c U o e=>w6 c o ?_) ⟨h5,w1,fun c U=>(o2 c U).1,iq x9 rfl,x6⟩
      show(if c=a\/c∈own then _ else _)=_;rw [aJ (.inr U)];exact e
   rcases y5 with y5|y5
   .refine⟨.ref N,W,z',rfl,⟨N,vs,k0,rfl,h6 _ _ y5,y6.plain (by cases x5;exact t)⟩,hJ W fun _ _ e=>e,x8,fun D S O Z=>?_⟩
    obtain⟨d1,d2⟩:=z6 D S O Z;exact⟨d1,Z.F,Z.fr,Z.n,Z.ρ,d2⟩
   .have z4:s.heap.get? N=none:=y5
    have w0:W.F N=none:=by
     cases q:W.F N with
     |none=>rfl
     |some o'=>have:=I.rel.r.hF N o' q;rw [z4]at this;exact aZ this
    have hex:∀c o,s.heap.get? c=some o->c≠N:=fun c o e q=>by rw [q,z4]at e;exact aZ e
    have w5:z'.h N=none:=by
     show(if N=a\/N∈own then _ else _)=_;rw [aO]
     rintro (q|q)
     .exact hex a B (u a B d) q.symm
     .exact y4 q
    have x7:=x8.addF (c:=N) (o:={cls:=.type "tuple",data:=.seq vs k0}) y3 w0 (fun i hi=>by obtain⟨_,_,_,o,h⟩:=I.rel.r.fre i hi;exact hex _ o h)
     (by obtain⟨m,hm,_⟩:=I.rel.l.m;obtain⟨o,_,_,ho,_⟩:=hm;exact hex _ o ho) (fun hP=>by obtain⟨_,_,q,h,_⟩:=I.rel.r.tabs _ hP;rw [z4]at h;exact aZ h) w5
    have hx:=Wd.fz_ext W (o:=({cls:=.type "tuple",data:=.seq vs k0}:Obj)) w0;refine⟨.ref N,W.fz N {cls:=.type "tuple",data:=.seq vs k0},z',rfl,⟨N,vs,k0,rfl,by show(if _=_ then _ else _)=_;rw [aJ rfl],y6.plain (by cases x5;exact t)⟩,hJ _ hx.F,x7,fun D S O Z=>?_⟩;obtain⟨d1,d2⟩:=z6 D S O Z;refine⟨d1,fun c o e=>hx.F c o (Z.F c o e),fun c o e=>?_,Z.n,Z.ρ,d2⟩;have f:(if c=N then some ({cls:=.type "tuple",data:=.seq vs k0}:Obj)else W.F c)=some o:=e
    by_cases U:c=N
    .subst U
     right
     cases r:S.get? c with
     |none=>rfl
     |some o'=>obtain⟨H,J⟩:=Z.th c o' r;rw [z4]at J;exact aZ J
    .rw [aO U]at f;exact Z.fr c o f
end
end
section
open PySem.Builtin
section
variable {T:Tp}{X:Cx}{R:Fz}{W:Wd}{σ:AS}{s s':Shared}{b:Nat}{A:Around}
noncomputable def uQ(x:Str):Bool:=x.cps.toList.all fun c=>decide (c<128)
noncomputable def Gs:List PV->Option Str
 |[p]=>(match p with
  |.str x=>some x
  |_=>none)
 |_=>none
theorem yd{Z:List PV}{x:Str}(h:Gs Z=some x):Z=[.str x]:=by
 cases Z with
 |nil=>exact aZ h
 |cons p Z=>cases Z with
  |cons _ _=>exact aZ h
  |nil=>cases p with
   |str y=>obtain rfl:=(bc h).symm;rfl
   |_=>exact aZ h
noncomputable def qr(f:LR):AS->Option (IK×AS):=eY f fun Z σ=>(Gs Z).bind fun x=>if uQ x&&!eH false x.cps.toList then some (.its (eQ 0 false x.cps.toList),σ)else none
noncomputable def mt(T:Tp)(b:Nat)(Z:Addr):Prop:=
 ∀A X R W σ s x t,fJ b A->uQ x=true->eH false x.cps.toList=false->bQ T X R W σ s->
  wpAny (model T.prog T.w) A (runValue (.call (.ref Z) ⟨[.str x t],[]⟩)) (kh T b X A R W s (.its (eQ 0 false x.cps.toList)) σ) bg s
theorem bR.esc{f:Expr}{C:List Expr}{V:Pos}{w:Addr}{fo:Obj}{fd:FuncData}{c:LR}(hf:aa T b X f (ab (.val (.ref w))))(hL:ak T b X C c)(hC:mt T b w)
  (hK:T.K.lookup w=some fo) (hd:fo.data=.func fd) (m:∀U,(starEach C U).any (·.1)=false:=by intro _;rfl)
  (i:∀U,eval (.Call f C [] V) U=(do callWith V (<-eval f U) [] (backTo V (starEach C U)) []):=by intro _;rfl):bR T b X (.Call f C [] V) (qr c):=by
 refine⟨?_⟩;intro A R W σ s k N h E hr;obtain⟨ps,σ₁,D,E⟩:=aX E;refine cE E fun x ex E=>fO E fun Y hq=>?_
 cases yd ex;rw [dw,qx]at Y
 cases hq;rw [i];refine aM (aK (hf.1 A R W σ s _ σ h rfl hr) fun y u G Q hu M=>?_);rw [show u=.ref w from hu];refine rf (o:=fo) (fd:=fd) (cG (co (m _)) (bt (hL.1 A R y σ G _ N V h D M) (fun vs H n=>?_) ay));obtain⟨B,S,p,Z⟩:=n;obtain⟨v,rfl,t,rfl⟩:=TM p;refine⟨⟨Z.r.hF _ _ (Z.r.top.kin _ _ hK),hd⟩,?_⟩;refine bt (hC A X R B N H x t h Y.1 Y.2 Z) (fun v I n=>?_) ay;obtain⟨J,O,z,P,d,e,j,hg⟩:=n;have l:=(Q.trans S).trans hg;refine(P X).self R O N I _ z _ _ d e ⟨J,O,z,P,d,e,fun a o q=>?_,l⟩;cases r:s.heap.get? a with
 |none=>rfl
 |some o'=>
  obtain⟨g,F⟩:=(Q.trans S).th a o' r;have:=j a o q;rw [F]at this;exact kR this
theorem jg:∀(Z:List Nat) (i:Nat) (e:Bool),∀p∈eQ i e Z,∃Y,p=.tup Y/\Y.all mf=true
 |[],_,e,p,h=>by cases e<;>cases h
 |c::Z,i,true,p,h=>by
  rcases cC.mp h with rfl|h
  .exact⟨_,rfl,rfl⟩
  .exact jg Z _ _ p h
 |c::Z,i,false,p,h=>by
  dsimp only [kY,lb,lf]at h
  split at h
  .exact jg Z _ _ p h
  .rcases cC.mp h with rfl|h
   .exact⟨_,rfl,rfl⟩
   .exact jg Z _ _ p h
theorem mt.of{j:Addr}{fo:Obj}{fd:FuncData}{q1 q2 q3 q4 q5 q6 q7 q8 q9 x0 y9:Pos}{k1 k2 kk:Nat}{ts:List Expr}{tp:Pos}{C c2 y1 y2:Expr}{sF sT:Stmt}{y6 y8 y5 y7 x2 x1:Pos}{M:Expr}{f:List Stmt}
  (E:3<=b)
  (hK:T.K.lookup j=some fo) (hd:fo.data=.func fd) (w1:fd.scope.isCoroutine=false) (x8:fd.scope.isGenerator=true)
  (hb:fd.body=.stmts (jo q1 q2 q3 q4 q5 q6 q7 q8 q9 x0 y9 k1 k2 kk ts tp C c2 y1 y2 sF sT y6 y8 y5 y7 x2 x1 M f))
  (v4:fd.globals=mainGlobals) (u1:fd.builtins=builtinsNs) (v7:fd.closure=[])
  (v8:∀h:Heap,Frag.In T.K h->h.CodeRec fd.code fd.qualname)
  (z8:∀v:Value,∀s:Shared,Frag.In T.K s.heap->BindsTo s fd ⟨[v],[]⟩ ([("addr",v)]:List (Str×Value)))
  (z6:∀x∈fd.scope.names,x.2≠.cell)
  (hX:∀L,bf ⟨nf fd.qualname fd.scope j L fd.code [],([("addr":Str),"pos","escape","ch"]:List Str),[]⟩)
  (z5:∀F,jc T F->∀h:Heap,FH F h->∃mg mb,h.Ns mainGlobals mg/\mg "enumerate"=none/\h.Ns builtinsNs mb/\mb "enumerate"=some (.type "enumerate")) (v2:fd.scope.names.lookup ("enumerate":Str)=some NameKind.globalImplicit)
  (B:∀L,uN T.nt 0 ⟨nf fd.qualname fd.scope j L fd.code [],([("addr":Str),"pos","escape","ch"]:List Str),[]⟩ (.Tuple ts kk tp) C c2 y1 y2 sF sT)
  (w2:∀L,bj T.nt 0 ⟨nf fd.qualname fd.scope j L fd.code [],([("addr":Str),"pos","escape","ch"]:List Str),[]⟩ M (au (ac 2))):mt T b j:=by
 intro A X R W σ s x t hA w3 w0 U;have d:∀s':Shared,FH W.F s'.heap->Frag.In T.K s'.heap:=fun s' h a o e=>h a o (U.r.top.kin a o e)
 have v6:=U.r.hF _ _ (U.r.top.kin _ _ hK);refine rN (codeAny_call_generator (by have:=hA.dep;exact cq 0x400802110000080410800308022 rfl E this) v6 hd w1 x8 hb (v8 _ (d s U.r.hF)) ?_);refine bt (z8 (.str x t) s (d s U.r.hF) _ _ bg (fun b s'=>b=([("addr",Value.str x t)]:List (Str×Value))/\s=s') ⟨rfl,rfl⟩) (fun u3 u4 v9=>?_) ay;obtain⟨rfl,rfl⟩:=v9;have hv:=(hX s.heap.objs.size).vars;refine uY z6 (fun x hx=>by cases hx with|head=>exact hv "addr" (by exact rh)|tail _ h=>cases h) (fun O w8 x7=>?_) (hX 0).kind;have keep:∀c o,s.heap.get? c=some o->O.get? c=some o:=fun c o e=>
  x7.extBut c o (fH (bN e)) (dS _ e)
 have y4:FH W.F O:=fun c o e=>keep c o (U.r.hF c o e)
 refine⟨U.r.top.nolim _ y4,?_⟩;have x9:newEnv fd.scope s.heap.objs.size fd.globals fd.closure (fd.qualname++".<locals>.") (some j) fd.code none fd.builtins=nf fd.qualname fd.scope j s.heap.objs.size fd.code []:=by
  rw [v4,u1,v7];rfl
 rw [x9];have x6:O.objs.size=s.heap.objs.size+1:=by rw [x7.1];simp [Heap.push]
 obtain⟨oL,es,ep,w7,z2⟩:=id w8;have w4:s.heap.get? s.heap.objs.size=none:=by
  cases q:s.heap.get? s.heap.objs.size with
  |none=>rfl
  |some o=>exact absurd (bN q) (dW _)
 have w6:s.heap.get? (s.heap.objs.size+1)=none:=by
  cases q:s.heap.get? (s.heap.objs.size+1)with
  |none=>rfl
  |some o=>exact absurd (show(s.heap.objs.size+1:Nat)<s.heap.objs.size from bN q) (by exact(fun w=>aW 0x840010421 rfl w))
 have n:s.gens[s.gens.size]?=none:=by simp
 let oG:Obj:={cls:=.type "generator",data:=.fields #[.int s.gens.size 0,.str fd.name (s.toks+1),.str fd.qualname (s.toks+1+1)]}
 let c0:Code:=.func (jo q1 q2 q3 q4 q5 q6 q7 q8 q9 x0 y9 k1 k2 kk ts tp C c2 y1 y2 sF sT y6 y8 y5 y7 x2 x1 M f) (nf fd.qualname fd.scope j s.heap.objs.size fd.code [])
 let Q:Shared:={s with heap:=O.push oG,gens:=s.gens.push (.fresh c0),toks:=s.toks+1+1+1}
 let z:Fz:=⟨fun c=>if c=s.heap.objs.size+1 then some oG else if c=s.heap.objs.size then some oL else none,fun g=>if g=s.gens.size then some (.fresh c0)else none⟩
 have Y:∀c o,s.heap.get? c=some o->Q.heap.get? c=some o:=fun c o e=>dS _ (keep c o e)
 have y0:Q.heap.get? s.heap.objs.size=some oL:=dS _ w7
 have y3:Q.heap.get? (s.heap.objs.size+1)=some oG:=by rw [<-x6];exact im _ rfl
 have z1:∀c o,z.h c=some o->(c=s.heap.objs.size+1/\o=oG)\/(c=s.heap.objs.size/\o=oL):=fun c o e=>by
  have H:(if c=s.heap.objs.size+1 then some oG else if c=s.heap.objs.size then some oL else none)=some o:=e
  by_cases I:c=s.heap.objs.size+1
  .rw [aJ I]at H;obtain rfl:=bc H;exact .inl ⟨I,rfl⟩
  .rw [aO I]at H
   by_cases J:c=s.heap.objs.size
   .rw [aJ J]at H;obtain rfl:=bc H;exact .inr ⟨J,rfl⟩
   .rw [aO J]at H;exact aZ H
 have z0:∀g y,z.g g=some y->g=s.gens.size/\y=.fresh c0:=fun g y e=>by
  have H:(if g=s.gens.size then some (GenState.fresh c0)else none)=some y:=e
  by_cases I:g=s.gens.size
  .rw [aJ I]at H;obtain rfl:=bc H;exact⟨I,rfl⟩
  .rw [aO I]at H;exact aZ H
 have S:∀c o,s.heap.get? c=some o->z.h c=none:=fun c o e=>by
  cases q:z.h c with
  |none=>rfl
  |some u=>
   rcases z1 c u q with⟨rfl,_⟩|⟨rfl,_⟩
   .rw [w6]at e;exact aZ e
   .rw [w4]at e;exact aZ e
 have V:bQ T X R W σ Q:=by
  refine⟨⟨U.r.top,fun a o e=>Y a o (U.r.hF a o e),fun a o e=>Y a o (U.r.hR a o e),fun g y e=>?_,fun i ao e=>let⟨I,o,J,h3⟩:=U.r.trk i ao e;⟨I,o,Y _ _ J,h3⟩,fun i hi=>let⟨I,J,h3,o,h4⟩:=U.r.fre i hi;⟨I,J,h3,o,Y _ _ h4⟩,U.r.inj,fun P hP=>let⟨I,J,ps,h3,h4⟩:=U.r.tabs P hP;⟨I,J,ps,Y _ _ h3,h4⟩,?_,U.r.os,U.r.sysm⟩,U.l.ext Y,U.nx⟩
  .have:=U.r.hG g y e
   have v1:g<s.gens.size:=(Jo.mp this).1;show(s.gens.push _)[g]?=_;rw [Array.getElem?_push,aO (fH v1)];exact this
  .intro y hy
   rcases Array.mem_push.mp hy with hy|rfl
   .exact U.r.bare y hy
   .rfl
 have z4:dh T X R W σ Q z:=by
  refine⟨⟨V.r.more (fun a o e=>?_) (fun g y e=>?_) (fun i hi=>?_) (fun P hP=>?_),⟨V.l.m,V.l.nF,?_,V.l.t,V.l.ρ,V.l.cv⟩,V.nx⟩,fun a o e=>?_,fun a o e=>?_,fun g y e=>?_⟩
  .rcases bx.mp e with e|⟨_,e⟩
   .rcases z1 a o e with⟨rfl,rfl⟩|⟨rfl,rfl⟩
    .exact y3
    .exact y0
   .exact V.r.hR a o e
  .rcases cb.mp e with e|⟨_,e⟩
   .obtain⟨rfl,rfl⟩:=z0 g y e
    show(s.gens.push _)[s.gens.size]?=_;rw [Array.getElem?_push_size]
   .exact V.r.hG g y e
  .obtain⟨_,J,_,o,h4⟩:=U.r.fre i hi
   exact aP.mpr ⟨S _ o h4,J⟩
  .obtain⟨_,J,ps,h3,_⟩:=U.r.tabs P hP
   exact aP.mpr ⟨S _ _ h3,J⟩
  .obtain⟨m,hm,_⟩:=U.l.m
   obtain⟨o,_,_,ho,_⟩:=hm;exact aP.mpr ⟨S _ o ho,U.l.nR⟩
  .cases q:W.F a with
   |none=>rfl
   |some u=>have:=S a u (U.r.hF a u q);rw [e]at this;exact kR this
  .cases q:R.h a with
   |none=>rfl
   |some u=>have:=S a u (U.r.hR a u q);rw [e]at this;exact kR this
  .cases q:R.g g with
   |none=>rfl
   |some u=>
    have:=U.r.hG g u q;rw [(z0 g y e).1,n]at this;exact aZ this
 have w5:W.F s.heap.objs.size=none:=bb U.r.hF (bU _);have u5:W.F (s.heap.objs.size+1)=none:=bb U.r.hF (iG _);have x5:z.h (s.heap.objs.size+1)=some oG:=aJ rfl;have x4:z.h s.heap.objs.size=some oL:=by
  show(if _=_ then _ else if _=_ then _ else _)=_;rw [aO (fH (gQ _)),aJ rfl]
 have x3:z.g s.gens.size=some (.fresh c0):=aJ rfl;have v3:kh T b X A R W s (.its (eQ 0 false x.cps.toList)) σ (.ref (s.heap.objs.size+1)) Q:=by
  refine⟨Pd T A (s.heap.objs.size+1),W,z,fun X=>DR _,?_,z4,?_,ci.keep Y⟩
  .refine⟨_,rfl,s.gens.size,.fresh c0,oG,W.F,x5,⟨rfl,_,_,rfl,rfl⟩,x3,fun g' v5=>?_,U.r.top,fun _ _ e=>e,jg _ _ _,fun Z G N z7 z3=>?_⟩
   .cases q:z.g g' with
    |none=>exact absurd q v5
    |some y=>exact(z0 g' y q).1
   .have D:s.heap.objs.size+1<Z.heap.objs.size:=bN (G _ _ x5)
    have z9:Z.heap.get? s.heap.objs.size=some oL:=G _ _ x4;have v0:Z.heap.get? Z.heap.objs.size=none:=by
     cases q:Z.heap.get? Z.heap.objs.size with
     |none=>rfl
     |some o=>exact absurd (bN q) (dW _)
    have w9:Z.heap.get? (Z.heap.objs.size+1)=none:=by
     cases q:Z.heap.get? (Z.heap.objs.size+1)with
     |none=>rfl
     |some o=>exact absurd (show(Z.heap.objs.size+1:Nat)<Z.heap.objs.size from bN q) (by exact(fun w=>aW 0x840010421 rfl w))
    refine⟨[s.heap.objs.size,Z.heap.objs.size+1,Z.heap.objs.size],eQ 0 false x.cps.toList,?_,fun c hc=>?_,by rw [Nat.sub_self];rfl,bU _,rfl,?_⟩
    .intro hm
     have u6:(s.heap.objs.size+1:Nat)<Z.heap.objs.size:=D;rcases cC.mp hm with q|hm
     .exact absurd (show(s.heap.objs.size+1:Nat)=s.heap.objs.size from q) (by exact(fun w=>aW 0x840010821 rfl w))
     rcases cC.mp hm with q|hm
     .exact absurd (show(s.heap.objs.size+1:Nat)=Z.heap.objs.size+1 from q) (by exact(fun w=>bD 0x210804108002144200840010422 rfl D w))
     .exact absurd (show(s.heap.objs.size+1:Nat)=Z.heap.objs.size from cJ.mp hm) (by exact(fun w=>bD 0x40108002144200840010422 rfl D w))
    .rcases cC.mp hc with rfl|hc
     .exact⟨w5,.inl (by rw [x4];exact(fun h=>kR h))⟩
     rcases cC.mp hc with rfl|hc
     .exact⟨bb N (iG _),.inr w9⟩
     .rw [cJ.mp hc];exact⟨bb N (bU _),.inr v0⟩
    .have u2:ju T W.F [s.heap.objs.size] (Z.setGen s.gens.size .running):=⟨U.r.top,N,fun a ha=>by rw [cJ.mp ha];exact w5,iq z7 rfl,z3⟩
     exact Hr (X:=⟨nf fd.qualname fd.scope j s.heap.objs.size fd.code [],([("addr":Str),"pos","escape","ch"]:List Str),[]⟩) (s:=Z.setGen s.gens.size .running) (t:=t) (B _) (w2 _) (hX _) rfl rfl w1 (by unfold interactive;have:=(hX 0).kind;simp only [nf]at this ⊢;rw [this];rfl) (z5 _ U.r.top) v2
      ⟨by have:=hA.dep;show A.depth+0+1+0<_;exact cq 0x80008420084021082110000080410800308022 rfl E this,by have:=hA.uni;show A.units+1+0+3+8*0+100<_;exact cq 0x1006420023080210840210842084401908002061008410800308102 rfl E this,hA.hnd⟩
      (fun it k p=>⟨by have:=hA.dep;show A.depth+(1+0)+0+0<_;exact cq 0x80008021084021082110000080410800308022 rfl E this,by have:=hA.uni;show A.units+1+(3+0)+0+8*0+100<_;exact cq 0x100642002008c210840210842084401908002061008410800308102 rfl E this,hA.hnd⟩)
      u2 ⟨oL,es,ep,z9,z2⟩ rfl (fun c hc=>eJ (fL.mp w3 c hc)) w0
  .intro c o e
   rcases z1 c o e with⟨rfl,rfl⟩|⟨rfl,rfl⟩
   .exact w6
   .exact w4
 show kh T b X A R W s (.its (eQ 0 false x.cps.toList)) σ (.ref O.objs.size) _;rw [x6];exact v3
end
end
section
variable {T:Tp}{X:Cx}{R:Fz}{W:Wd}{σ:AS}{s:Shared}{b:Nat}{A:Around}
theorem bQ.drawn(Z:bQ T X R W σ s)(d:_):bQ T X R W σ {s with drawn:=d}:=Z.ext (fun _ _ e=>e) rfl rfl
noncomputable def Ms:GR
 |[]=>fun σ=>some (.loc σ.nx,{σ with st:=(σ.nx,.set [])::σ.st,nx:=σ.nx+1})
 |_=>fun _=>none
theorem NI:gb T b (.type "set") Ms:=by
 intro X A R W σ s M O N P J Y Q V;unfold Ms at Y
 split at Y
 .cases Y
  subst V;refine call_set_0 fun Z=>?_
  obtain⟨g,U⟩:=Q.newId (o:={cls:=.type "set",dict:=none,data:=.set #[] 0 (.fresh 0 0 Z)}) rfl (ao:=.set []) ⟨[],rfl,fun S=>Fx Z⟩ s.toks;exact⟨_,g,om Q rfl,U⟩
 .exact aZ Y
noncomputable def GD:Option AO->Option (List PV)
 |some (.set Z)=>some Z
 |_=>none
theorem rb{o:Option AO}{Z:List PV}(h:GD o=some Z):o=some (.set Z):=by
 cases o with
 |none=>exact aZ h
 |some Y=>cases Y with
  |set l=>obtain rfl:=(bc h).symm;rfl
  |_=>exact aZ h
noncomputable def HO(p q:PV):ER:=qR (fun a=>Ee (fun i σ=>(GD (σ.st.lookup i)).bind fun Y=>(gm Y).bind fun Z=>if Z.length<4096 then some (.bool (decide (a∈Z)),σ)else none) q) p
theorem rI:∀(Z:List Int),gm (Z.map .int)=some Z
 |[]=>rfl
 |n::Z=>by simp [DN,Dy,rI Z]
theorem Ld:bC T b (compareOp .In) HO:=by
 intro X A R W σ s p q u v J U F Z Y P Q;refine fD Z P fun a t Z=>pw Z Q fun i Z G=>cE Z fun I e Z=>cE Z fun H V Z=>fO Z fun M Z=>bv Z ?_
 obtain⟨_,o,N,S,rfl,O⟩:=Y.r.trk i _ (rb e);rw [rI]at V;cases V
 refine wpAny_inSet_of (knd:=PySem.intKind T.prog T.w) (k:=a) (yY a t) rfl ((O T.prog).setOf N M) ?_
 exact aT.same Y rfl
theorem yk{Y:Type}{Z:Array Y}(h:Z.size=1):(SetTable.eraseAt Z 0).size=0:=by
 unfold SetTable.eraseAt;simp [h]
theorem wf{Y:Type}{Z:Array Y}{p:Nat}{x:Y}(h:p<=Z.size):(SetTable.insertAt Z p x).size=Z.size+1:=by
 unfold SetTable.insertAt;simp;exact bY (iF 0x42300840084001080118020100420840000822 rfl (mx (kT h)) (aV (kT h))) (iF 0x80108002104230080118020100428840000a22 rfl (mx (kT h)) (aV (kT h)))
theorem kD(V:Array Nat)(j:Nat):∀Z lo Y,lo<=Y->SetTable.below.go V j Z lo Y<=Y
 |0,lo,Y,h=>h
 |Z+1,lo,Y,h=>by
  unfold SetTable.below.go
  split
  .dsimp only
   have e:=cU (lo+Y) 2;have d:=dT (lo+Y) (y:=2) (by decide);generalize (lo+Y)/2=m at *
   split
   .exact kD V j Z _ _ (by omega)
   .exact bP (kD V j Z _ _ (by omega)) (by omega)
  .exact h
theorem Jf(Z:Array Nat)(j:Nat):SetTable.below Z j<=Z.size:=kD Z j _ _ _ (ki _)
theorem xS{t:SetTable}(h:t.fits 1=true):(t.popped 0).fits 0=true:=by
 unfold SetTable.fits SetTable.fill at h
 rw [dw,gL,je]at h
 obtain⟨Z,Y⟩:=h;unfold SetTable.popped SetTable.drop;rw [IL (by exact(aW 0x210842000a21 rfl Z))];unfold SetTable.fits SetTable.fill;simp only [dw,gL,je];rw [yk Z,wf (Jf _ _)];exact⟨bY (wN 0x2008020 rfl) (wN 0x2008020 rfl),cq 0x10021080400880110020000400842000a22 rfl Z Y⟩
theorem vf{t:SetTable}(h:t.fits 1=true):t.popPlace=some 0:=by
 unfold SetTable.fits at h
 rw [dw,gL]at h
 unfold SetTable.popPlace;have:t.place.isEmpty=false:=by
  rw [<-Bool.not_eq_true,Array.isEmpty_iff_size_eq_zero];exact fun Z=>aW 0x80020842000a22 rfl h.1 Z
 rw [this,aO iA];dsimp only;rw [h.1]
 split
 .congr 1;omega
 .rfl
theorem Aw{a:Addr}{o:Obj}{N:Nat}{t:SetTable}{V:Int}{x:Value}{Q:Option Value->Shared->Prop}{E:Value->Shared->Prop}{Y:Program}{w:World}
  (P:s.heap.get? a=some o) (O:o.data=.set #[(V,x)] N t) (U:t.fits 1=true)
  (h:∀d,Q (some x) {s with heap:=s.heap.update a (Obj.putSet #[] (t.popped 0)),drawn:=d}):wpAny (model Y w) A (setPop a) Q E s:=by
 unfold setPop;refine aM (wpAny_setState_of P O U ?_);dsimp only;rw [vf U];dsimp only;have Z:∀d,wpAny (model Y w) A (do
   let some (_,x):=(#[(V,x)]:Array (Int×Value))[0]?|unsupported "internal:set.pop"
   storeSet a (SetTable.eraseAt #[(V,x)] 0) (t.popped 0)
   return some x) Q E {s with drawn:=d}:=fun d=>by
  have M:SetTable.eraseAt #[(V,x)] 0=#[]:=by unfold SetTable.eraseAt;rfl
  show wpAny _ _ (storeSet a (SetTable.eraseAt #[(V,x)] 0) (t.popped 0) >>= fun _=>pure (some x)) _ _ _;rw [M];refine aM (wpAny_storeSet_of (s:={s with drawn:=d}) P O ?_ (ki _));exact bI (h d)
 unfold setsByText;refine aM (aM (GE (bI ?_)))
 split
 .exact aM (nB (src:=Source.order) fun d=>Z d)
 .refine aM (jp (a:=()) ?_ (Z s.drawn))
  obtain⟨_,_,_,_,S,_,_⟩:=t;cases S<;>rfl
theorem MX(B:bQ T X R W σ s){i:Nat}{a:Int}{o:Obj}(e:σ.st.lookup i=some (.set [.int a]))(J:s.heap.get? (W.ρ i)=some o)(C:∀Z,o.SetObjOf (PySem.intKind Z T.w) (fun k=>decide (k∈[a])) [a].length):
  wpAny (model T.prog T.w) A (call (.builtin "set.pop") [.ref (W.ρ i)]) (aT T X R W s (.int a) {σ with st:=aG σ.st i (.set [])}) bg s:=by
 obtain⟨hex,I,l,t,G,v,S,z,P⟩:=C T.prog;have U:I.size=1:=z;obtain⟨⟨n,x⟩,rfl⟩:∃y,I=#[y]:=by
  refine⟨I[0],?_⟩;apply Array.ext
  .simpa using U
  .intro i r m
   have:i=0:=by exact bY (bD 0x2100020004010842000822 rfl U r) (aW 0x8020 rfl)
   subst this;rfl
 have D:∃t,x=.int a t:=by
  have:=(S a).mp (by simp);obtain⟨y,E,H⟩:=this;rw [cJ.mp E]at H
  have Q:Value.isInt a x=true:=H;cases x<;>simp [Value.isInt]at Q
  rw [Q];exact⟨_,rfl⟩
 obtain⟨q,rfl⟩:=D;refine vm JS ⟨_,J,hex.1⟩ F.entry_set_pop ?_ (F.args_set_pop_1 _)
 unfold Builtin.«set.pop» Builtin.Frozenset.noArgs;simp only [List.isEmpty_nil,bind_assoc];unfold Builtin.Frozenset.addrOf;refine aM (bI ?_);refine aM (Aw J G P fun d=>?_);dsimp only;have Y:=fun Z=>SetOf_store (knd:=PySem.intKind Z T.w) J hex G (es':=#[]) (t':=t.popped 0) (S':=fun k=>decide (k∈([]:List Int))) (fun e u=>by simp at u) (fun k=>by simp) (by show 0<4096;exact wN 0x4000a008420 rfl) (xS P)
 have N:=B.drawn d;obtain⟨g,M⟩:=N.updId e (uI s.heap (W.ρ i) (Obj.putSet #[] (t.popped 0))) (Y T.prog).1 (ao:=.set []) ⟨[],rfl,fun Z=>by
  obtain⟨p,V,O⟩:=((Y Z).2).objOf;rw [(Y Z).1]at V;obtain rfl:=bc V;exact O⟩ s.toks
 exact bI ⟨_,rfl,W,g,ed _ _,M⟩
noncomputable def NN:List PV->Option Int
 |[p]=>(match p with
  |.int a=>some a
  |_=>none)
 |_=>none
theorem yU{Z:List PV}{a:Int}(h:NN Z=some a):Z=[.int a]:=by
 cases Z with
 |nil=>exact aZ h
 |cons p Z=>cases Z with
  |cons _ _=>exact aZ h
  |nil=>cases p with
   |int b=>obtain rfl:=(bc h).symm;rfl
   |_=>exact aZ h
noncomputable def Dc:GR:=g1 (Ee fun i σ=>(GD (σ.st.lookup i)).bind fun Z=>(NN Z).bind fun a=>some (.int a,{σ with st:=aG σ.st i (.set [])}))
theorem HT:gb T b (.builtin "set.pop") Dc:=by
 intro X A R W σ s O H G P E Z Q U;refine EE Z U fun q u Z N=>pw Z N fun i Z F=>cE Z fun O e Z=>cE Z fun a I Z=>bv Z ?_
 cases yU I;have e:=rb e;obtain⟨_,o,J,S,Y,M⟩:=Q.r.trk i _ e;have V:S=[a]:=by
  cases S with
  |nil=>exact EG Y
  |cons x l=>cases l with
   |cons _ _=>cases Y
   |nil=>cases Y;rfl
 subst V;exact MX Q e J M
noncomputable def Tk(f:ER):ER:=fun σ=>match f {σ with st:=(σ.nx,.set [])::σ.st,nx:=σ.nx+1}with
 |some (.int a,Z)=>(match Z.st.lookup σ.nx with
  |some (.set [])=>some (.loc σ.nx,{Z with st:=aG Z.st σ.nx (.set [.int a])})
  |_=>none)
 |_=>none
theorem JO{f:ER}{r:PV×AS}(h:Tk f σ=some r):∃a Z,f {σ with st:=(σ.nx,.set [])::σ.st,nx:=σ.nx+1}=some (.int a,Z)/\Z.st.lookup σ.nx=some (.set [])/\r=(.loc σ.nx,{Z with st:=aG Z.st σ.nx (.set [.int a])}):=by
 unfold Tk at h
 cases e:f {σ with st:=(σ.nx,.set [])::σ.st,nx:=σ.nx+1}with
 |none=>rw [e]at h;exact aZ h
 |some y=>
  obtain⟨p,Z⟩:=y;rw [e]at h
  cases p with
  |int a=>
   have h:(match Z.st.lookup σ.nx with|some (.set [])=>some (PV.loc σ.nx,{Z with st:=aG Z.st σ.nx (.set [.int a])})|_=>none)=some r:=h;cases Y:Z.st.lookup σ.nx with
   |none=>rw [Y]at h;exact aZ h
   |some U=>cases U with
    |set V=>cases V with
     |nil=>rw [Y]at h;exact⟨a,Z,rfl,Y,(bc h).symm⟩
     |cons _ _=>rw [Y]at h;exact aZ h
    |_=>rw [Y]at h;exact aZ h
  |_=>exact aZ h
set_option tactic.hygienic true in
theorem aa.sg{e:Expr}{k:Nat}{M:Pos}{f:ER}(h:aa T b X e f)(E:kdsCode T.K X.env.code=true)
  (G:(displayRoad k [e]==.constants)=false:=by rfl) (U:(displayRoad k [e]==.unsure)=false:=by rfl) (hp:kdsPlain e=true:=by rfl):aa T b X (.Set [e] k M) (Tk f):=by
 refine⟨?_⟩;intro A R W σ s pv i hA hf y;obtain⟨a,Z,j,O,P⟩:=JO hf;obtain⟨rfl,rfl⟩:pv=.loc σ.nx/\i={Z with st:=aG Z.st σ.nx (.set [.int a])}:=⟨bw Prod.fst P,bw Prod.snd P⟩;rw (occs:=.all) [arm_eval_Set];refine aM (ic ?_);refine aM (kds_main (K:=T.K) (fun a o q=>y.r.hF a o (y.r.top.kin a o q)) E fun b'=>?_);rw (occs:=.all) [kds_star [e] (by simp [hp]),lK];refine kds_core (ts:=(evalEach [e] X.env).map fun t=>do let v <-t;standAt M;pure v) G ?_ ?_ ?_ fun D=>?_
 .refine List.findIdx?_eq_none_iff.mpr fun x hx=>?_
  obtain⟨t,_,rfl⟩:=da.mp hx;rfl
 .rw (occs:=.all) [db,kds_len];exact qz rfl
 .rw (occs:=.all) [lK];rfl
 .rw (occs:=.all) [U]
  obtain⟨l,H⟩:=y.newId (o:={cls:=.type "set",dict:=Option.none,data:=.set #[] 0 (.fresh 0 0 D)}) rfl (ao:=.set []) ⟨[],rfl,fun S=>Fx D⟩ s.toks;refine kds_all M [e] _ _ ?_
  refine bt (h.1 A R _ _ _ _ _ hA j H) (fun v Y F=>?_) ay;obtain⟨N,Q,⟨t,rfl⟩,V⟩:=F;obtain⟨d,o,ho,ns,g,hs⟩:=V.r.trk σ.nx _ O;have p:ns=[]:=yK.mp g.symm;subst p;have J:N.ρ σ.nx=s.heap.objs.size:=by
   have h1:=Q.ρ σ.nx (by rw (occs:=.all) [y.nx];show W.n<W.n+1;exact aW 0x210004000420 rfl);rw (occs:=.all) [h1];show(if σ.nx=W.n then _ else _)=_;rw (occs:=.all) [aJ y.nx]
  show wpAny _ _ (setAdd s.heap.objs.size (.int a t)) _ _ _;unfold setAdd;refine fZ (aM ((PySem.intKind T.prog T.w).pyHash (yY a t) ?_));rw [J]at ho
  refine wpAny_setAddHashed_of (knd:=PySem.intKind T.prog T.w) (s:={Y with toks:=Y.toks+1}) (yY a t) rfl ((hs T.prog).setOf ho (by show 0<4096;exact wN 0x4000a008420 rfl)) (by show 0+1<4096;exact wN 0x4000a108420 rfl) fun h' B z0=>?_
  obtain⟨o',u,z⟩:=z0.objOf;have c:(fun C=>decide (C∈([]:List Int))||decide (C=a))=fun C=>decide (C∈[a]):=funext fun C=>by simp
  rw [c]at z
  rw [<-J]at B u
  obtain⟨m,I⟩:=V.updId O B u (ao:=.set [.int a]) ⟨[a],rfl,fun S=>z.intSetOf S T.w⟩ (Y.toks+1);refine kds_fill_nil rfl ?_
  refine⟨N,l.trans (Q.trans m),⟨d,by rw (occs:=.all) [J]⟩,I⟩
end
section
variable {T:Tp}{X:Cx}{R:Fz}{W:Wd}{σ:AS}{s:Shared}{b:Nat}{A:Around}
structure Ei(K:Frag)(C:Addr):Prop where
 hga:findIn K (.ref C) "__getattribute__"=some (some (.builtin "object.__getattribute__"))
 hk:findIn K (.ref C) "__getattr__"=some none
 cd:(clsIn K C).any (fun cd=>cd.hasDict)=true
 h0:findIn K (.ref C) "_headers"=some none
theorem oI{od:Obj}{x:Addr}(h:mz od x)(Z:Str):lookIn Z od=some (if Z=("_headers":Str)then some (.ref x)else none):=by
 obtain⟨V,N,P,U,S⟩:=h;have:=S Z;unfold nsFind findBy at this
 unfold lookIn;rw [P];dsimp only;rw [zd];cases q:V.find? fun e=>e.key.isStr Z with
 |some e=>
  rw [q]at this
  rw [<-this];rfl
 |none=>
  rw [q]at this
  rw [<-this];have Y:V.toList.any (·.refKey)=false:=by
   rw [List.any_eq_false];intro e Q;obtain⟨n,t,O⟩:=U e (Array.mem_toList_iff.mp Q);unfold DictEntry.refKey;rw [O];exact(fun h=>EJ h)
  dsimp only;rw [aO (by rw [Y];exact iA)];rfl
theorem qU(Z:bQ T X R W σ s){C:Addr}{l:Nat}{u:Value}(V:bn W (.hdr C l) u):∃a Y od,u=.ref a/\l<W.n/\InstAt s.heap a Y C (some od)/\mz od (W.ρ l):=by
 obtain⟨U,a,D,od,rfl,P,Q,S⟩:=V;exact⟨a,_,od,rfl,U,⟨Z.r.hF _ _ P,rfl,rfl,Z.r.hF _ _ Q⟩,S⟩
noncomputable def ms(C:Addr):PV->ER
 |.hdr Z l=>fun σ=>if Z=C then some (.loc l,σ)else none
 |_=>fun _=>none
theorem Dp{C:Addr}{p:PV}{r:PV×AS}(h:ms C p σ=some r):∃l,p=.hdr C l/\r=(.loc l,σ):=by
 cases p with
 |hdr Y l=>exact fO (show(if Y=C then some (PV.loc l,σ)else none)=some r from h) fun Z h=>⟨l,by rw [Z],(bc h).symm⟩
 |_=>exact aZ h
set_option tactic.hygienic true in
theorem aa.headers{C:Addr}(I:Ei T.K C){e:Expr}{U:Pos}{f:ER}(h:aa T b X e f)
  (y:∀O,eval (.Attribute e "_headers" U) O=(do
   let o <-eval e O
   standAt U.atName
   let r <-holding [o] (getAttr o "_headers" true)
   letTemporaryGo e o r
   pure r):=by intro _;rfl) (E:∀o r,letTemporaryGo e o r=pure ():=by intro _ _;rfl):aa T b X (.Attribute e "_headers" U) (ca f (ms C)):=by
 refine⟨?_⟩;intro A R W σ s G N t z D;obtain⟨p,σ₁,P,Q⟩:=kX z;rw [y];refine aM (aK (h.1 A R W σ s p σ₁ t P D) fun V u H S F Z=>?_);obtain⟨l,rfl,Y⟩:=Dp Q;obtain⟨rfl,rfl⟩:G=.loc l/\N=σ₁:=⟨bw Prod.fst Y,bw Prod.snd Y⟩;obtain⟨a,n,od,rfl,B,x,w⟩:=qU Z F;obtain⟨m,J,M⟩:=any_some I.cd;refine aM (ic (aM (fZ (get_value (K:=T.K) (v:=.ref (V.ρ l)) (fun a o q=>Z.r.hF a o (Z.r.top.kin a o q)) x I.hga ?_ rfl ?_))))
 .unfold findObj
  rw [J,fx,I.h0,fx];dsimp only;rw [fx];unfold PySem.W.ownOf;rw [M,aJ rfl];dsimp only;rw [oI w,aJ rfl];rfl
 .rw [E]
  exact aM (bI (bI ⟨V,S,⟨B,rfl⟩,Z.tok _⟩))
theorem pY(Y:bQ T X R W σ s){C:Addr}(V:Ei T.K C){l:Nat}{u:Value}(U:bn W (.hdr C l) u){Z:Str}{f:Addr}(O:findIn T.K (.ref C) Z=some (some (.ref f)))(S:typeIn T.K (.ref f)=some (.type "function"))
  (P:(Z==("_headers":Str))=false) {pl:Sem Bool} {Q:Value×List Value->Shared->Prop} {E:Value->Shared->Prop} (h:Q (.ref f,[u]) s):wpAny (model T.prog T.w) A (getMethod u Z pl) Q E s:=by
 obtain⟨a,J,od,rfl,I,N,M⟩:=qU Y U;refine method_fn (K:=T.K) (fun a o q=>Y.r.hF a o (Y.r.top.kin a o q)) N V.hga V.hk O S ?_ h
 unfold shadowIn;dsimp only;rw [oI M,aO (by simpa using P)];rfl
noncomputable def oT(C:Addr):PV->Bool
 |.hdr Z _=>decide (Z=C)
 |_=>false
set_option tactic.hygienic true in
theorem nL{C:Addr}{p:PV}(h:oT C p=true):∃l,p=.hdr C l:=by
 unfold oT at h
 split at h
 .rename_i Z l;cases eJ h;exact⟨l,rfl⟩
 .exact EJ h
noncomputable def bB(C:Addr)(U:bz)(f:ER)(V:LR):ER:=fun σ=>match f σ with
 |some (p,σ₁)=>if oT C p=true then(match V σ₁ with
  |some (Y,Z)=>dm U (eU Z.st 2 (bA (p::Y))) (p::Y) Z
  |none=>none)else none
 |none=>none
set_option tactic.hygienic true in
theorem aa.hcall{C:Addr}(hC:Ei T.K C){o:Expr}{U:Str}{Q Y:Pos}{z:List Expr}{f:ER}{h:LR}{x:Addr}{fo:Obj}{fd:FuncData}{e:bz}
  (hm:findIn T.K (.ref C) U=some (some (.ref x))) (q:typeIn T.K (.ref x)=some (.type "function")) (hn:(U==("_headers":Str))=false)
  (hf:aa T b X o f) (n:ak T b X z h) (m:fy T b (.ref x) (fun H=>⟨H,[]⟩) e) (hK:T.K.lookup x=some fo) (hd:fo.data=.func fd)
  (I:∀Z,attributeBase o U Z (eval o Z)=eval o Z:=by intro _;rfl)
  (J:∀Z,methodCallForm (z.length+([]:List Keyword).length) (backTo Y (starEach z Z)) (backToKw Y (keywordEach [] Z))=true:=by intro _;rfl)
  (t:∀Z,(starEach z Z).any (·.1)=false:=by intro _;rfl)
  (F:(Q.endLine==Y.line)=true:=by rfl):aa T b X (.Call (.Attribute o U Q) z [] Y) (bB C e f h):=by
 refine⟨?_⟩;intro A R W σ s pv d k P a;unfold bB at P
 split at P
 .rename_i p σ₁ B
  split at P
  .rename_i v
   split at P
   .rename_i c N D
    obtain⟨l,rfl⟩:=nL v;rw [arm_eval_Call,I];refine aM (aK (hf.1 A R W σ s _ σ₁ k B a) fun y u G E i S=>?_);refine aM (ic ?_);unfold methodCall;rw [J];refine aM (fZ (pY S hC i hm q hn ?_));have M:methodCallPos true o X.env Q Y=pure Y:=by unfold methodCallPos;simp [F]
    refine aM (jp M ?_);refine rf (o:=fo) (fd:=fd) (cG (co (t _)) (bt (n.1 A R y σ₁ G c N Y k D S) (fun H j v=>?_) ay));obtain⟨g,O,w,V⟩:=v;refine⟨⟨V.r.hF _ _ (V.r.top.kin _ _ hK),hd⟩,?_⟩;exact dl (E.trans O) (ld (mk:=fun H=>⟨H,[]⟩) m k P V ⟨u,H,rfl,i.mono O.ext,w⟩)
   .exact aZ P
  .exact aZ P
 .exact aZ P
end
section
variable {T:Tp}{X:Cx}{R:Fz}{W:Wd}{σ:AS}{s:Shared}{b:Nat}{A:Around}
theorem aN.snoc{W:Wd}{Y:List PV}{q:PV}{Z:List Value}{v:Value}(h:aN W Y Z)(V:bn W q v):aN W (Y++[q]) (Z++[v]):=h.append ⟨v,[],rfl,V,rfl⟩
noncomputable def pt(k:Str):List Value->Args:=fun Z=>⟨Z.dropLast,[(k,Z.getLast?.getD .none)]⟩
noncomputable def dX(C:Addr)(Q:bz)(f:ER)(U:LR)(S:ER):ER:=fun σ=>match f σ with
 |some (p,σ₁)=>if oT C p=true then(match U σ₁ with
  |some (V,Y)=>(match S Y with
   |some (q,Z)=>dm Q (eU Z.st 2 (bA (p::(V++[q])))) (p::(V++[q])) Z
   |none=>none)
  |none=>none)else none
 |none=>none
set_option tactic.hygienic true in
theorem aa.hcallK{C:Addr}(hC:Ei T.K C){o:Expr}{P:Str}{H Z Y:Pos}{h:List Expr}{e:Expr}{k:Str}{f:ER}{fs:LR}{fk:ER}{g:Addr}{fo:Obj}{fd:FuncData}{Ct:bz}
  (hm:findIn T.K (.ref C) P=some (some (.ref g))) (z9:typeIn T.K (.ref g)=some (.type "function")) (hn:(P==("_headers":Str))=false)
  (hf:aa T b X o f) (y0:ak T b X h fs) (hk:aa T b X e fk) (y1:fy T b (.ref g) (pt k) Ct) (hK:T.K.lookup g=some fo) (hd:fo.data=.func fd)
  (i:∀V,attributeBase o P V (eval o V)=eval o V:=by intro _;rfl)
  (j:∀V,methodCallForm (h.length+[(⟨some k,e,Y⟩:Keyword)].length) (backTo Z (starEach h V)) (backToKw Z (keywordEach [⟨some k,e,Y⟩] V))=true:=by intro _;rfl)
  (z8:∀V,(starEach h V).any (·.1)=false:=by intro _;rfl)
  (a:(H.endLine==Z.line)=true:=by rfl):aa T b X (.Call (.Attribute o P H) h [⟨some k,e,Y⟩] Z) (dX C Ct f fs fk):=by
 refine⟨?_⟩;intro A R W σ s pv z6 hA G hr;unfold dX at G
 split at G
 .rename_i p σ₁ z3
  split at G
  .rename_i hp
   split at G
   .rename_i ps N z2
    split at G
    .rename_i q B z1
     obtain⟨l,rfl⟩:=nL hp;rw [arm_eval_Call,i];refine aM (aK (hf.1 A R W σ s _ σ₁ hA z3 hr) fun z5 u F z0 hu J=>?_);refine aM (ic ?_);unfold methodCall;rw [j];refine aM (fZ (pY J hC hu hm z9 hn ?_));have n:methodCallPos true o X.env H Z=pure Z:=by unfold methodCallPos;simp [a]
     refine aM (jp n ?_);refine callWith_function_kw (o:=fo) (fd:=fd) ?_
     have M:wpAny (model T.prog T.w) A (spliced (backTo Z (starEach h X.env))) (fun O Q=>wpAny (model T.prog T.w) A (evalAll ((backToKw Z (keywordEach [⟨some k,e,Y⟩] X.env)).map (·.2))) (fun ks S=>
       (S.heap.get? g=some fo/\fo.data=.func fd)/\wpAny (model T.prog T.w) A (PySem.call (.ref g) ([u]++O) (([some k].filterMap id).zip ks)) (aT T X R W s pv z6) bg S) bg Q) bg F:=by
      refine bt (y0.1 A R z5 σ₁ F ps N Z hA z2 J) (fun O Q hp=>?_) ay;obtain⟨z4,D,z7,y⟩:=hp;refine wpAny_evalAll_cons (aM (aK (hk.1 A R z4 N Q q B hA z1 y) fun y2 v S I hv U=>aM (ic (bI (wpAny_evalAll_nil ?_)))));refine⟨⟨U.r.hF _ _ (U.r.top.kin _ _ hK),hd⟩,?_⟩;have hcall:=ld (mk:=pt k) (X:=X) (vs:=u::(O++[v])) y1 hA G U ⟨u,O++[v],rfl,hu.mono (D.trans I).ext,(z7.mono I.ext).snoc hv⟩;have he:pt k (u::(O++[v]))=⟨[u]++O,([some k].filterMap id).zip [v]⟩:=by
       unfold pt
       congr 1
       .rw [show u::(O++[v])=(u::O)++[v]from rfl,List.dropLast_concat];rfl
       .rw [show u::(O++[v])=(u::O)++[v]from rfl,zL];rfl
      rw [he]at hcall
      exact dl ((z0.trans D).trans I) hcall
     have E:(backToKw Z (keywordEach [⟨some k,e,Y⟩] X.env)).all (·.1.isSome)=true:=rfl;have hb:=co (pos:=Z) (z8 X.env);generalize backTo Z (starEach h X.env)=z at M hb
     cases z with
     |nil=>
      unfold evalArgs;dsimp only;refine aM (m:=spliced []) (bt M (fun O Q c=>aM (bI ?_)) ay);dsimp only;refine fZ ?_
      rw [E,aJ rfl];exact aM (bt c (fun ks S d=>aM (bI (bI d))) ay)
     |cons t ts=>
      obtain⟨f1,x⟩:=t;cases f1 with
      |false=>exact evalArgs_kw E M
      |true=>trivial
    .exact aZ G
   .exact aZ G
  .exact aZ G
 .exact aZ G
end
structure oj(code:Array Nat):Prop where
 h0:Sre.ops[code.getD 0 0]?=some .INFO
 h2:code.getD 2 0=4
 hs:∀c seen,32<=c->c<127->∃seen',Sre.inSet code c code.size 5 true seen=.ok (false,seen')
theorem lm{m:Sre.M}(W:oj m.code)(X:∀s,s<m.lim->32<=m.text.getD s 0/\m.text.getD s 0<127):∀Y s seen,∃Z,m.admitted Y s seen=.ok (none,Z)
 |0,s,seen=>⟨seen,rfl⟩
 |Y+1,s,seen=>by
  unfold Sre.M.admitted
  split
  .exact⟨seen,rfl⟩
  .rename_i h
   obtain⟨U,V⟩:=X s (by exact(bD 0x4010840000c21 rfl h));obtain⟨Z,e⟩:=W.hs _ seen U V;rw [e];exact lm W X Y (s+1) Z
structure KG(m:Sre.M):Prop where
 answer:m.answer=some false
 frames:m.frames=[]
 outcome:m.outcome=none
theorem ug{m:Sre.M}(Y:oj m.code)(X:∀s,s<m.lim->32<=m.text.getD s 0/\m.text.getD s 0<127)(U:m.frames=[])(W:m.outcome=none)(s:Nat)(first:Bool):KG (m.attemptFrom s first):=by
 unfold Sre.M.attemptFrom;have V:m.hasFirstSet=true:=by
  unfold Sre.M.hasFirstSet;rw [Y.h0,Y.h2];rfl
 rw [V];obtain⟨Z,e⟩:=lm Y X (m.lim+1-s) s m.seen;rw [e];exact⟨rfl,U,W⟩
theorem xE{code Z:Array Nat}{g:Nat}(X:oj code)(Y:∀s,s<Z.size->32<=Z.getD s 0/\Z.getD s 0<127):KG (Sre.forSearch code Z g 0 Z.size false):=by
 unfold Sre.forSearch;dsimp only
 split
 .exact⟨rfl,rfl,rfl⟩
 .exact ug X Y rfl rfl _ _
theorem Kj{m:Sre.M}(h:KG m):∃Z,m.runFor 4=Z/\Z.outcome=some .failed:=by
 refine⟨_,rfl,?_⟩;have Y:m.step={m with outcome:=some .failed}:=by
  unfold Sre.M.step;rw [h.outcome,h.answer,h.frames];rfl
 unfold Sre.M.runFor;rw [h.outcome,Y];rfl
theorem Sg:oj #[14,10,4,1,1,22,0,31,16,127,0,13,7,22,0,31,16,127,0,1] where
 h0:=rfl
 h2:=rfl
 hs:=fun c seen Y h2=>by
  have W:(decide (0<=c)&&decide (c<=31))=false:=by simp;exact aW 0xf84210002020021 rfl Y
  have X:(c==127)=false:=by simp;exact fun Z=>aW 0xfe4000511fc8000422 rfl h2 Z
  refine⟨((seen.add 22).add 16).add 0,?_⟩;show(if(decide (0<=c)&&decide (c<=31))=true then _ else(if(c==127)=true then _ else _))=_;rw [W,X];rfl
theorem Sp:oj #[14,14,4,1,1,9,4294966783,0,0,2147483648,0,0,0,0,0,13,11,9,4294966783,0,0,2147483648,0,0,0,0,0,1] where
 h0:=rfl
 h2:=rfl
 hs:=fun c seen Z h2=>by
  have Y:(decide (c<256)&&((#[14,14,4,1,1,9,4294966783,0,0,2147483648,0,0,0,0,0,13,11,9,4294966783,0,0,2147483648,0,0,0,0,0,1]:Array Nat).getD (5+(1+c/32)) 0).testBit (c%32))=false:=by
   have:∀c:Fin 127,32<=c.val->((#[14,14,4,1,1,9,4294966783,0,0,2147483648,0,0,0,0,0,13,11,9,4294966783,0,0,2147483648,0,0,0,0,0,1]:Array Nat).getD (5+(1+c.val/32)) 0).testBit (c.val%32)=false:=by decide
   rw [this ⟨c,h2⟩ Z,Bool.and_false]
  refine⟨(seen.add 9).add 0,?_⟩;show(if(decide (c<256)&&((#[14,14,4,1,1,9,4294966783,0,0,2147483648,0,0,0,0,0,13,11,9,4294966783,0,0,2147483648,0,0,0,0,0,1]:Array Nat).getD (5+(1+c/32)) 0).testBit (c%32))=true then _ else _)=_;rw [Y];rfl
section
variable {prog:Program}{w:World}{A:Around}{E:Value->Shared->Prop}{s:Shared}
theorem kC{M:Model}(p:Nat->Bool)(t:Nat->String){Q:Unit->Shared->Prop}(h:Q () s):∀l:List Nat,wpAny M A (forIn l PUnit.unit fun i _=>if p i=true then do rule (t i);pure (ForInStep.yield PUnit.unit)else pure (ForInStep.yield PUnit.unit)) (fun _=>Q ()) E s
 |[]=>by rw [EK];exact bI h
 |i::l=>by
  rw [rt]
  split
  .exact aM (aM (wpAny_rule (bI (kC p t h l))))
  .exact aM (bI (kC p t h l))
theorem sq{m:Sre.M}(h:KG m){Q:Option Sre.M->Shared->Prop}(W:Q none s):wpAny (model prog w) A (Builtin.Re.reRunToEnd m) Q E s:=by
 unfold Builtin.Re.reRunToEnd;obtain⟨Z,U,X⟩:=Kj h;have V:Builtin.Re.reDrive (2^64) m=pure Z:=by
  show Builtin.Re.reDrive ((2^64-1)+1) m=pure Z;unfold Builtin.Re.reDrive;show(if(m.runFor 4).outcome.isSome=true then pure (m.runFor 4)else _)=_;rw [U,X];rfl
 refine aM (jp V ?_);refine aM (bt (kC (Q:=fun _=>Q none) (fun i=>Z.seen.has i) (fun i=>Sre.names.getD i "") W _) (fun _ T Y=>?_) fun _ _ e=>e);rw [X];exact bI Y
noncomputable def ST(o:Obj)(c:Addr):Prop:=o.cls=.type "re.Pattern"/\o.dict=none/\∃(p:Str) (t:Tok) (f:Int×Tok),o.data=.fields #[.str p t,.int f.1 f.2,.int 0 0,.none,.none,.ref c,.int 0 0]
structure Gj(K:Frag)(a:Addr):Prop where
 pat:∃o c oc n vs code,K.lookup a=some o/\ST o c/\K.lookup c=some oc/\oc.data=.seq vs n/\(vs.map Builtin.Re.reRawOf).map (·.toNat)=code/\oj code
noncomputable def fp(x:Str):Bool:=x.cps.toList.all (fun c=>decide (32<=c)&&decide (c<127))&&decide (x.cps.size<=2^20)
theorem uH(v:Value):Builtin.Re.reNamed "re.Pattern.search" "search" ["string","pos","endpos"] 1 [v] []=pure [some v,none,none]:=by left
theorem DQ(x:Str)(t:Tok):asStr? (.str x t)=pure (some x):=rfl
theorem HS{x:Str}(h:fp x=true):(∀s,s<x.cps.size->32<=x.cps.getD s 0/\x.cps.getD s 0<127)/\x.cps.size<=2^20:=by
 unfold fp at h
 rw [dw,fL]at h
 refine⟨fun s Z=>?_,eJ h.2⟩;have:=h.1 (x.cps[s]) (by simp);rw [dw]at this
 rw [Array.getD_eq_getD_getElem?,IL Z];exact⟨eJ this.1,eJ this.2⟩
theorem yz{K:Frag}{a:Addr}(W:K.In s.heap)(T:Gj K a){x:Str}{t:Tok}(V:fp x=true){Q:Fin->Shared->Prop}(U:Q (.done (.ret .none)) s):
  wpAny (model prog w) A (Builtin.«re.Pattern.search» ⟨[.ref a,.str x t],[]⟩) Q E s:=by
 obtain⟨o,c,y,n,z,code,I,⟨P,S,p,X,f,R⟩,J,M,N,O⟩:=T;obtain⟨g1,g2⟩:=HS V;unfold Builtin.«re.Pattern.search» Builtin.Re.reTarget;dsimp only;refine aM ?_
 refine aM (jp (uH _) ?_);dsimp only;refine aM (bI (aM (bI ?_)));refine aM (wpAny_fieldsOf (W _ _ I) R ?_);unfold Builtin.Re.reTextOf;refine aM (aM (jp (DQ _ _) (bI ?_)));generalize Y:min (2^63-1:Int).toNat x.cps.size=lim;generalize Z:min (Int.toNat 0) x.cps.size=ps;have B:(Builtin.Re.reRawNat ((#[Value.str p X,.int f.1 f.2,.int 0 0,.none,.none,.ref c,.int 0 0]:Array Value).getD 6 .none)==0&&(0:Nat)==1)=false:=rfl;have C:(Builtin.Re.reRawNat ((#[Value.str p X,.int f.1 f.2,.int 0 0,.none,.none,.ref c,.int 0 0]:Array Value).getD 6 .none)==1&&(0:Nat)==0)=false:=rfl;rw [B,C];simp only [vw,me];refine aM (m:=Builtin.Re.reNoCollectionInside (.str x t) 0) (jp (a:=()) rfl ?_);have D:(#[Value.str p X,.int f.1 f.2,.int 0 0,.none,.none,.ref c,.int 0 0]:Array Value).getD 5 .none=.ref c:=rfl;have F:Builtin.Re.reRawNat ((#[Value.str p X,.int f.1 f.2,.int 0 0,.none,.none,.ref c,.int 0 0]:Array Value).getD 2 .none)=0:=rfl;rw [D,F];unfold Builtin.Re.reRawItems;refine aM (aM (wpAny_seqItems (W _ _ J) M (bI (bI ?_))));have G:ps=0:=by rw [<-Z];exact Nat.zero_min _
 have H:lim=x.cps.size:=by rw [<-Y];exact Ka (bP g2 (by decide +kernel))
 rw [G,H];dsimp only [Option.getD_some];rw [N];unfold Builtin.Re.reAnswer;refine aM (sq (xE O g1) ?_);exact bI U
end
theorem rZ:PlainAttrs "re.Pattern":=
 ⟨⟨"object.__getattribute__",by rw [zJ,yP];left,by decide +kernel⟩,by rw [zJ,yP];left⟩
theorem oK:Slot "re.Pattern" "search" "re.Pattern.search":=
 .of (owner:="re.Pattern") (n:="search") (by rw [zJ,yP];left) (by decide +kernel) (by decide +kernel) (by decide +kernel)
  (by first|exact .inl (by decide +kernel)|exact .inr (by decide +kernel)) (by rw [isSubtype_type];left)
theorem wW:typeOf (.builtin "re.Pattern.search")=pure (.type "method_descriptor"):=by show builtinType _=_;rw [builtinType_eq_fast];left
theorem uL:entryFor table "re.Pattern.search"=some Builtin.«re.Pattern.search»:=entryFor_of_tree (by left)
theorem xC(a b:Value):argsOk "re.Pattern.search" ⟨[a,b],[]⟩:=by
 unfold argsOk;left
section
variable {T:Tp}{X:Cx}{R:Fz}{W:Wd}{σ:AS}{s:Shared}{b:Nat}{A:Around}
noncomputable def QC(V:List Addr)(f:ER)(Y:LR):ER:=fun σ=>match f σ with
 |some (.val (.ref a),σ₁)=>if V.contains a then(match Y σ₁ with
  |some ([.str x],Z)=>if fp x=true then some (.none,Z)else none
  |_=>none)else none
 |_=>none
theorem IA{S:List Addr}{f:ER}{U:LR}{r:PV×AS}(h:QC S f U σ=some r):∃a σ₁ x Z,f σ=some (.val (.ref a),σ₁)/\S.contains a=true/\U σ₁=some ([.str x],Z)/\fp x=true/\r=(.none,Z):=by
 unfold QC at h
 cases e:f σ with
 |none=>rw [e]at h;exact aZ h
 |some y=>
  obtain⟨p,σ₁⟩:=y;rw [e]at h
  cases p with
  |val v=>cases v with
   |ref a=>
    refine fO h fun P h=>?_
    cases Y:U σ₁ with
    |none=>rw [Y]at h;exact aZ h
    |some y=>
     obtain⟨V,Z⟩:=y;rw [Y]at h
     cases V with
     |nil=>exact aZ h
     |cons p V=>cases V with
      |cons _ _=>cases p<;>exact aZ h
      |nil=>cases p with
       |str x=>exact fO h fun Q h=>⟨a,σ₁,x,Z,rfl,P,Y,Q,(bc h).symm⟩
       |_=>exact aZ h
   |_=>exact aZ h
  |_=>exact aZ h
set_option tactic.hygienic true in
theorem aa.reSearch{d:List Addr}(hP:∀a∈d,Gj T.K a){o:Expr}{Q U:Pos}{C:List Expr}{f:ER}{g:LR}
  (hf:aa T b X o f) (p:ak T b X C g) (M:∀Y,attributeBase o "search" Y (eval o Y)=eval o Y:=by intro _;rfl)
  (N:∀Y,(((backTo U (starEach C Y)).all fun x=>!x.1)&&((backToKw U (keywordEach [] Y)).all fun x=>x.1.isSome)&&decide ((C.length+([]:List Keyword).length+if([]:List Keyword).isEmpty=true then 0 else 1)<30))=true:=by intro _;rfl)
  (H:∀Y,(starEach C Y).any (·.1)=false:=by intro _;rfl)
  (I:(Q.endLine==U.line)=true:=by rfl):aa T b X (.Call (.Attribute o "search" Q) C [] U) (QC d f g):=by
 refine⟨?_⟩;intro A R W σ s pv y i hc hr;obtain⟨a,σ₁,x,P,e,ha,D,hg,S⟩:=IA hc;obtain⟨rfl,rfl⟩:pv=.none/\y=P:=⟨bw Prod.fst S,bw Prod.snd S⟩;refine xk (M _) (N _) I rfl (aK (hf.1 A R W σ s _ σ₁ i e hr) fun z u J E hu V=>?_);rw [show u=.ref a from hu];have k:=hP a (vY.mp ha);obtain⟨o,c,oc,n,vs,code,h,⟨G,m,z0⟩,h2⟩:=id k;have j:=V.r.hF _ _ (V.r.top.kin _ _ h);refine⟨"re.Pattern","re.Pattern.search",rZ,oK,wW,⟨o,j,G⟩,fun a' e'=>?_,?_⟩
 .cases e';exact⟨o,j,m⟩
 .refine nD (co (H _)) (cG (co (H _)) (bt (p.1 A R z σ₁ J _ _ U i D V) (fun vs l hq=>?_) ay))
  obtain⟨B,F,w,Z⟩:=hq;obtain⟨v,rfl,t,rfl⟩:=TM w;have O:=Z.r.hF _ _ (Z.r.top.kin _ _ h);refine vm oK ⟨o,O,G⟩ uL ?_ (xC _ _)
  exact yz (K:=T.K) (fun a o q=>Z.r.hF a o (Z.r.top.kin a o q)) k hg ⟨_,rfl,B,E.trans F,rfl,Z⟩
end
section
open Builtin Builtin.ObjectAttr
section
variable {prog:Program}{w:World}{A:Around}{E:Value->Shared->Prop}{s:Shared}{K:Frag}{C x D l:Addr}
structure zI(K:Frag)(C:Addr):Prop where
 hp:plainOver K C=true
 ht:takerIn K C "_headers"=some none
 hh:(clsIn K C).any (·.hasDict)=true
 hs:findIn K (.ref C) "__setattr__"=some (some (.builtin "object.__setattr__"))
theorem sf(T:zI K C)(X:K.In s.heap)(O:s.heap.get? x=some (instObj C D))(U:s.heap.get? D=some emptyDict){Q:Unit->Shared->Prop}
  (M:∀P V k,Heap.SameBut D s.heap P->P.get? D=some V->mz V l->Q () {s with heap:=P,toks:=k}):
  wpAny (model prog w) A (setAttr (.ref x) "_headers" (.ref l)) Q E s:=by
 have I:InstAt s.heap x (instObj C D) C (some emptyDict):=⟨O,rfl,rfl,U⟩;refine set_plain (C:=C) (od:=some emptyDict) X I T.hs ?_
 refine osa_open (od:=some emptyDict) (s:={s with toks:=s.toks+1}) X I T.hp T.ht fun b=>?_
 obtain⟨H,J,R⟩:=any_some T.hh;refine aM (bI (aM (aM (Iu O (aM ((looks_clsIn X J).at ?_))))));rw [R];refine bI (a:=some D) (aM (bI (aM ?_)));unfold nsSet;refine aM (aM (GE (bI (aM (wpAny_mkText (aM (Iu U ?_)))))));show wpAny _ _ (if aRefKeyMayBeTheName (Str.ofString "_headers") #[]=true then _ else _) _ _ _;rw [show aRefKeyMayBeTheName (Str.ofString "_headers") #[]=false from rfl,aO iA];generalize (if(Str.ofString "_headers").cps.isEmpty=true then(0:Int)else _)=hv;have Y:Obj.putName (Str.ofString "_headers") hv (.str "_headers" (s.toks+1)) (.ref l) emptyDict={cls:=.type "dict",data:=.dict #[⟨hv,.str "_headers" (s.toks+1),.ref l⟩] 1}:=by rfl
 have W:=Heap.get?_update_self (Obj.putName (Str.ofString "_headers") hv (.str "_headers" (s.toks+1)) (.ref l)) U (by rw [Y];rfl)
 rw [Y]at W
 refine wpAny_updatePart U ?_
 refine aM (wpAny_lookBehind W (pastItsLine_dict (by exact kc _)) ?_);refine bI (M _ _ _ (uI _ _ _) W ⟨_,_,rfl,fun e N=>?_,fun Z=>?_⟩)
 .simp at N;subst N;exact⟨_,_,rfl⟩
 .unfold nsFind findBy
  rw [<-zd];show Option.map _ (List.find? _ [_])=_;unfold List.find?;show Option.map _ (match(Value.isStr (.str "_headers" (s.toks+1)) Z)with|true=>_|false=>_)=_
  by_cases S:Z=Str.ofString "_headers"
  .subst S;rfl
  .have:Value.isStr (.str "_headers" (s.toks+1)) Z=false:=by
    simp only [Value.isStr,lj,ne_eq];exact fun e=>S e.symm
   rw [aO S,this];rfl
end
end
section
variable {T:Tp}{X:Cx}{R:Fz}{W:Wd}{σ:AS}{s s':Shared}{b:Nat}{A:Around}
theorem dh.of{z:Fz}(Z:bQ T X R W σ s)(Y:∀c o,z.h c=some o->s.heap.get? c=some o/\W.F c=none/\R.h c=none/\c∉T.tabs/\c≠X.env.locals/\∀i,i<W.n->W.ρ i≠c)(S:∀g,z.g g=none):dh T X R W σ s z:=by
 have V:∀c,(∀o,z.h c=some o->False)->z.h c=none:=fun c h=>by
  cases q:z.h c with
  |none=>rfl
  |some o=>exact(h o q).elim
 refine⟨⟨Z.r.more (fun a o e=>?_) (fun g x e=>?_) (fun i U=>?_) (fun P Q=>?_),⟨Z.l.m,Z.l.nF,?_,Z.l.t,Z.l.ρ,Z.l.cv⟩,Z.nx⟩,fun c o e=>(Y c o e).2.1,fun c o e=>(Y c o e).2.2.1,fun g x e=>by rw [S]at e;exact aZ e⟩
 .rcases bx.mp e with e|⟨_,e⟩
  .exact(Y a o e).1
  .exact Z.r.hR a o e
 .rcases cb.mp e with e|⟨_,e⟩
  .rw [S]at e;exact aZ e
  .exact Z.r.hG g x e
 .exact aP.mpr ⟨V _ fun o e=>(Y _ o e).2.2.2.2.2 i U rfl,(Z.r.fre i U).2.1⟩
 .exact aP.mpr ⟨V _ fun o e=>(Y _ o e).2.2.2.1 Q,(Z.r.tabs P Q).2.1⟩
 .exact aP.mpr ⟨V _ fun o e=>(Y _ o e).2.2.2.2.1 rfl,Z.l.nR⟩
noncomputable def yR:Fz:=⟨fun _=>none,fun _=>none⟩
theorem bQ.addF(Y:bQ T X R W σ s){c:Addr}{o:Obj}(V:s.heap.get? c=some o)(U:W.F c=none)(Z:∀i,i<W.n->W.ρ i≠c)(Q:X.env.locals≠c)(S:c∉T.tabs):bQ T X R (W.fz c o) σ s:=by
 have h:=dh.of (z:=yR) Y (fun c o e=>by exact aZ e) fun _=>rfl
 exact(h.addF V U Z Q S rfl).out
noncomputable def PE(D x:Addr)(Y Z:Obj):Fz:=⟨fun a=>if a=D then some Y else if a=x then some Z else none,fun _=>none⟩
theorem FF{D x:Addr}{V Y:Obj}{a:Addr}{o:Obj}(h:(PE D x V Y).h a=some o):(a=D/\o=V)\/(a=x/\o=Y):=by
 have Z:(if a=D then some V else if a=x then some Y else none)=some o:=h
 by_cases S:a=D
 .rw [aJ S]at Z;obtain rfl:=bc Z;exact .inl ⟨S,rfl⟩
 .rw [aO S]at Z
  by_cases U:a=x
  .rw [aJ U]at Z;obtain rfl:=bc Z;exact .inr ⟨U,rfl⟩
  .rw [aO U]at Z;exact aZ Z
structure UB(T:Tp)(X:Cx)(R:Fz)(W:Wd)(c:Addr):Prop where
 F:W.F c=none
 R:R.h c=none
 L:X.env.locals≠c
 t:c∉T.tabs
 ρ:∀i,i<W.n->W.ρ i≠c
theorem bQ.outs(Z:bQ T X R W σ s){c:Addr}(e:s.heap.get? c=none):UB T X R W c:=by
 have no {o:Obj} (h:s.heap.get? c=some o):False:=aZ (e.symm.trans h);refine⟨?_,?_,fun q=>?_,fun U=>?_,fun i V q=>?_⟩
 .cases q:W.F c with
  |none=>rfl
  |some o=>exact(no (Z.r.hF c o q)).elim
 .cases q:R.h c with
  |none=>rfl
  |some o=>exact(no (Z.r.hR c o q)).elim
 .obtain⟨m,⟨o,_,_,Y,_⟩,_⟩:=Z.l.m
  exact no (q▸Y)
 .obtain⟨_,_,P,Q,_⟩:=Z.r.tabs _ U
  exact no Q
 .obtain⟨_,_,_,o,S⟩:=Z.r.fre i V
  exact no (q▸S)
theorem dh.outs{z:Fz}(Z:dh T X R W σ s z){c:Addr}{o:Obj}(e:z.h c=some o):UB T X R W c:=by
 have no (h:(R.un z).h c=none):False:=aZ ((aP.mp h).1.symm.trans e);exact⟨Z.nF c o e,Z.nR c o e,fun q=>no (q▸Z.rel.l.nR),fun V=>no (Z.rel.r.tabs c V).2.1,fun i Y q=>no (q▸(Z.rel.r.fre i Y).2.1)⟩
theorem Cz(h:Heap){a:Addr}(Z:h.objs.size<=a):h.get? a=none:=by
 cases q:h.get? a with
 |none=>rfl
 |some o=>exact absurd (bN q) (kf.mpr Z)
section
variable {D x:Addr}{oD ox:Obj}
theorem RB:(PE D x oD ox).h D=some oD:=aJ rfl
theorem Sh(Z:x≠D):(PE D x oD ox).h x=some ox:=(aO Z).trans (aJ rfl)
inductive KV(W:Wd)(D x:Addr)(oD ox:Obj)(W':Wd):Prop
 |mk(E:HK W W')(hD:W'.F D=some oD)(hx:W'.F x=some ox)(hc:∀a o,W'.F a=some o->a=x\/a=D\/W.F a=some o)
theorem Pc(Z:x≠D)(S:W.F D=none)(U:W.F x=none):KV W D x oD ox ((W.fz D oD).fz x ox):=by
 have V:=Wd.fz_ext W (o:=oD) S;have Y:=Wd.fz_ext (W.fz D oD) (a:=x) (o:=ox) ((aO Z).trans U);refine⟨⟨fun a o e=>Y.F a o (V.F a o e),bP V.n Y.n,fun i Q=>rfl⟩,(aO Z.symm).trans (aJ rfl),aJ rfl,fun a o e=>?_⟩;exact SK (show(if a=x then some ox else if a=D then some oD else W.F a)=some o from e) (fun h _=>.inl h) fun _ e=>SK e (fun h _=>.inr (.inl h)) fun _ e=>.inr (.inr e)
theorem KV.gro{Y O:Wd}{Z h P:Heap}(g:ci Y Z W h)(p:KV W D x oD ox O)(I:O.n=W.n)(H:Z.get? D=none)(M:Z.get? x=none)(Q:P.get? D=some oD)(J:∀c,c≠D->P.get? c=h.get? c):ci Y Z O P:=by
 obtain⟨E,d,e,S⟩:=p;refine⟨fun a o q=>E.F a o (g.F a o q),fun a o q=>?_,I▸g.n,fun i N=>(E.ρ i (eB N g.n)).trans (g.ρ i N),fun c o q=>?_⟩
 .rcases S a o q with rfl|rfl|q
  .exact .inr M
  .exact .inr H
  .exact g.fr a o q
 .obtain⟨V,U⟩:=g.th c o q
  by_cases S:c=D
  .rw [S];exact⟨_,Q⟩
  .exact⟨V,(J c S).trans U⟩
end
noncomputable def rG(T:Tp)(b:Nat)(C:Addr):Prop:=
 ∀X A R W σ s,fJ b A->bQ T X R W σ s->wpAny (model T.prog T.w) A (PySem.call (.ref C) []) (aT T X R W s (.hdr C σ.nx) {σ with st:=(σ.nx,.list [])::σ.st,nx:=σ.nx+1}) bg s
noncomputable def uP(C:Addr):ER:=fun σ=>some (.hdr C σ.nx,{σ with st:=(σ.nx,.list [])::σ.st,nx:=σ.nx+1})
theorem aa.newHdr{C:Addr}(E:rG T b C)(H:keepIn T.K (.ref C)=true){P:Expr}{Y:Pos}(G:aa T b X P (ab (.val (.ref C))))
  (O:∀V,eval (.Call P [] [] Y) V=(do callWith Y (<-eval P V) [] (backTo Y (starEach [] V)) []):=by intro _;rfl):aa T b X (.Call P [] [] Y) (uP C):=by
 refine⟨?_⟩;intro A R W σ s D M N F I;cases F;rw [O];refine aM (aK (G.1 A R W σ s _ σ N rfl I) fun Q u U S J Z=>?_);rw [show u=.ref C from J];refine callWith_K0 (K:=T.K) (fun a o q=>Z.r.hF a o (Z.r.top.kin a o q)) H ?_
 exact dl S (E X A R Q σ U N Z)
theorem rG.of{C fI:Addr}{fo:Obj}{fd:FuncData}{s1 s2 s4:Stmt}{p1 p2 p3 p4:Pos}{f1 f2 f4:SR}
  (hC:zI T.K C) (hm:makesIn T.K C=true) (hi:findIn T.K (.ref C) "__init__"=some (some (.ref fI))) (u5:typeIn T.K (.ref fI)=some (.type "function"))
  (hK:T.K.lookup fI=some fo) (hd:fo.data=.func fd) (u6:fd.scope.isCoroutine=false) (w9:fd.scope.isGenerator=false)
  (hb:fd.body=.stmts [s1,s2,.Assign [.Attribute (.Name "self" p1) "_headers" p2] (.Name "headers" p3) p4,s4])
  (u4:fd.globals=mainGlobals) (t0:fd.builtins=builtinsNs) (u7:fd.closure=[])
  (u8:∀h:Heap,Frag.In T.K h->h.CodeRec fd.code fd.qualname)
  (x4:∀v:Value,∀s:Shared,Frag.In T.K s.heap->BindsTo s fd ⟨[v],[]⟩ ([("self",v),("headers",Value.none)]:List (Str×Value)))
  (x3:∀x∈fd.scope.names,x.2≠.cell)
  (hX:∀L,bf ⟨nf fd.qualname fd.scope fI L fd.code [],([("self":Str),"headers","k","v"]:List Str),[]⟩)
  (u0:∀t1,swapsWith (.Name "headers" p3) (some (.Attribute (.Name "self" p1) "_headers" p2)) p4.line t1=pure false)
  (E:∀L,ax T b ⟨nf fd.qualname fd.scope fI L fd.code [],([("self":Str),"headers","k","v"]:List Str),[]⟩ s1 f1)
  (G:∀L,ax T b ⟨nf fd.qualname fd.scope fI L fd.code [],([("self":Str),"headers","k","v"]:List Str),[]⟩ s2 f2)
  (h4:∀L,ah T b ⟨nf fd.qualname fd.scope fI L fd.code [],([("self":Str),"headers","k","v"]:List Str),[]⟩ [s4] f4)
  (e1:∀p st P,f1 ⟨[some p,some .none,none,none],st,P⟩=some (.next,⟨[some p,cL P,none,none],(P,.list [])::st,P+1⟩))
  (e2:∀p st P,f2 ⟨[some p,cL P,none,none],(P,.list [])::st,P+1⟩=some (.next,⟨[some p,cL P,none,none],(P,.list [])::st,P+1⟩))
  (e4:∀p st P,f4 ⟨[some p,cL P,none,none],(P,.list [])::st,P+1⟩=some (.next,⟨[some p,cL P,none,none],(P,.list [])::st,P+1⟩)):rG T (b+2) C:=by
 intro X A R W σ s hA hr;have N:∀{s':Shared},FH W.F s'.heap->Frag.In T.K s'.heap:=fun h a o e=>h a o (hr.r.top.kin a o e)
 obtain⟨Y,gg,dd,tt,oo⟩:=s;refine wpAny_call (make_core (makes_of (N hr.r.hF) hm) (looks_findIn (N hr.r.hF) hi) (fun w2=>bind_fn (N hr.r.hF) w2 u5) (.inl rfl) ?_)
 let oX:=instObj C Y.objs.size
 let H:=(Y.push emptyDict).push oX
 let s:Shared:=⟨Y,gg,dd,tt,oo⟩
 let Z:Shared:=⟨H,gg,dd,tt,oo⟩
 have Q:∀c o,Y.get? c=some o->H.get? c=some o:=fun c o e=>dS _ (dS _ e)
 have x8:H.get? Y.objs.size=some emptyDict:=dS _ (im _ rfl)
 have y6:H.get? (Y.objs.size+1)=some oX:=by
  have:=im (Y.push emptyDict) (o:=oX) rfl
  rwa [tX]at this
 have U:bQ T X R W σ Z:=hr.ext (s':=Z) Q rfl rfl;have v2:fJ (b+1) (A.under (.builtin "type.__call__" ⟨[.ref C],[]⟩)):=⟨by have:=hA.dep;show A.depth+1+(b+1)<_;exact cq 0x10021080410800210422008210080010421 rfl this,by have:=hA.uni;show A.units+1+8*(b+1)+100<_;exact cq 0x10064204210090308400108410880321041080481800210421 rfl this,hA.hnd⟩;refine yZ (by have:=v2.dep;exact cq 0x80000422004210080010421 rfl this) (U.r.hF _ _ (U.r.top.kin _ _ hK)) hd u6 w9 hb (u8 _ (N U.r.hF)) ?_
 refine bt (x4 (.ref (Y.objs.size+1)) Z (N U.r.hF) _ _ bg (fun b s'=>b=([("self",Value.ref (Y.objs.size+1)),("headers",Value.none)]:List (Str×Value))/\Z=s') ⟨rfl,rfl⟩) (fun t2 t4 u9=>?_) ay;obtain⟨rfl,rfl⟩:=u9;have hv:=(hX 0).vars;refine uY x3 (fun x hx=>by
  cases hx with
  |head=>exact hv "self" (by exact rh)
  |tail _ h=>cases h with
   |head=>exact hv "headers" (by exact .tail _ (.head _))
   |tail _ h=>cases h) (fun B u2 w=>?_) (hX 0).kind
 have v0:newEnv fd.scope Z.heap.objs.size fd.globals fd.closure (fd.qualname++".<locals>.") (some fI) fd.code none fd.builtins=nf fd.qualname fd.scope fI Z.heap.objs.size fd.code []:=by
  rw [u4,t0,u7];rfl
 obtain⟨oL,u1,x0,V⟩:=oV (X':=⟨nf fd.qualname fd.scope fI Z.heap.objs.size fd.code [],([("self":Str),"headers","k","v"]:List Str),[]⟩) (loc':=[some (.val (.ref (Y.objs.size+1))),some .none,none,none]) U u2 w (Z.toks+([("self",Value.ref (Y.objs.size+1)),("headers",Value.none)]:List (Str×Value)).length) rfl (fun i x p E G=>by
   match i,E,G with
   |0,E,G=>cases E;cases G;exact⟨_,rfl,rfl⟩
   |1,E,G=>cases E;cases G;exact⟨_,rfl,rfl⟩
   |2,E,G=>exact aZ G
   |3,E,G=>exact aZ G
   |i+4,E,G=>exact aZ G) (fun j x i h=>by trivial)
 have x6:FH W.F B:=fun c o e=>V c o (U.r.hF c o e)
 refine⟨hr.r.top.nolim _ x6,?_⟩;rw [v0]
 let z:=PE Y.objs.size (Y.objs.size+1) emptyDict oX
 have w8:=Cz Y (bU _);have w7:=Cz Y (iG _);have z3:Z.heap.objs.size=Y.objs.size+2:=by show H.objs.size=_;rw [tX,tX]
 have hz:∀c o,z.h c=some o->(c=Y.objs.size\/c=Y.objs.size+1)/\B.get? c=some o/\Y.get? c=none:=fun c o e=>by
  rcases FF e with⟨rfl,rfl⟩|⟨rfl,rfl⟩
  .exact⟨.inl rfl,V _ _ x8,w8⟩
  .exact⟨.inr rfl,V _ _ y6,w7⟩
 have z1:=dh.of (z:=z) x0 (fun c o e=>by
  obtain⟨e1,e2,e3⟩:=hz c o e;have O:=hr.outs e3;refine⟨e2,O.F,aP.mpr ⟨dz.mpr fun q=>O.L q.symm,O.R⟩,O.t,fun q=>?_,O.ρ⟩;have q:c=Z.heap.objs.size:=q;rw [z3]at q
  exact absurd (show c<Y.objs.size+2 from e1.elim (fun h=>h▸oO (gQ _)) (fun h=>h▸gQ _)) (q▸dW _)) (fun _=>rfl)
 refine uB ?_
 have M:fJ b ((A.under (.builtin "type.__call__" ⟨[.ref C],[]⟩)).deeper (nf fd.qualname fd.scope fI Z.heap.objs.size fd.code [])):=v2.deeper _;refine kM (dK ((E Z.heap.objs.size).1 _ _ W _ _ .next _ M (e1 _ σ.st σ.nx) z1.rel) fun v5 fl t3 y0 x2 f=>?_);rw [show fl=.next from x2];refine kM (dK ((G Z.heap.objs.size).1 _ _ v5 _ _ .next _ M (e2 _ σ.st σ.nx) f) fun v4 fl w1 z9 x2 y9=>?_);rw [show fl=.next from x2];have z0:=(z1.go y0 f).go z9 y9;have v1:=hX Z.heap.objs.size;refine kM (plainObj_wpAny_Assign_Attribute ?_ (u0 _));refine aK ((aa.loc (T:=T) (b:=b) v1 1 (pos:=p3) rfl).1 _ _ v4 _ w1 (.loc σ.nx) _ M rfl z0.rel) fun v3 u w0 z8 hu n=>?_
 refine aK ((aa.loc (T:=T) (b:=b) v1 0 (pos:=p1) rfl).1 _ _ v3 _ w0 (.val (.ref (Y.objs.size+1))) _ M rfl n) fun I u' z6 z2 v9 J=>?_
 have S:=(z0.go z8 n).go z2 J;rw [show u'=.ref (Y.objs.size+1)from v9];obtain⟨u3,v8⟩:=hu.mono z2.ext;rw [v8];have z4:Y.objs.size+1≠Y.objs.size:=ng (gQ _);have y4:z.h Y.objs.size=some emptyDict:=RB;have w3:z.h (Y.objs.size+1)=some oX:=Sh z4;have x7:=S.rel.r.hR _ _ (bx.mpr (.inl y4));have y:=S.rel.r.hR _ _ (bx.mpr (.inl w3));refine sf hC (fun a o e=>J.r.hF a o (J.r.top.kin a o e)) y x7 fun h' D k w w4 hI=>?_
 have y7:=S.turn (s':={z6 with heap:=h',toks:=k}) (fun c o e1 e2=>(w.2 c (fun q=>by rw [q,y4]at e1;exact kR e1)).trans e2) (fun g x _ e=>e) S.rel.r.bare rfl;have y5:h'.get? (Y.objs.size+1)=some oX:=(w.2 _ z4).trans y;have O1:=S.outs y4;have O2:=S.outs w3;have x5:=(y7.addF (c:=Y.objs.size) (o:=D) w4 O1.F O1.ρ O1.L O1.t).addF (c:=Y.objs.size+1) (o:=oX) y5 ((aO z4).trans O2.F) O2.ρ O2.L O2.t;refine bt ((h4 Z.heap.objs.size).1 _ _ _ _ _ .next _ M (e4 _ σ.st σ.nx) x5) (fun fl x9 x1=>?_) ay;obtain⟨y1,z7,z5,y8⟩:=x1;rw [show fl=.next from z5];refine⟨rfl,?_⟩;have v7:ci W Y I z6.heap:=(((((ci.keep (W:=W) (h:=Y) (h':=B) fun c o e=>V c o (Q c o e)).trans y0).trans z9).trans z8).trans z2);have y2:KV I Y.objs.size (Y.objs.size+1) D oX ((I.fz Y.objs.size D).fz (Y.objs.size+1) oX):=Pc z4 O1.F O2.F;have y3:ci W Y y1 x9.heap:=(y2.gro v7 rfl w8 w7 w4 w.2).trans z7;obtain⟨_,d,e,_⟩:=y2;have v6:bn ((I.fz Y.objs.size D).fz (Y.objs.size+1) oX) (.hdr C σ.nx) (.ref (Y.objs.size+1)):=⟨u3,Y.objs.size+1,Y.objs.size,D,rfl,e,d,hI⟩;have w5:Y.get? X.env.locals=some oL:=by
  obtain⟨m,hm,_⟩:=hr.l.m;obtain⟨o',_,_,w6,_⟩:=hm;have E:=Q _ _ w6;rw [show H.get? X.env.locals=some oL from u1]at E
  cases E;exact w6
 exact⟨y1,y3,v6.mono z7.ext,pk y8 hr w5 y3⟩
end
section
variable {T:Tp}{X:Cx}{R:Fz}{W:Wd}{σ:AS}{s s':Shared}{b:Nat}{A:Around}
noncomputable def kU(f:ER):SR:=fun σ=>match f σ with
 |some (.loc i,σ₁)=>(match σ₁.st.lookup i with|some (.dict [])=>some (.next,σ₁)|_=>none)
 |_=>none
theorem uR{f:ER}{r:AF×AS}(h:kU f σ=some r):∃i σ₁,f σ=some (.loc i,σ₁)/\σ₁.st.lookup i=some (.dict [])/\r=(.next,σ₁):=by
 unfold kU at h
 cases e:f σ with
 |none=>rw [e]at h;exact aZ h
 |some y=>
  obtain⟨p,σ₁⟩:=y;rw [e]at h
  cases p with
  |loc i=>
   have h:(match σ₁.st.lookup i with|some (.dict [])=>some (AF.next,σ₁)|_=>none)=some r:=h;cases Z:σ₁.st.lookup i with
   |none=>rw [Z]at h;exact aZ h
   |some V=>cases V with
    |dict Y=>cases Y with
     |nil=>rw [Z]at h;exact⟨i,σ₁,rfl,Z,(bc h).symm⟩
     |cons _ _=>rw [Z]at h;exact aZ h
    |_=>rw [Z]at h;exact aZ h
  |_=>exact aZ h
set_option tactic.hygienic true in
theorem ax.forItems0{o:Expr}{U:Expr}{N:List Stmt}{H I z3:Pos}{f:ER}(h:aa T b X o f)
  (v:∀t,attributeBase o "items" t (eval o t)=eval o t:=by intro _;rfl) (n:(H.endLine==I.line)=true:=by rfl)
  (hs:∀x,foldedSetIterable (.Call (.Attribute o "items" H) [] [] I) X.env x=pure x:=by intro _;rfl):
  ax T b X (.For U (.Call (.Attribute o "items" H) [] [] I) N [] z3) (kU f):=by
 refine⟨?_⟩;intro A R W σ s a O hA hf hr;obtain⟨i,σ₁,e,z1,D⟩:=uR hf;obtain⟨rfl,rfl⟩:a=.next/\O=σ₁:=⟨bw Prod.fst D,bw Prod.snd D⟩;refine wpAny_For (xk (trees:=[]) (v _) rfl n rfl (aK (h.1 A R W σ s _ O hA e hr) fun Z u Y z0 hu P=>?_)) hs;obtain⟨hi,rfl⟩:=hu;obtain⟨_,ob,ho,kv,h1,h2,h3⟩:=P.r.trk i _ z1;have z8:kv=[]:=yK.mp h2;subst z8;have hd:Y.heap.DictOf (PySem.strKind T.prog T.w) (Z.ρ i) []:=qd.mpr ⟨ob,ho,h1 _⟩;have z4:(Z.ρ i==sysModules)=false:=by rw [lj];exact P.r.sysm i hi
 refine⟨"dict","dict.items",F.plainAttrs_dict,Fb,F.type_dict_items,hd.typeIs,hd.mapOf.noDict,?_⟩;refine nD rfl (cG rfl (Calls.spliced_nil ?_));refine call_meetsIn Fb hd.typeIs F.entry_dict_items (F.args_dict_items_1 _) (meets_dict_items (PySem.strKind T.prog T.w) (Z.ρ i) z4) ⟨⟨_,hd⟩,?_⟩;obtain⟨ep,l⟩:=KdkAt.of (h1 T.prog);have z:(Y.heap.push {cls:=.type "dict_items",data:=.fields #[.ref (Z.ρ i)]}).get? (Z.ρ i)=some ob:=dS _ ho
 refine wpAny_pyIter_items (d:=Z.ρ i) ⟨_,im _ rfl,rfl,rfl⟩ (l.dictAt z) ?_
 let V:Shared:={Y with heap:=(Y.heap.push {cls:=.type "dict_items",data:=.fields #[.ref (Z.ρ i)]}).push {cls:=.type "dict_itemiterator",data:=.fields #[.none,.bool false,.ref (Z.ρ i),.int 0 0,.int ([]:List (Str×Value)).length 0,.int ep 0,.none,.none]}}
 have S:∀c o,Y.heap.get? c=some o->V.heap.get? c=some o:=fun c o e=>dS _ (dS _ e)
 have z5:bQ T X R Z O V:=P.ext S rfl rfl;show codeAny _ _ (.forLoop U (.ref (Y.heap.push {cls:=.type "dict_items",data:=.fields #[.ref (Z.ρ i)]}).objs.size) N [] X.env) _ V;generalize k:(Y.heap.push {cls:=.type "dict_items",data:=.fields #[.ref (Z.ρ i)]}).objs.size=it;have hI:IsItemIter V.heap it (Z.ρ i) 0 ([]:List (Str×Value)).length ep .none .none:=by rw [<-k];exact im _ rfl
 have m:Y.heap.get? it=none:=by
  cases q:Y.heap.get? it with
  |none=>rfl
  |some o=>
   have:=bN q;rw [<-k,tX]at this
   exact absurd (show(Y.heap.objs.size+1:Nat)<Y.heap.objs.size from this) (by exact(fun u0=>aW 0x840010421 rfl u0))
 have hu:A.under (.forLoop U (.ref it) N [] X.env)=A:=uS rfl;refine uM ?_
 rw [hu];show wpAny (model T.prog T.w) A ((forTurn U (.ref it) N [] X.env).onRaise (fun x=>do noteFrame x X.env;theTreesLotGoes x)) _ _ V;refine vA (bt (Q:=fun fin s'=>match fin with
  |.done G=>fG T X R W s .next O G s'
  |.again c'=>c'.quiet=true/\codeAny (model T.prog T.w) A c' (fun r s'=>∃G,r=.ok G/\fG T X R W s .next O G s') s') (E:=bg) ?_ (fun fin s' M=>?_) ay)
 .unfold forTurn
  refine aM (ic ?_);refine aM (uA (bt (wpAny_pyNext_items_end (knd:=PySem.strKind T.prog T.w) (kvs:=[]) (Q:=fun x s'=>x=none/\∃M,Heap.ExtBut it V.heap M/\s'={V with heap:=M}) hA.hnd hI (l.dictAt (S _ _ ho)) rfl fun M p=>⟨rfl,M,p,rfl⟩) (fun x y0 p=>?_) ay));obtain⟨rfl,M,p,rfl⟩:=p;have z7:∀c o,Y.heap.get? c=some o->c≠it:=fun c o e q=>by rw [q,m]at e;exact aZ e
  have J:∀c o,Y.heap.get? c=some o->M.get? c=some o:=fun c o e=>p c o (z7 c o e) (S c o e)
  have B:bQ T X R Z O {V with heap:=M}:=P.ext J rfl rfl;have j:ci W s.heap Z M:=z0.trans (ci.keep J);refine bI ⟨rfl,codeAny_block (bt ((ah.nil (T:=T) (b:=b) (X:=X)).1 A R Z O _ .next O hA rfl B) (fun G z9 ⟨z2,g,y,C⟩=>⟨G,rfl,z2,j.trans g,y,C⟩) ay)⟩
 .cases fin with
  |done G=>obtain⟨W',g',y,z6⟩:=M;exact⟨W',g',y,z6⟩
  |again c'=>exact⟨M.1,jP M.2 fun r s' ⟨G,e,hp⟩=>by subst e;exact hp⟩
end
section
variable {T:Tp}{X:Cx}{R:Fz}{W:Wd}{σ:AS}{s s':Shared}{b:Nat}{A:Around}
theorem eD.lk{st Z:List (Nat×AO)}(h:eD T R W st s)(e:∀i Y,Z.lookup i=some Y->st.lookup i=some Y):eD T R W Z s:=
 ⟨h.top,h.hF,h.hR,h.hG,fun i Y q=>h.trk i Y (e i Y q),h.fre,h.inj,h.tabs,h.bare,h.os,h.sysm⟩
theorem eD.newId{st:List (Nat×AO)}(Z:eD T R W st s){o:Obj}(x:o.isFreed=false){ao:AO}(u:lJ T.w (W.add s.heap.objs.size) ao o)(k:Nat):
  ci W s.heap (W.add s.heap.objs.size) (s.heap.push o)/\eD T R (W.add s.heap.objs.size) ((W.n,ao)::st) {s with heap:=s.heap.push o,toks:=k}:=by
 have S:=Wd.add_ext W s.heap.objs.size;have Y:(W.add s.heap.objs.size).ρ W.n=s.heap.objs.size:=by show(if W.n=W.n then _ else _)=_;rw [aJ rfl]
 have V:∀i,i<(W.add s.heap.objs.size).n->i≠W.n->i<W.n:=fun i Q J=>by
  have:i<W.n+1:=Q;exact(eN J).elim (fun E=>AA E) (fun E=>(Kd this E:False).elim)
 refine⟨⟨S.F,fun a o e=>.inl e,S.n,S.ρ,fun _ o e=>⟨o,dS _ e⟩⟩,?_⟩
 .refine⟨Z.top,fun a U e=>dS _ (Z.hF a U e),fun a U e=>dS _ (Z.hR a U e),Z.hG,fun i B e=>?_,fun i Q=>?_,fun i j Q y e=>?_,fun P C=>?_,Z.bare,Z.os,fun i Q=>?_⟩
  .rw [dU]at e
   cases D:i==W.n with
   |true=>
    rw [D]at e;obtain rfl:=bc e
    have Q:i=W.n:=lR D;subst Q;exact⟨gQ _,o,by rw [Y];exact im _ x,u⟩
   |false=>
    rw [D]at e
    obtain⟨M,U,G,H⟩:=Z.trk i B e;exact⟨oO M,U,by rw [S.ρ i M];exact dS _ G,H.mono S⟩
  .by_cases J:i=W.n
   .subst J
    rw [Y];refine⟨bb Z.hF (bU _),bb Z.hR (bU _),fun C=>?_,o,im _ x⟩;obtain⟨_,_,z,H,_⟩:=Z.tabs _ C;exact absurd (bN H) (dW _)
   .have h:=V i Q J
    rw [S.ρ i h];obtain⟨M,G,H,U,I⟩:=Z.fre i h;exact⟨M,G,H,U,dS _ I⟩
  .by_cases N:i=W.n<;>by_cases O:j=W.n
   .rw [N,O]
   .subst N
    have h:=V j y O;rw [Y,S.ρ j h]at e
    obtain⟨_,_,_,U,I⟩:=Z.fre j h;exact absurd (bN I) (by rw [<-e];exact dW _)
   .subst O
    have h:=V i Q N;rw [Y,S.ρ i h]at e
    obtain⟨_,_,_,U,I⟩:=Z.fre i h;exact absurd (bN I) (by rw [e];exact dW _)
   .have h:=V i Q N
    have v:=V j y O;rw [S.ρ i h,S.ρ j v]at e
    exact Z.inj i j h v e
  .obtain⟨M,G,z,H,I⟩:=Z.tabs P C
   exact⟨M,G,z,dS _ H,I⟩
  .by_cases J:i=W.n
   .subst J;rw [Y]
    obtain⟨a,U,M,G⟩:=Z.top.big;exact fun q=>absurd (bN (Z.hF a U M)) (by rw [q];exact kf.mpr (kr G))
   .have h:=V i Q J
    rw [S.ρ i h];exact Z.sysm i h
theorem Am(os:List AO)(U:AO)(i:Nat)(a:AO)(h:(dY 0 (os++[U])).lookup i=some a):((os.length,U)::dY 0 os).lookup i=some a:=by
 rw [fT]at h
 rw [dU,fT]
 by_cases V:i=os.length
 .subst V
  simp at h ⊢;exact h
 .have:(i==os.length)=false:=by simp [V]
  rw [this];have Y:i<os.length:=by
   have:=(jQ.mp h).1;simp at this;exact(eN V).elim (fun Z=>AA Z) (fun Z=>(Kd this Z:False).elim)
  rw [vO Y]at h
  exact h
theorem bp.kw{fd:FuncData}{Q:List Value->Args}{pn:List Str}
  (h:∀Y:List Value,Y.length+1=pn.length->bindArgs fd (Q Y)=(alloc {cls:=.type "dict",data:=.dict #[]} >>= fun d=>pure (pn.zip (Y++[.ref d])))):bp T fd Q pn (fun n=>[.loc n]) [.dict []]:=by
 intro A R W s Y I os E N V U J;rw [h Y (by rw [<-V.length];exact N)];refine aM (wpAny_alloc (bI ?_));have Z:=J.newId (o:={cls:=Value.type "dict",data:=Data.dict #[]}) rfl (ao:=.dict []) ⟨[],fun S=>⟨#[],0,⟨rfl,rfl,rfl⟩,rfl,fun _ M=>by simp at M,.nil,on⟩,rfl,rfl⟩ s.toks;have O:=Wd.add_ext W s.heap.objs.size;refine⟨W.add s.heap.objs.size,Y++[.ref s.heap.objs.size],Z.1,rfl,(V.mono O).append ⟨_,[],rfl,⟨?_,?_⟩,rfl⟩,Z.2.lk (fun i P e=>?_),?_⟩
 .show os.length<W.n+1
  exact bD 0x8400104010840000a21 rfl U
 .show Value.ref s.heap.objs.size=.ref (if os.length=W.n then _ else _)
  rw [aJ U.symm]
 .rw [U];exact Am os _ i P e
 .show W.n+1=_
  simp [U]
end
section
variable {T:Tp}{X:Cx}{R:Fz}{W:Wd}{σ:AS}{s s':Shared}{b:Nat}{A:Around}
noncomputable def kZ(p q:PV):ER:=kJ true p q
theorem Hv:bC T b (compareOp .NotIn) kZ:=by
 intro X A R W σ s p q u v F U M N Z O P;obtain⟨d,Y,G,H,J,V,I⟩:=oN N;cases I;obtain⟨D,Q⟩:=ee Z G O;obtain⟨E,S⟩:=ee Z H P;exact SeqAt.notIn_list_reads S Q (mi V) (xb J) (by have:=M.uni;have:=oA V;have:min (PyData.depthAll Y) d.depth<=PyData.depthAll Y:=Ah _ _;omega) (aT.same' Z (eW _))
theorem bQ.newAt(Z:bQ T X R W σ s){D:Addr}{o:Obj}{ao:AO}(C:∀b o,b≠X.env.locals->s.heap.get? b=some o->s'.heap.get? b=some o)(hg:s'.gens=s.gens)(f:s'.os=s.os)
  (hm:∃m,s'.heap.Ns X.env.locals m/\∀(i:Nat) x p,X.vars[i]?=some x->fQ σ.loc i=some p->∃v,m x=some v/\bn W p v)
  (hD:∀b o,b≠X.env.locals->s.heap.get? b=some o->b<D) (hL:D≠X.env.locals) (ho:s'.heap.get? D=some o) (z0:lJ T.w (W.add D) ao o):
  ci W s.heap (W.add D) s'.heap/\bQ T X R (W.add D) {σ with st:=(σ.nx,ao)::σ.st,nx:=σ.nx+1} s':=by
 have O:=Wd.add_ext W D;have Y:(W.add D).ρ W.n=D:=by show(if W.n=W.n then _ else _)=_;rw [aJ rfl]
 have S:∀i,i<(W.add D).n->i≠W.n->i<W.n:=fun i N I=>by
  have:i<W.n+1:=N;exact(eN I).elim (fun u=>AA u) (fun u=>(Kd this u:False).elim)
 have U:s.heap.get? D=none:=by
  cases e:s.heap.get? D with
  |none=>rfl
  |some o=>exact absurd (hD D o hL e) (dW _)
 have z:∀{a o},W.F a=some o->a≠X.env.locals:=fun{a o} e q=>by rw [q,Z.l.nF]at e;exact aZ e
 have k:∀{a o},R.h a=some o->a≠X.env.locals:=fun{a o} e q=>by rw [q,Z.l.nR]at e;exact aZ e
 have neT:∀{P},P∈T.tabs->P≠X.env.locals:=fun{P} B q=>Z.l.t (q▸B)
 have z2:W.F D=none:=by
  cases e:W.F D with
  |none=>rfl
  |some o=>rw [Z.r.hF _ _ e]at U;exact kR U
 have z1:R.h D=none:=by
  cases e:R.h D with
  |none=>rfl
  |some o=>rw [Z.r.hR _ _ e]at U;exact kR U
 obtain⟨m,y,d⟩:=hm;refine⟨⟨O.F,fun a o e=>.inl e,O.n,O.ρ,fun a o e=>?_⟩,⟨?_,?_,?_⟩⟩
 .by_cases q:a=X.env.locals
  .subst q
   obtain⟨Q,_,_,V,_⟩:=y;exact⟨Q,V⟩
  .exact⟨o,C _ _ q e⟩
 .refine⟨Z.r.top,fun a Q e=>C _ _ (z e) (Z.r.hF a Q e),fun a Q e=>C _ _ (k e) (Z.r.hR a Q e),fun g x e=>by rw [hg];exact Z.r.hG g x e,fun i z3 e=>?_,fun i N=>?_,fun i j N hj e=>?_,fun P B=>?_,by rw [hg];exact Z.r.bare,by rw [f];exact Z.r.os,fun i N=>?_⟩
  .rw [dU]at e
   cases c:i==σ.nx with
   |true=>
    rw [c]at e;obtain rfl:=bc e
    have N:i=W.n:=(lR c).trans Z.nx;subst N;exact⟨gQ _,o,by rw [Y];exact ho,z0⟩
   |false=>
    rw [c]at e
    obtain⟨V,Q,J,H⟩:=Z.r.trk i z3 e;exact⟨oO V,Q,by rw [O.ρ i V];exact C _ _ (Z.l.ρ i V) J,H.mono O⟩
  .by_cases I:i=W.n
   .subst I
    rw [Y];refine⟨z2,z1,fun B=>?_,o,ho⟩;obtain⟨_,_,ps,H,_⟩:=Z.r.tabs _ B;rw [U]at H;exact aZ H
   .have h:=S i N I
    rw [O.ρ i h];obtain⟨V,J,H,Q,M⟩:=Z.r.fre i h;exact⟨V,J,H,Q,C _ _ (Z.l.ρ i h) M⟩
  .by_cases E:i=W.n<;>by_cases G:j=W.n
   .rw [E,G]
   .subst E
    have h:=S j hj G;rw [Y,O.ρ j h]at e
    obtain⟨_,_,_,Q,M⟩:=Z.r.fre j h;rw [<-e,U]at M;exact aZ M
   .subst G
    have h:=S i N E;rw [Y,O.ρ i h]at e
    obtain⟨_,_,_,Q,M⟩:=Z.r.fre i h;rw [e,U]at M;exact aZ M
   .have h:=S i N E
    have h':=S j hj G;rw [O.ρ i h,O.ρ j h']at e
    exact Z.r.inj i j h h' e
  .obtain⟨V,J,ps,H,M⟩:=Z.r.tabs P B
   exact⟨V,J,ps,C _ _ (neT B) H,M⟩
  .by_cases I:i=W.n
   .subst I;rw [Y]
    obtain⟨a,Q,V,J⟩:=Z.r.top.big;exact ng (ow J (hD a Q (z V) (Z.r.hF a Q V)))
   .have h:=S i N I
    rw [O.ρ i h];exact Z.r.sysm i h
 .refine⟨⟨m,y,fun i x p V J=>let⟨v,H,M⟩:=d i x p V J;⟨v,H,M.mono O⟩⟩,Z.l.nF,Z.l.nR,Z.l.t,fun i N=>?_,fun j x i h=>?_⟩
  .by_cases I:i=W.n
   .subst I;rw [Y];exact hL
   .have h:=S i N I
    rw [O.ρ i h];exact Z.l.ρ i h
  .obtain⟨V,J⟩:=Z.l.cv j x i h
   exact⟨oO V,by rw [O.ρ i V];exact J⟩
 .show σ.nx+1=W.n+1
  rw [Z.nx]
noncomputable def Mu{Z:Type}(lt:Nat->Nat->Option Bool):KasT Z->Option Z
 |.ret a=>some a
 |.ask i j k=>(lt i j).bind fun b=>Mu lt (k b)
theorem CV{Z:Type}{lt:Nat->Nat->Option Bool}{cmp:Nat->Nat->(Bool->Shared->Prop)->Shared->Prop}{s:Shared}(Y:∀i j b C,lt i j=some b->C b s->cmp i j C s):
  ∀(t:KasT Z) (a:Z) (Q:Z->Shared->Prop),Mu lt t=some a->Q a s->t.kasWp cmp Q s
 |.ret _,a,Q,e,h=>by obtain rfl:=bc e;exact h
 |.ask i j k,a,Q,e,h=>by
  have e:(lt i j).bind (fun b=>Mu lt (k b))=some a:=e;obtain⟨b,U,V⟩:=tI.mp e;exact Y i j b _ U (CV Y (k b) a Q V h)
noncomputable def ry:PV->Option Int
 |.tup Z=>(match Z with
  |.int a::_=>some a
  |_=>none)
 |_=>none
theorem kB{p:PV}{a:Int}(h:ry p=some a):∃Z,p=.tup (.int a::Z):=by
 cases p with
 |tup Y=>cases Y with
  |nil=>exact aZ h
  |cons q Z=>cases q with
   |int b=>obtain rfl:=(bc h).symm;exact⟨Z,rfl⟩
   |_=>exact aZ h
 |_=>exact aZ h
noncomputable def Sr(Z:List PV)(i j:Nat):Option Bool:=(Z[i]?).bind fun p=>(Z[j]?).bind fun q=>(ry p).bind fun a=>(ry q).bind fun c=>if a=c then none else some (decide (a<c))
noncomputable def BI(Z:List PV):Option (List PV):=if Z.all (fun p=>(ry p).isSome)=true/\2<=Z.length/\Z.length<64 then(Mu (Sr Z) (kas_sort Z.length)).bind fun p=>if p.toList.all (fun i=>decide (i<Z.length))=true then some (p.toList.map fun i=>Z.getD i .none)else none else none
noncomputable def Bo:GR:=g1 (Ee fun i=>sJ i fun Y σ=>(BI Y).bind fun Z=>if Z.length<=2^20 then some (.loc σ.nx,{σ with st:=(σ.nx,.list Z)::σ.st,nx:=σ.nx+1})else none)
theorem KM{h:Heap}{L:Addr}:∃Z:List (Addr×Obj),∀a o,(a,o)∈Z↔h.get? a=some o/\a≠L:=by
 refine⟨((List.range h.objs.size).filterMap fun a=>(h.get? a).map fun o=>(a,o)).filter fun p=>decide (p.1≠L),fun a o=>?_⟩;rw [List.mem_filter,uE];constructor
 .rintro ⟨⟨c,_,e⟩,Y⟩
  obtain⟨Q,S,U⟩:=iO.mp e;cases U;exact⟨S,eJ Y⟩
 .rintro ⟨V,Y⟩
  exact⟨⟨a,uJ.mpr (bN V),by rw [V];rfl⟩,dO Y⟩
theorem qv(Q:FH W.F s.heap):∀{U:List PV} {Y:List Value},aN W U Y->(∀p∈U,(ry p).isSome=true)->∃V,KatTups s.heap Y V/\V.length=U.length/\∀v∈V,∃i t,v=.int i t
 |[],Y,h,_=>by rw [show Y=[]from h];exact⟨[],trivial,rfl,fun v Z=>by cases Z⟩
 |p::U,Y,h,S=>by
  obtain⟨v,P,rfl,D,E⟩:=h;obtain⟨V,M,N,O⟩:=qv Q E fun q H=>S q (.tail _ H)
  obtain⟨a,G⟩:=Ix.mp (S p (.head _));obtain⟨z,rfl⟩:=kB G;obtain⟨x,C,n,rfl,J,Z⟩:=D;obtain⟨u,B,e,⟨t,rfl⟩,I⟩:=Z;refine⟨.int a t::V,KatTups.cons (Q _ _ J) rfl rfl ?_ M,by rw [ge,ge,N],fun v Z=>?_⟩
  .rw [<-Array.getElem?_toList,e];rfl
  .rcases cC.mp Z with rfl|Z
   .exact⟨_,_,rfl⟩
   .exact O v Z
theorem aN.pickD{Y:List PV}{Z:List Value}(h:aN W Y Z):∀{l:List Nat},(∀i∈l,i<Y.length)->aN W (l.map fun i=>Y.getD i .none) (l.map fun i=>Z.getD i Value.none)
 |[],_=>rfl
 |i::l,V=>by
  have U:=V i (.head _);obtain⟨v,P,Q⟩:=h.get (fh U);refine⟨Z.getD i Value.none,_,rfl,?_,aN.pickD h fun j S=>V j (.tail _ S)⟩;show bn W (Y.getD i .none) (Z.getD i Value.none);rw [km,km,P,fh U];exact Q
theorem Gx:gb T b (.builtin "sorted") Bo:=by
 intro X A R W σ s ps Q pv y3 hA S O V;refine EE S V fun q u S hu=>pw S hu fun i S hi=>uk S fun ps e S=>cE S fun qs P S=>fO S fun hq S=>bv S ?_
 unfold BI at P
 refine fO P fun hc P=>cE P fun p e2 P=>fO P fun N P=>?_
 obtain⟨y0,k,z9⟩:=hc;have z5:=bc P;obtain⟨Q,n,ho,V,hl⟩:=cT O e;obtain⟨m,z8,z7⟩:=O.l.m;obtain⟨I,Z⟩:=KM (h:=s.heap) (L:=X.env.locals);have U:Q.toList.length=ps.length:=by rw [ue];exact hl
 have F0:Fr ({}:Heap) X.env.locals s.heap m:=⟨z8,fun b o e=>by simp [Heap.get?]at e,ki _⟩;have N0:News ({}:Heap) X.env.locals s.heap I:=fun p N=>by
  obtain⟨h1,h2⟩:=(Z p.1 p.2).mp N;exact⟨h1,h2,by rfl⟩
 refine kat_sorted (vs:=Q.toList) F0 N0 ⟨_,ho,rfl,n,by dsimp only⟩ (by exact(bD 0x40208020004028800208022 rfl k U)) (by exact(bD 0x20102008400080411008000422 rfl z9 U)) fun D y6 h' F' N' hD=>?_
 have keep:∀b o,b≠X.env.locals->s.heap.get? b=some o->h'.get? b=some o:=fun b o g e=>(N' (b,o) (.tail _ ((Z b o).mpr ⟨e,g⟩))).1
 have z0:∀{a o},W.F a=some o->a≠X.env.locals:=fun{a o} e q=>by rw [q,O.l.nF]at e;exact aZ e
 have J:FH W.F h':=fun a o e=>keep a o (z0 e) (O.r.hF a o e)
 obtain⟨fs,k1,k2,k3⟩:=qv (s:={s with heap:=h'}) J V (fun p N=>fL.mp y0 p N);refine kat_kind k1 (by exact(bD 0x40008420004028800208022 rfl k k2)) (T:=.type "int") (fun v hv=>?_) rfl ?_
 .obtain⟨i,t,rfl⟩:=k3 v hv
  exact .now
 .refine CV (fun i j c C w hC=>?_) _ _ _ (by rw [U];exact e2) ?_
  .unfold Sr at w
   refine cE w fun pi h1 x=>cE x fun pj h2 y=>cE y fun a h3 z=>cE z fun c' h4 Y=>?_
   obtain⟨ui,B,E⟩:=V.get h1;obtain⟨uj,G,H⟩:=V.get h2;obtain⟨qi,rfl⟩:=kB h3;obtain⟨qj,rfl⟩:=kB h4;obtain⟨xi,y5,ni,rfl,z2,z4⟩:=E;obtain⟨xj,y4,nj,rfl,z1,z3⟩:=H;obtain⟨_,ri,ei,⟨ti,rfl⟩,_⟩:=z4;obtain⟨_,rj,ej,⟨tj,rfl⟩,_⟩:=z3;unfold kas_ask;have gi:Q.toList.getD i Value.none=.ref xi:=by rw [km,B];rfl
   have gj:Q.toList.getD j Value.none=.ref xj:=by rw [km,G];rfl
   rw [gi,gj];refine kat_lt (J _ _ z2) rfl (J _ _ z1) rfl ?_
   rw [ei,ej,tL]
   by_cases M:a=c'
   .rw [aJ M]at Y;exact aZ Y
   .rw [aO M]at Y
    cases Y;refine kat_cons (wpAny_eqBool_int ?_);have z6:(a==c')=false:=by simp [M]
    rw [z6];exact kat_no (oneLt_int hC)
  .refine KasFin.intro F' N' (UpdF.head fun p N=>fH (hD p N)) fun y1 c y2 d=>?_
   have f:=d (D,listOf (List.toArray (p.toList.map fun i=>Q.toList.getD i Value.none)) c) (.head _);subst z5;have h:=O.newAt (s':={s with heap:=y1}) (D:=D) (ao:=.list (p.toList.map fun i=>ps.getD i .none)) (o:=listOf (List.toArray (p.toList.map fun i=>Q.toList.getD i Value.none)) c)
    (fun b o g e=>(d (b,o) (.tail _ ((Z b o).mpr ⟨e,g⟩))).1) rfl rfl ⟨m,y2.ns,z7⟩ (fun b o g e=>hD (b,o) ((Z b o).mpr ⟨e,g⟩)) f.2.1 f.1
    ⟨_,c,rfl,by
     rw [List.toList_toArray];exact(V.pickD fun i hi=>eJ (fL.mp N i hi)).mono (Wd.add_ext W D)⟩
   refine⟨_,h.1,⟨by rw [O.nx];exact gQ _,?_⟩,h.2⟩;show Value.ref _=.ref (if σ.nx=W.n then _ else _);rw [aJ O.nx]
end
section
variable {T:Tp}{X:Cx}{R:Fz}{W:Wd}{σ:AS}{s s':Shared}{b:Nat}{A:Around}
noncomputable def fN:GR:=g2 fun p q=>rW (fun x=>rW (fun y σ=>some (.int (Txt.find x y),σ)) q) p
theorem jr:gb T b (.builtin "str.find") fN:=by
 intro X A R W σ s M P N V J Z Q Y;exact Kn Z Y fun p q u v Z S U=>iH Z S fun x t Z=>iH Z U fun y O Z=>bv Z (SC.find (aT.same Q (ed _ _)))
theorem wY{N:Program}{w:World}{E:Value->Shared->Prop}{l O v:Addr}{Z Y:Array Value}{n k:Nat}{Q:Unit->Shared->Prop}
  (G:s.heap.get? l=some {cls:=.type "list",data:=.seq Z n}) (p:s.heap.IsSliceOf O .none .none .none) (H:s.heap.get? v=some {cls:=.type "list",data:=.seq Y k}) (D:l≠v)
  (t:Z.size<=2^20) (M:Y.size<=2^20)
  (h:∀u F,Heap.SameBut l s.heap u->u.get? l=some {cls:=.type "list",data:=.seq Y F}->Q () {s with heap:=u}):wpAny (model N w) A (setItem (.ref l) (.ref O) (.ref v)) Q E s:=by
 obtain⟨os,V,B,S⟩:=id p;have I:s.TypeIs (.ref O) "slice":=⟨os,V,B⟩;have y:s.TypeIs (.ref l) "list":=⟨_,G,rfl⟩;have z:s.TypeIs (.ref v) "list":=⟨_,H,rfl⟩;unfold setItem;refine fZ ?_
 first|refine aM (bI ?_)|skip
 refine aM (wpAny_sequenceKey y (by decide) ?_);refine aM (FJ (name:=Str.ofString "__setitem__") y slot_list_setitem
  (vm slot_list_setitem y entry_list_setitem ?_ (args_list_setitem _ _ _)))
 show wpAny _ _ (Builtin.List.listSubscript? (.ref O) >>= _) _ _ s;refine aM ?_
 unfold Builtin.List.listSubscript?;refine aM (yS I slice_no_index ?_);simp only [Option.isNone_none,hO];refine bI ?_
 show wpAny _ _ (typeOf (.ref O) >>= _) _ _ s;refine aM (wpAny_typeOf I ?_);rw [aO (by decide)];rw [listSliceParts_eq];refine aM (aM (wpAny_field V S (x:=Value.none) rfl (aM (wpAny_listPart .none ?_))));rw [aO (show ¬((rawPart none==rawInt 0)=true)from iA)];refine aM (wpAny_field V S (x:=Value.none) rfl (aM (wpAny_listPart .none ?_)));refine aM (wpAny_field V S (x:=Value.none) rfl (aM (wpAny_listPart .none (bI ?_))));have U:¬(Builtin.List.listSameRef (.ref l) (.ref v)=true):=by show ¬((l==v)=true);simp [D]
 dsimp only;rw [aO U];refine aM ?_
 unfold Builtin.List.listAllItems;refine aM (wpAny_typeOf z ?_);rw [aJ (by rfl)]
 first|refine aM (listItems_at H rfl (bI ?_))|refine listItems_at H rfl ?_|refine aM (aM (listItems_at H rfl (bI ?_)))
 refine aM (listItems_at G rfl ?_);refine aM (jp (sliceIndices_raw none none none Z.size (by exact(fun h=>aZ h))) ?_);have o:sliceBounds none none none Z.size=(0,(Z.size:Int),1):=rfl;rw [o];dsimp only;rw [aJ (by rfl)];refine aM (wpAny_rule ?_);have q:¬(Builtin.List.listTooLong (Z.size+Y.size)=true):=by
  unfold Builtin.List.listTooLong;rw [qQ];exact fun e=>absurd (eJ e) (by exact(fun r=>bD 0x800010010000003042000400000c10002000400000c000023 rfl t M r))
 rw [aO q];have C:Z.extract 0 (Int.toNat 0)++Y++Z.extract (max 0 (Z.size:Int)).toNat=Y:=by
  have m:(max 0 (Z.size:Int)).toNat=Z.size:=by omega
  rw [m];simp
 refine aM (listUpdate_at G rfl ?_ (by rw [qQ];exact aW 0x4000000c00002000400000c000021 rfl t) (by rw [C,qQ];exact aW 0x4000004c00002000400000c000021 rfl M));refine aM (wpAny_letGo ?_);have J:=get?_update_seq (h:=s.heap) (a:=l) (c:="list") (xs:=Z) (n:=n) G (fun P=>P.extract 0 (Int.toNat 0)++Y++P.extract (max 0 (Z.size:Int)).toNat)
 generalize j:(if((fun P:Array Value=>P.extract 0 (Int.toNat 0)++Y++P.extract (max 0 (Z.size:Int)).toNat) Z).size==Z.size then n else n+1)=F at J
 first|rw [C]at J|(dsimp only at J;rw [C]at J)
 exact bI ⟨_,rfl,bI (h _ F (uI _ _ _) J)⟩
noncomputable def OB(o p:PV)(σ:AS):Option AS:=match o with
 |.loc i=>(match p with
  |.loc j=>if i=j then none else(cN (σ.st.lookup i)).bind fun Y=>(cN (σ.st.lookup j)).bind fun Z=>if Y.length<=2^20/\Z.length<=2^20 then some {σ with st:=aG σ.st i (.list Z)}else none
  |_=>none)
 |_=>none
noncomputable def GS(fo:ER):TR:=fun p=>eY fo fun o σ=>OB o p σ
theorem aA.all{o:Expr}{H O:Pos}{fo:ER}(h:aa T b X o fo):aA T b X (.Subscript o (.Slice none none none O) H) (GS fo):=by
 refine⟨?_⟩;intro A R W σ s p v I e V l u;obtain⟨q,σ₁,M,V⟩:=aX V;refine Fw (aK (h.1 A R W σ s q σ₁ e M l) fun U ov Y S k Q=>?_);refine wpAny_Slice ?_
 rw [evalPart_none];refine bI (bI (bI ?_));have Z:bQ T X R U σ₁ {Y with heap:=Y.heap.push {cls:=.type "slice",data:=.fields #[.none,.none,.none]},toks:=Y.toks}:=Q.push _ _;have N:ci W s.heap U (Y.heap.push {cls:=.type "slice",data:=.fields #[.none,.none,.none]}):=S.trans (ci.push ..);cases q with
 |loc i=>
  cases p with
  |loc j=>
   have V:(if i=j then none else(cN (σ₁.st.lookup i)).bind fun C=>(cN (σ₁.st.lookup j)).bind fun J=>if C.length<=2^20/\J.length<=2^20 then some {σ₁ with st:=aG σ₁.st i (.list J)}else none)=some I:=V
   by_cases P:i=j
   .rw [aJ P]at V;exact aZ V
   .rw [aO P]at V
    refine cE V fun C z V=>cE V fun J d V=>fO V fun B V=>?_
    cases V;obtain⟨f,rfl⟩:=k;obtain⟨g,rfl⟩:=u.mono S.ext;obtain⟨a,n,w,x,E⟩:=cT Z (dE z);obtain⟨c,m,y,G,F⟩:=cT Z (dE d);refine wY w (Jn ..) y (fun q=>P (Z.r.inj _ _ f g q)) (by exact(bD 0x10000030400080010082000400000c000022 rfl B.1 E)) (by exact(bD 0x10000030400080010082000400000c000022 rfl B.2 F)) fun h' n' t D=>?_
    have h:=Z.updId (dE z) t D (ao:=.list J) ⟨_,_,rfl,G⟩ Y.toks;exact⟨U,N.trans h.1,h.2⟩
  |_=>exact aZ V
 |_=>exact aZ V
theorem wH{M:Model}{E:Value->Shared->Prop}{K:Frag}{x C f:Addr}{Z:Obj}{od:Option Obj}{v:Value}{Q:Unit->Shared->Prop}(X:K.In s.heap)(I:InstAt s.heap x Z C od)(V:noSeq K C=true)
  (Y:findIn K (.ref C) "__delitem__"=some (some (.ref f))) (U:isFn K (.ref f)=true) (h:wpAny M A (PySem.call (.ref f) [.ref x,v]) (fun _ s'=>Q () s') E s):wpAny M A (delItem (.ref x) v) Q E s:=by
 unfold delItem sequenceKey;refine fZ (aM (aM (I.type.here ?_)));refine aM ((anyM_none X V).here ?_);rw [aJ (show(!false)=true from rfl)];exact bI (aM (special_fn X I Y (gL.mp U) (bt h (fun _ _ z=>bI z) fun _ _ z=>z)))
noncomputable def jl(C:Addr)(U:bz)(fo V:ER):SR:=fun σ=>match fo σ with
 |some (p,σ₁)=>if oT C p=true then(match V σ₁ with
  |some (q,Z)=>(match dm U (eU Z.st 2 (bA [p,q])) [p,q] Z with
   |some (_,Y)=>some (.next,Y)
   |none=>none)
  |none=>none)else none
 |none=>none
set_option tactic.hygienic true in
theorem ax.delHdr{C:Addr}(hC:Ei T.K C){o i:Expr}{O y:Pos}{fo h:ER}{B:Addr}{j:Obj}{fd:FuncData}{f:bz}(hq:noSeq T.K C=true)
  (hm:findIn T.K (.ref C) "__delitem__"=some (some (.ref B))) (w:isFn T.K (.ref B)=true) (ho:aa T b X o fo) (hi:aa T b X i h) (t:fy T b (.ref B) (fun D=>⟨D,[]⟩) f) (hK:T.K.lookup B=some j) (hd:j.data=.func fd):
  ax T b X (.Delete [.Subscript o i O] y) (jl C f fo h):=by
 refine⟨?_⟩;intro A R W σ s a e n V hr;unfold jl at V
 split at V
 .rename_i p σ₁ G
  split at V
  .rename_i hp
   split at V
   .rename_i q S H
    split at V
    .rename_i r z I
     cases V;obtain⟨l,rfl⟩:=nL hp;refine wpAny_Delete (GW (HH (aK (ho.1 A R W σ s _ σ₁ n G hr) fun E u N J c P=>?_)));refine aK (hi.1 A R E σ₁ N q S n H P) fun g v k U d Z=>?_
     have Y:=c.mono U.ext;obtain⟨x,ox,od,rfl,hl,hI,hD⟩:=qU Z Y;refine wH (K:=T.K) (fun a o q=>Z.r.hF a o (Z.r.top.kin a o q)) hI hq hm w ?_
     have hcall:=ld (mk:=fun D=>⟨D,[]⟩) (X:=X) (vs:=[.ref x,v]) t n I Z ⟨.ref x,[v],rfl,Y,v,[],rfl,d,rfl⟩;exact bt hcall (fun _ m ⟨F,M,_,Q⟩=>Jc ⟨F,(J.trans U).trans M,rfl,Q⟩) ay
    .exact aZ V
   .exact aZ V
  .exact aZ V
 .exact aZ V
end
structure cM(T:Tp)(X:Cx)(A:Around)(R:Fz)(W₀:Wd)(h₀:Heap)(ss:List Stmt)(pre:AS->Prop)(Q:Flow->Shared->Prop)(E:Value->Shared->Prop):Prop where
 go:∀W σ s,ci W₀ h₀ W s.heap->pre σ->bQ T X R W σ s->wpAny (model T.prog T.w) A (execs ss X.env) Q E s
noncomputable def gM(f:SR)(K:AS->Prop):AS->Prop:=fun σ=>∃Z,f σ=some (.next,Z)/\K Z
structure sK(T:Tp)(F:Addr->Option Obj)(B:Heap):Prop where
 f:FH F B
 tabs:∀P∈T.tabs,F P=none/\∃ps,B.get? P=some (tabObj ps)/\FT (T.tl P) F ps
 top:jc T F
noncomputable def nz(T:Tp)(Z:Addr->Option Obj)(Y:Shared):Prop:=∃F B,sK T F B/\B.StaysIn Y.heap/\AllBare Y.gens/\Y.os=T.os/\∀a o,Z a=some o->F a=some o
noncomputable def lM(T:Tp)(Z:Addr->Option Obj)(l:List Env)(W:String)(e:Value)(Y:Shared):Prop:=
 ∃a X F B,e=.ref a/\sK T F B/\Heap.FlyingW B l a (.type W) X Y.heap/\AllBare Y.gens/\Y.os=T.os/\∀a o,Z a=some o->F a=some o
theorem nz.rel{T:Tp}{Z:Addr->Option Obj}{W:Shared}(h:nz T Z W):∃U,(∀a o,Z a=some o->U.F a=some o)/\eD T yR U (dY 0 []) W:=by
 obtain⟨F,B,X,V,Q,R,N⟩:=h;exact⟨⟨F,fun _=>0,0⟩,N,X.top,fun a o e=>V a o (X.f a o e),fun a o e=>(nomatch e),fun g x e=>(nomatch e),fun i H e=>(nomatch e),fun i Y=>absurd Y (fg i),fun i j Y=>absurd Y (fg i),
  fun P O=>let⟨I,S,J,M⟩:=X.tabs P O;⟨I,rfl,S,V _ _ J,M⟩,Q,R,fun i Y=>absurd Y (fg i)⟩
section
variable {T:Tp}{b:Nat}{X:Cx}{A:Around}{R:Fz}{W W₀:Wd}{h₀:Heap}{s:Shared}{Q:Flow->Shared->Prop}{E:Value->Shared->Prop}
theorem sK.of{st:List (Nat×AO)}(Y:eD T R W st s)(Z:List Addr)(N:∀L∈Z,W.F L=none)(O:∀L∈Z,L∉T.tabs):sK T W.F (hideAll s.heap Z):=
 ⟨fun a o e=>hideAll_get Z (Y.hF a o e) fun V=>by rw [N a V]at e;exact aZ e,fun P U=>let⟨I,_,S,J,M⟩:=Y.tabs P U;⟨I,S,hideAll_get Z J fun V=>O P V U,M⟩,Y.top⟩
theorem cM.cons{st:Stmt}{O:List Stmt}{f:SR}{K:AS->Prop}(I:fJ b A)(h:ax T b X st f)(H:cM T X A R W₀ h₀ O K Q E):cM T X A R W₀ h₀ (st::O) (gM f K) Q E:=by
 refine⟨fun W σ s g M N=>?_⟩;obtain⟨Y,e,J⟩:=M;refine kM (dK (h.1 A R W σ s _ Y I e N) fun S f V U P Z=>?_);rw [show f=.next from P];exact H.go S Y V (g.trans U) J Z
theorem cM.ite1{t:Expr}{V Y I:List Stmt}{N:Pos}{J:BR}{K:AS->Prop}(z:fJ b A)(B:∀s,¬Q .next s)(G:bj T b X t J)(h:cM T X A R W₀ h₀ V K Q E):cM T X A R W₀ h₀ (.If t V Y N::I) (fun σ=>∃Z,J σ=some (true,Z)/\K Z) Q E:=by
 refine⟨fun W σ s g D F=>?_⟩;obtain⟨Z,e,C⟩:=D;refine kM (wpAny_If (eA (G.1 A R W σ s _ Z z e F) fun O S P U=>?_));refine bt (h.go O Z S (g.trans P) C U) (fun f H M=>?_) (fun _ _ h=>h);cases f with
 |next=>exact absurd M (B H)
 |_=>exact M
theorem CJ{x:Str}{v:Value}{V:Pos}{F:Addr->Option Obj}{Y:Value->Shared->Prop}(O:jc T F)(N:FH F s.heap)(Z:bf X)(i:Nat)(U:T.bl[i]?=some (x,v))(S:X.env.scope.names.lookup x=some .globalImplicit)(P:(x==("__debug__":Str))=false)(h:Y v s):wpAny (model T.prog T.w) A (eval (.Name x V) X.env) Y E s:=by
 obtain⟨G,D,H,I,J,M⟩:=O.blt i x v U s.heap N;exact qV Z.kind S (yX (by rw [Z.glob];exact H) I (by rw [Z.blt];exact J) M h) P
theorem cM.raise{x:Str}{O U:Pos}{P:List Stmt}{Y N I:String}{K:AS->Prop}(G:A.handled=none)(C:bf X)(i:Nat)(M:T.bl[i]?=some (x,.type Y))(H:X.env.scope.names.lookup x=some .globalImplicit)(F:(x==("__debug__":Str))=false)(D:ExcClass Y N I)(Z:isSubtype (.type Y) (.type Y)=pure true)
  (B:∀W σ s V e,ci W₀ h₀ W s.heap->bQ T X R W σ s->Heap.NewExc s.heap V e Y->E (.ref e) {s with heap:=V}):cM T X A R W₀ h₀ (.Raise (some (.Name x O)) none U::P) K Q E:=
 ⟨fun W σ s g z S=>kM (Raise_classB G D Z (CJ S.r.top S.r.hF C i M H F ⟨rfl,rfl⟩) fun V e J=>B W σ s V e g S J)⟩
noncomputable def SZ(h:Heap)(V:List Addr)(l:List Env):Prop:=∀Z∈l,Z.scope.kind≠.module/\∃L o,Z.frame=some L/\L∈V/\h.get? L=some o/\∀Y,o.data≠.fields Y
theorem SO{h:Heap}{Y:List Addr}:∀{l:List Env},SZ h Y l->h.FunFrames (hideAll h Y) l
 |[],_=>trivial
 |Z::V,H=>⟨(H Z (.head _)).1,let⟨L,o,N,O,P,S⟩:=(H Z (.head _)).2;⟨L,o,N,hideAll_none Y O,P,S⟩,SO fun e U=>H e (.tail _ U)⟩
theorem Ez{M:Model}{V:Env}{Z:List Env}{L e:Addr}{ls:List Addr}{I:Heap}{G:String}{F:Unit->Shared->Prop}(P:A.frames=some Z)(z:V.frame=some L)(u:SZ s.heap ls (V::Z))(S:Heap.NewExc s.heap I e G)
  (w:∀Y H,Heap.FlyingW (hideAll s.heap ls) Z e (.type G) H Y->F () {s with heap:=Y}):wpAny M (A.deeper V) (leaving V (.ref e)) F E {s with heap:=I}:=by
 obtain⟨D,t,y,O,x⟩:=S.there;have U:(hideAll s.heap ls).get? e=none:=by
  cases q:(hideAll s.heap ls).get? e with
  |none=>rfl
  |some o=>have:=of_hideAll ls q;rw [S.new]at this;exact aZ this
 refine wpAny_leaving_firstW (base:=hideAll s.heap ls) (oe:=D) (a0:=t) (Around.frames_deeper P) ((SO u).of_keeps fun b o N _=>⟨o,S.keeps b o N,rfl⟩) z y (fun b o N=>S.keeps b o (of_hideAll ls N)) U x rfl rfl fun Y v=>?_
 obtain⟨B,⟨_,_,C⟩,J,r⟩:=v;rw [O]at J
 exact w Y t ⟨B,U,C,J⟩
theorem tE{f:Expr}{J:List Expr}{U:Pos}{G:Addr}{fo:Obj}{fd:FuncData}{t:LR}{F:List PV}{σ σ₁:AS}{q:Value->Shared->Prop}(x:fJ b A)(l:aa T b X f (ab (.val (.ref G))))(B:ak T b X J t)(j:T.K.lookup G=some fo)(k:fo.data=.func fd)(e:t σ=some (F,σ₁))(n:bQ T X R W σ s)
  (hcall:∀Y H Z,ci W s.heap Y Z.heap->aN Y F H->bQ T X R Y σ₁ Z->codeAny (model T.prog T.w) A (.call (.ref G) ⟨H,[]⟩) (fun r y=>match r with|.ok (.ret v)=>q v y|.ok _=>False|.error e=>E e y) Z)
  (C:∀S,(starEach J S).any (·.1)=false:=by intro _;rfl)
  (z:∀S,eval (.Call f J [] U) S=(do callWith U (<-eval f S) [] (backTo U (starEach J S)) []):=by intro _;rfl):wpAny (model T.prog T.w) A (eval (.Call f J [] U) X.env) q E s:=by
 rw [z];refine aM (aK (l.1 A R W σ s _ σ x rfl n) fun I u O M p P=>?_);rw [show u=.ref G from p];refine rf (o:=fo) (fd:=fd) (cG (co (C _)) (bt (B.1 A R I σ O F σ₁ U x e P) (fun H Z m=>?_) ay));obtain⟨Y,N,D,V⟩:=m;exact⟨⟨V.r.hF _ _ (V.r.top.kin _ _ j),k⟩,rN (hcall Y H Z (M.trans N) D V)⟩
theorem cM.catch{f:Expr}{H:List Expr}{Y O u C z np G:Pos}{fa:Addr}{fo:Obj}{fd:FuncData}{fs:LR}{Kp:List PV->AS->Prop}{x:Str}{N:String}{k:Nat}{U:List Env}{L:Addr}{D:List Stmt}
  (hA:fJ b A) (hX:bf X) (m:A.frames=some (X.env::U)) (j:X.env.frame=some L) (hf:aa T b X f (ab (.val (.ref fa)))) (h:ak T b X H fs) (hK:T.K.lookup fa=some fo) (hd:fo.data=.func fd)
  (i:Nat) (hx:T.bl[i]?=some (x,.type N)) (hk:X.env.scope.names.lookup x=some .globalImplicit) (d:(x==("__debug__":Str))=false)
  (h1:isSubtype (.type N) (.type "BaseException")=pure true) (h2:isSubtype (.type ((Manifest.find? N).elim "type" fun x=>x.metatype)) (.type "tuple")=pure false) (h3:isSubtype (.type N) (.type N)=pure true)
  (hcall:∀V M σ₁ v Z,Kp M σ₁->ci W₀ h₀ V Z.heap->aN V M v->bQ T X R V σ₁ Z->codeAny (model T.prog T.w) A (.call (.ref fa) ⟨v,[]⟩) (fun r I=>match r with|.ok _=>False|.error e=>lM T W₀.F (X.env::U) N e I) Z)
  (hQ:∀I,nz T W₀.F I->Q (.ret (.bool true)) I) (hi:interactive X.env=false:=by rfl) (q:swapsWith (.Call f H [] Y) none (Pos.line O) X.env=pure false:=by rfl)
  (p:∀P,(starEach H P).any (·.1)=false:=by intro _;rfl)
  (c:∀P,eval (.Call f H [] Y) P=(do callWith Y (<-eval f P) [] (backTo Y (starEach H P)) []):=by intro _;rfl):
  cM T X A R W₀ h₀ (.Try [.Expr (.Call f H [] Y) O] [.ExceptHandler (some (.Name x np)) none [.Return (some (.Constant (.bool true) k G)) C] z] [] [] u::D) (fun σ=>∃M σ₁,fs σ=some (M,σ₁)/\Kp M σ₁) Q E:=by
 refine⟨fun W σ s g hp hr=>?_⟩;obtain⟨M,σ₁,e,n⟩:=hp;refine kM (wpAny_Try_except (kM (ET (tE hA hf h hK hd e hr (fun V v Z y t J=>jP (hcall V M σ₁ v Z n (g.trans y) t J) fun r I hq=>?_) p c) hi q)));rcases r with e'|r
 .obtain⟨a,a0,F,B,rfl,hB,l,hb,ho,hF⟩:=hq
  show wpAny _ _ (noteFrame (.ref a) X.env) _ _ I;refine wpAny_looks_onW m j l fun h4 hh _=>?_
  refine wpAny_landsW hh fun h5 S _=>?_
  refine wpAny_handleBy_builtin (X:=N) (T:=N) (b:=true) h1 h2 h3 ?_
  refine CJ hB.top (fun a o e=>S.1 a o (hB.f a o e)) hX i hx hk d ⟨rfl,S.there,?_⟩;rw [aJ rfl];obtain⟨f1,f2,f3,f4⟩:=S;refine wpAny_setFlight_noneW f1 f3 f4 fun h6 k1 _ _ _=>?_
  exact kM (Ak (Au (hQ _ ⟨F,B,hB,k1,hb,ho,hF⟩)))
 .exact hq.elim
end
noncomputable def Fz.plus(R:Fz)(s:Shared)(L:Addr):Fz:=⟨fun a=>if a=L then s.heap.get? a else R.h a,R.g⟩
noncomputable def xa(T:Tp)(R:Fz)(W:Wd)(l:List Env):Prop:=∀Z∈l,Z.scope.kind≠.module/\∃L o,Z.frame=some L/\R.h L=some o/\L∉T.tabs/\W.F L=none/\∀Y,o.data≠.fields Y
theorem ci.still{W Z:Wd}{h U:Heap}(g:ci W h Z U){L:Addr}{o:Obj}(X:h.get? L=some o)(V:W.F L=none):Z.F L=none:=by
 cases q:Z.F L with
 |none=>rfl
 |some Y=>
  rcases g.fr L Y q with e|e
  .rw [V]at e;exact aZ e
  .rw [X]at e;exact kR e
theorem lM.mono{T:Tp}{F X:Addr->Option Obj}{l:List Env}{Y:String}{e:Value}{Z:Shared}(W:∀a o,F a=some o->X a=some o)(h:lM T X l Y e Z):lM T F l Y e Z:=
 let⟨a,O,G,B,P,Q,R,S,U,V⟩:=h;⟨a,O,G,B,P,Q,R,S,U,fun b o q=>V b o (W b o q)⟩
theorem nz.mono{T:Tp}{F Y:Addr->Option Obj}{Z:Shared}(X:∀a o,F a=some o->Y a=some o)(h:nz T Y Z):nz T F Z:=
 let⟨G,B,R,S,U,V,W⟩:=h;⟨G,B,R,S,U,V,fun b o q=>W b o (X b o q)⟩
section
variable {T:Tp}{b:Nat}{X:Cx}{A:Around}{R:Fz}{W W₀:Wd}{h₀:Heap}{s:Shared}{σ:AS}{outer:List Env}{Q:Flow->Shared->Prop}{E:Value->Shared->Prop}
theorem bQ.own(Y:bQ T X R W σ s):∃o,s.heap.get? X.env.locals=some o/\∀Z,o.data≠.fields Z:=by
 obtain⟨m,⟨o,S,P,V,U,_⟩,_⟩:=Y.l.m;exact⟨o,V,fun Z e=>by rw [U]at e;cases e⟩
theorem bQ.freeze(Z:bQ T X R W σ s){ids:List Nat}{os:List AO}(O:ids.Nodup)(Y:∀i∈ids,i<W.n)(S:iL σ.st ids ids=some os):eD T (R.plus s X.env.locals) (ne W ids) (dY 0 os) s:=
 Z.r.pick O Y S (fun a o e=>by
  unfold Fz.plus at e
  dsimp only at e
  split at e
  .exact e
  .exact Z.r.hR a o e) Z.r.hG (fun i V=>by
  unfold Fz.plus;dsimp only;rw [aO (Z.l.ρ i (Y i V))];exact(Z.r.fre i (Y i V)).2.1) fun P U=>by
  unfold Fz.plus;dsimp only;rw [aO (show ¬P=X.env.locals from fun e=>Z.l.t (by rw [<-e];exact U))];exact(Z.r.tabs P U).2.1
theorem xa.push(M:xa T R W₀ outer)(I:FH R.h h₀)(g:ci W₀ h₀ W s.heap)(Z:bQ T X R W σ s)(J:bf X)(U:X.env.frame=some X.env.locals)(V:List Nat):xa T (R.plus s X.env.locals) (ne W V) (X.env::outer):=by
 intro N S;rcases cC.mp S with rfl|S
 .obtain⟨o,O,P⟩:=Z.own
  exact⟨by rw [J.kind];decide,X.env.locals,o,U,(aJ rfl).trans O,Z.l.t,Z.l.nF,P⟩
 .obtain⟨O,L,o,P,Y,F,G,H⟩:=M N S
  refine⟨O,L,o,P,(aO fun e=>?_).trans Y,F,g.still (I L o Y) G,H⟩;rw [e,Z.l.nR]at Y
  exact aZ Y
theorem zY{e:Addr}{y:Heap}{x:String}{M:Model}(v:bf X)(J:A.frames=some outer)(O:X.env.frame=some X.env.locals)(D:xa T R W₀ outer)(u:FH R.h h₀)(g:ci W₀ h₀ W s.heap)(V:bQ T X R W σ s)(w:Heap.NewExc s.heap y e x):
  wpAny M (A.deeper X.env) (leaving X.env (.ref e)) (fun _ N=>lM T W₀.F outer x (.ref e) N) E {s with heap:=y}:=by
 have Y:∀L∈X.env.locals::outer.filterMap (·.frame),W.F L=none/\L∉T.tabs:=fun L U=>by
  rcases cC.mp U with rfl|U
  .exact⟨V.l.nF,V.l.t⟩
  .obtain⟨Z,S,C⟩:=uE.mp U
   obtain⟨_,m,o,P,H,z,B,_⟩:=D Z S;rw [P]at C;cases C
   exact⟨g.still (u _ o H) B,z⟩
 refine Ez (ls:=X.env.locals::outer.filterMap (·.frame)) J O (fun Z S=>?_) w fun p n I=>⟨e,n,W.F,_,rfl,sK.of V.r _ (fun L U=>(Y L U).1) (fun L U=>(Y L U).2),I,V.r.bare,V.r.os,g.F⟩
 rcases cC.mp S with rfl|S
 .obtain⟨o,G,P⟩:=V.own
  exact⟨by rw [v.kind];decide,_,o,O,.head _,G,P⟩
 .obtain⟨G,L,o,P,H,z,B,q⟩:=D Z S
  exact⟨G,L,o,P,.tail _ (uE.mpr ⟨Z,S,P⟩),V.r.hR L o H,q⟩
theorem cM.retCall{f:Expr}{M:List Expr}{V I:Pos}{z:Addr}{fo:Obj}{fd:FuncData}{y:LR}{x:List PV->AS->Prop}{v:List Stmt}(k:fJ b A)(p:aa T b X f (ab (.val (.ref z))))(C:ak T b X M y)(l:T.K.lookup z=some fo)(o:fo.data=.func fd)
  (hcall:∀Y S σ₁ J Z,x S σ₁->ci W₀ h₀ Y Z.heap->aN Y S J->bQ T X R Y σ₁ Z->codeAny (model T.prog T.w) A (.call (.ref z) ⟨J,[]⟩) (fun r O=>r=.ok (.ret (.bool true))/\nz T W₀.F O) Z)
  (m:∀O,nz T W₀.F O->Q (.ret (.bool true)) O)
  (G:∀U,(starEach M U).any (·.1)=false:=by intro _;rfl)
  (B:∀U,eval (.Call f M [] V) U=(do callWith V (<-eval f U) [] (backTo V (starEach M U)) []):=by intro _;rfl):
  cM T X A R W₀ h₀ (.Return (some (.Call f M [] V)) I::v) (fun σ=>∃S σ₁,y σ=some (S,σ₁)/\x S σ₁) Q E:=by
 refine⟨fun W σ s g q u=>?_⟩;obtain⟨S,σ₁,e,D⟩:=q;refine kM (Ak (tE k p C l o e u (fun Y J Z N H P=>jP (hcall Y S σ₁ J Z D (g.trans N) H P) fun r O t=>?_) G B));obtain⟨rfl,n⟩:=t;exact m O n
end
theorem xl{Y:Type}{n:Nat}{Z:List Y}(h:Z.length=n+1):∃a l,Z=a::l/\l.length=n:=by
 cases Z with
 |nil=>cases h
 |cons a l=>exact⟨a,l,rfl,zM h⟩
theorem iS{Y:Type}{Z:List Y}(h:Z.length=1):∃a,Z=[a]:=qD.mp h
theorem gA{Y:Type}{Z:List Y}(h:Z.length=2):∃a b,Z=[a,b]:=
 let⟨a,_,e,h⟩:=xl h
 let⟨b,q⟩:=iS h
 ⟨a,b,by rw [e,q]⟩
theorem qu{Y:Type}{Z:List Y}(h:Z.length=3):∃a b c,Z=[a,b,c]:=
 let⟨a,_,e,h⟩:=xl h
 let⟨b,c,q⟩:=gA h
 ⟨a,b,c,by rw [e,q]⟩
theorem Kg{Y:Type}{Z:List Y}(h:Z.length=4):∃a b c d,Z=[a,b,c,d]:=
 let⟨a,_,e,h⟩:=xl h
 let⟨b,c,d,q⟩:=qu h
 ⟨a,b,c,d,by rw [e,q]⟩
theorem iT{l:List (Str×NameKind)}(h:l.all (fun x=>!(x.2==.cell))=true):∀x∈l,x.2≠.cell:=fun x Z=>by
 have:=fL.mp h x Z
 simpa using this
theorem iU{l:List (Str×NameKind)}{pn:List Str}(h:pn.all (fun x=>decide (l.lookup x=some .local))=true):∀x∈pn,l.lookup x=some .local:=fun x Z=>eJ (fL.mp h x Z)
noncomputable def bJ(P:Params)(a:Addr):Obj:=((hd.heap_1 P).lookup a).getD default
noncomputable def cD(P:Params)(a:Addr):FuncData:=match(bJ P a).data with|.func fd=>fd|_=>default
noncomputable def cc(P:Params)(a:Addr):List Stmt:=match(cD P a).body with|.stmts b=>b|_=>[]
noncomputable def XX(P:Params)(a L:Addr)(X:List (Str×Addr))(Z:List Str)(Y:List (Str×Nat)):Cx:=⟨nf (cD P a).qualname (cD P a).scope a L (cD P a).code X,Z,Y⟩
noncomputable def UK:List (Str×Value):=[((Str.ofString "_wall"),.ref 38),((Str.ofString "ELLIPSIS_MARKER"),.str "..." 291),((Str.ofString "_ellipsis_match"),.ref 45),((Str.ofString "compute_powers"),.ref 53),((Str.ofString "_str_to_int_inner"),.ref 60),((Str.ofString "int_from_string"),.ref 67),((Str.ofString "_DIV_LIMIT"),.int 4000 345),((Str.ofString "_div2n1n"),.ref 74),((Str.ofString "_div3n2n"),.ref 81),((Str.ofString "_int2digits"),.ref 88),((Str.ofString "_digits2int"),.ref 95),((Str.ofString "_divmod_pos"),.ref 102),((Str.ofString "int_divmod"),.ref 109),((Str.ofString "_iter_escaped_chars"),.ref 116),((Str.ofString "_strip_quoted_realnames"),.ref 123),((Str.ofString "_check_parenthesis"),.ref 130),((Str.ofString "tspecials"),.ref 135),((Str.ofString "_name_disallowed_re"),.ref 140),((Str.ofString "_value_disallowed_re"),.ref 145),((Str.ofString "_formatparam"),.ref 153),((Str.ofString "Headers"),.ref 274),((Str.ofString "_law_cells"),.ref 285),((Str.ofString "_law_lessened"),.ref 292),((Str.ofString "_law_word"),.ref 299),((Str.ofString "_law_way"),.ref 306),((Str.ofString "_law_spans"),.ref 313),((Str.ofString "_law_ends"),.ref 320),((Str.ofString "_law_crossings"),.ref 325),((Str.ofString "_law_asunder"),.ref 330),((Str.ofString "_law_settled"),.ref 335),((Str.ofString "_law_total"),.ref 342),((Str.ofString "_law_third"),.ref 349),((Str.ofString "law"),.ref 354)]
noncomputable def UE:List (Str×Value):=[("len",.builtin "len"),("str",.type "str"),("int",.type "int"),("divmod",.builtin "divmod"),("max",.builtin "max"),("min",.builtin "min"),("type",.type "type"),("range",.type "range"),("sum",.builtin "sum"),("sorted",.builtin "sorted"),("reversed",.type "reversed"),("set",.type "set"),("list",.type "list"),("tuple",.type "tuple"),("enumerate",.type "enumerate"),("ZeroDivisionError",.type "ZeroDivisionError"),("iter",.builtin "iter"),("next",.builtin "next"),("print",.builtin "print")]
noncomputable def TT(P:Params)(Z:Program)(w:World)(os:OsState):Tp:=⟨Z,w,UK,UE,hd.heap_1 P,[55,83,90],os,fun a=>if a=55 then(80,4,(cD P 60).qualname++".<locals>."++"inner")else if a=83 then(120,4,(cD P 88).qualname++".<locals>."++"inner")else(135,4,(cD P 95).qualname++".<locals>."++"inner")⟩
noncomputable abbrev FK(P:Params)(Z:Program)(w:World)(os:OsState)(b:Nat)(k:Addr)(C:bz):Prop:=fy (TT P Z w os) b (.ref k) (fun Y=>⟨Y,[]⟩) C
theorem xv(P):(hd.heap_1 P).lookup 45=some (bJ P 45):=by left
theorem xw(P):(bJ P 45).data=.func (cD P 45):=by left
theorem SD(P):(hd.heap_1 P).lookup 53=some (bJ P 53):=by left
theorem St(P):(bJ P 53).data=.func (cD P 53):=by left
theorem Rd(P):(hd.heap_1 P).lookup 60=some (bJ P 60):=by left
theorem RC(P):(bJ P 60).data=.func (cD P 60):=by left
theorem Pj(P):(hd.heap_1 P).lookup 67=some (bJ P 67):=by left
theorem Os(P):(bJ P 67).data=.func (cD P 67):=by left
theorem Og(P):(hd.heap_1 P).lookup 74=some (bJ P 74):=by left
theorem On(P):(bJ P 74).data=.func (cD P 74):=by left
theorem Qe(P):(hd.heap_1 P).lookup 81=some (bJ P 81):=by left
theorem OH(P):(bJ P 81).data=.func (cD P 81):=by left
theorem NO(P):(hd.heap_1 P).lookup 88=some (bJ P 88):=by left
theorem Nt(P):(bJ P 88).data=.func (cD P 88):=by left
theorem NJ(P):(hd.heap_1 P).lookup 95=some (bJ P 95):=by left
theorem NU(P):(bJ P 95).data=.func (cD P 95):=by left
theorem NG(P):(hd.heap_1 P).lookup 102=some (bJ P 102):=by left
theorem Nx(P):(bJ P 102).data=.func (cD P 102):=by left
theorem td(P):(hd.heap_1 P).lookup 109=some (bJ P 109):=by left
theorem te(P):(bJ P 109).data=.func (cD P 109):=by left
theorem PI(P):(hd.heap_1 P).lookup 116=some (bJ P 116):=by left
theorem Qs(P):(bJ P 116).data=.func (cD P 116):=by left
theorem Sc(P):(hd.heap_1 P).lookup 123=some (bJ P 123):=by left
theorem SP(P):(bJ P 123).data=.func (cD P 123):=by left
theorem PQ(P):(hd.heap_1 P).lookup 130=some (bJ P 130):=by left
theorem PT(P):(bJ P 130).data=.func (cD P 130):=by left
theorem SS(P):(hd.heap_1 P).lookup 168=some (bJ P 168):=by left
theorem RS(P):(bJ P 168).data=.func (cD P 168):=by left
theorem we(P):(hd.heap_1 P).lookup 175=some (bJ P 175):=by left
theorem yE(P):(bJ P 175).data=.func (cD P 175):=by left
theorem Nz(P):(hd.heap_1 P).lookup 194=some (bJ P 194):=by left
theorem No(P):(bJ P 194).data=.func (cD P 194):=by left
theorem ES(P):(hd.heap_1 P).lookup 213=some (bJ P 213):=by left
theorem Iy(P):(bJ P 213).data=.func (cD P 213):=by left
theorem Cl(P):(hd.heap_1 P).lookup 226=some (bJ P 226):=by left
theorem CG(P):(bJ P 226).data=.func (cD P 226):=by left
theorem Br(P):(hd.heap_1 P).lookup 238=some (bJ P 238):=by left
theorem CU(P):(bJ P 238).data=.func (cD P 238):=by left
theorem CP(P):(hd.heap_1 P).lookup 271=some (bJ P 271):=by left
theorem Df(P):(bJ P 271).data=.func (cD P 271):=by left
theorem NM(P):(hd.heap_1 P).lookup 285=some (bJ P 285):=by left
theorem Nu(P):(bJ P 285).data=.func (cD P 285):=by left
theorem HY(P):(hd.heap_1 P).lookup 292=some (bJ P 292):=by left
theorem GB(P):(bJ P 292).data=.func (cD P 292):=by left
theorem Bk(P):(hd.heap_1 P).lookup 299=some (bJ P 299):=by left
theorem BZ(P):(bJ P 299).data=.func (cD P 299):=by left
theorem FU(P):(hd.heap_1 P).lookup 306=some (bJ P 306):=by left
theorem Fu(P):(bJ P 306).data=.func (cD P 306):=by left
theorem BC(P):(hd.heap_1 P).lookup 313=some (bJ P 313):=by left
theorem Bc(P):(bJ P 313).data=.func (cD P 313):=by left
theorem FL(P):(hd.heap_1 P).lookup 320=some (bJ P 320):=by left
theorem GG(P):(bJ P 320).data=.func (cD P 320):=by left
theorem Ny(P):(hd.heap_1 P).lookup 325=some (bJ P 325):=by left
theorem NX(P):(bJ P 325).data=.func (cD P 325):=by left
theorem Nn(P):(hd.heap_1 P).lookup 330=some (bJ P 330):=by left
theorem ND(P):(bJ P 330).data=.func (cD P 330):=by left
theorem NK(P):(hd.heap_1 P).lookup 335=some (bJ P 335):=by left
theorem NH(P):(bJ P 335).data=.func (cD P 335):=by left
theorem NT(P):(hd.heap_1 P).lookup 342=some (bJ P 342):=by left
theorem NB(P):(bJ P 342).data=.func (cD P 342):=by left
theorem Hf(P):(hd.heap_1 P).lookup 349=some (bJ P 349):=by left
theorem IJ(P):(bJ P 349).data=.func (cD P 349):=by left
theorem Rg(P):(hd.heap_1 P).lookup 354=some (bJ P 354):=by left
theorem Rj(P):(bJ P 354).data=.func (cD P 354):=by left
theorem gk(P:Params):Ei (hd.heap_1 P) 274:=⟨by left,by left,by left,by left⟩
theorem Qh(P:Params):zI (hd.heap_1 P) 274:=⟨by left,by left,by left,by left⟩
theorem Ui(P:Params):∀a∈[140,145],Gj (hd.heap_1 P) a:=by
 intro a Z;rcases cC.mp Z with rfl|Z
 .exact⟨bJ P 140,139,bJ P 139,_,_,_,by left,⟨by left,by left,_,_,(_,_),by rfl⟩,by left,by rfl,by simp [Builtin.Re.reRawOf],Sg⟩
 .cases cJ.mp Z
  exact⟨bJ P 145,144,bJ P 144,_,_,_,by left,⟨by left,by left,_,_,(_,_),by rfl⟩,by left,by rfl,by simp [Builtin.Re.reRawOf],Sp⟩
theorem jB{K:Frag}{c:Value}{q:Str}(h:codeIn K c q=true):∀Z:Heap,Frag.In K Z->Z.CodeRec c q:=fun Z Y=>codeRec_of Y h
theorem Rz{Y:Type}{Z:List Y}(h:Z.length=5):∃a b c d e,Z=[a,b,c,d,e]:=
 let⟨a,_,e,h⟩:=xl h
 let⟨b,c,d,f,q⟩:=Kg h
 ⟨a,b,c,d,f,by rw [e,q]⟩
theorem RP{Y:Type}{Z:List Y}(h:Z.length=6):∃a b c d e f,Z=[a,b,c,d,e,f]:=
 let⟨a,_,e,h⟩:=xl h
 let⟨b,c,d,f,g,q⟩:=Rz h
 ⟨a,b,c,d,f,g,by rw [e,q]⟩
theorem wA{l:List (Str×NameKind)}{pn Z:List Str}(h:pn.all (fun x=>decide (l.lookup x=some .local)||(decide (l.lookup x=some .cell)&&Z.contains x))=true):
  ∀x∈pn,l.lookup x=some .local\/(l.lookup x=some .cell/\x∈Z):=fun x W=>by
 have:=fL.mp h x W;rw [Ap,dw]at this
 rcases this with q|⟨X,Y⟩
 .exact .inl (eJ q)
 .exact .inr ⟨eJ X,vY.mp Y⟩
theorem sZ{l:List (Str×NameKind)}{Z:List Str}(h:Z.all (fun x=>!decide (l.lookup x=some .local))=true):∀x∈Z,l.lookup x≠some .local:=fun x Y=>by
 have:=fL.mp h x Y
 simpa using this
theorem bp.eq{T:Tp}{fd:FuncData}{Y:List Value->Args}{pn:List Str}(h:∀Z:List Value,Z.length=pn.length->bindArgs fd (Y Z)=pure (pn.zip Z)):bp T fd Y pn (fun _=>[]) []:=
 bp.plain fun Z X s _=>BindsTo.of_eq (h Z X)
theorem fy.never{T:Tp}{b:Nat}{f:Value}{Y:List Value->Args}:fy T b f Y (fun _ _=>none):=fun A R W s V S os U Z Q P X=>by exact aZ X
set_option maxHeartbeats 8000000 in
theorem Pp(P prog w os b)(Y:3<=b):mt (TT P prog w os) b 116:=by
 have Z:∀L,bf ⟨nf (cD P 116).qualname (cD P 116).scope 116 L (cD P 116).code [],([("addr":Str),"pos","escape","ch"]:List Str),[]⟩:=fun L=>bf.of (by left) rfl rfl
 refine mt.of Y (PI P) (Qs P) (by left) (by left) rfl (by left) (by left) (by left) (jB (by left)) (fun v s _=>BindsTo.of_eq (by left)) (iT (by left)) Z
  (fun F X=>X.blt 14 _ _ rfl) (by left) (fun L=>⟨?_,?_,?_,?_,?_,?_,?_⟩) (fun L=>?_)
 .exact aA.tup (br.cons (aA.loc (Z L) 1) (br.cons (aA.loc (Z L) 3) br.nil))
 .exact bj.val (aa.loc (Z L) 2)
 .exact bj.cmp (aa.loc (Z L) 3) (aa.str _) ij
 .exact aa.tup (ak.cons (aa.loc (Z L) 1) (ak.cons (aa.binop (aa.str _) (aa.loc (Z L) 3) bG) ak.nil))
 .exact aa.tup (ak.cons (aa.loc (Z L) 1) (ak.cons (aa.loc (Z L) 3) ak.nil))
 .exact ax.assign (aa.bool _) (aA.loc (Z L) 2) (by left) (by left)
 .exact ax.assign (aa.bool _) (aA.loc (Z L) 2) (by left) (by left)
 .exact bj.val (aa.loc (Z L) 2)
noncomputable def wt:List Str:=["want","got","ws","startpos","endpos","w"]
noncomputable def xp:List Str:=[]
noncomputable def Cg:List Str:=["want","got"]
noncomputable def ya(N n:Nat):SR:=
 (ar (dn (au (ai (ab (.str "...")) (ac 0) mS)) (ar (bq (ai (ac 0) (ac 1) fE))
 aq) aq)
 (ar (am (aD "str" (ac 0) (ae (ab (.str "...")) al) zf) (ap 2))
 (ar (vD (au (ai (aQ dC (ae (ac 2) al)) (ab (.int 2)) Qb)))
 (ar (jd (bT (ae (ab (.int 0)) (ae (aQ dC (ae (ac 1) al)) al))) 3 4)
 (ar (am (ai (ac 2) (ab (.int 0)) aH) (ap 5))
 (ar (dn (au (ac 5)) (ar (dn (au (aD "str" (ac 1) (ae (ac 5) al) vh)) (ar (am (aQ dC (ae (ac 5) al)) (ap 3))
 (ar (jh (ac 2) (ab (.int 0)))
 aq)) (ar (bq (ab (.bool false)))
 aq))
 aq) aq)
 (ar (am (ai (ac 2) (ca (ab (.int 1)) eE) aH) (ap 5))
 (ar (dn (au (ac 5)) (ar (dn (au (aD "str" (ac 1) (ae (ac 5) al) CX)) (ar (fA (ac 4) (aQ dC (ae (ac 5) al)) dB (ap 4))
 (ar (jh (ac 2) (ca (ab (.int 1)) eE))
 aq)) (ar (bq (ab (.bool false)))
 aq))
 aq) aq)
 (ar (dn (au (ai (ac 3) (ac 4) OO)) (ar (bq (ab (.bool false)))
 aq) aq)
 (ar (er N (cy (ac 2)) (ap 5) (ar (am (aD "str" (ac 1) (ae (ac 5) (ae (ac 3) (ae (ac 4) al))) Ba) (ap 3))
 (ar (dn (au (ai (ac 3) (ab (.int 0)) vJ)) (ar (bq (ab (.bool false)))
 aq) aq)
 (ar (fA (ac 3) (aQ dC (ae (ac 5) al)) gv (ap 3))
 aq))) aq)
 (ar (bq (ab (.bool true)))
 aq)))))))))))
theorem Sj(P n cs L):bf (XX P 45 L cs wt (aF xp n)):=bf.of (by left) rfl rfl
theorem Nk(P prog w os b N n cs L) :ah (TT P prog w os) b (XX P 45 L cs wt (aF xp n)) (cc P 45) (ya   N n):=by
 have Z:=Sj P n cs L;exact
 (ah.cons (ax.ite (bj.cmp (aa.globV Z 1 (fun _=>⟨_,rfl⟩) rfl (by left) rfl) (aa.loc Z 0 rfl) yw) (ah.cons (ax.ret (aa.cmp (aa.loc Z 0 rfl) (aa.loc Z 1 rfl) ij))
 ah.nil) ah.nil)
 (ah.cons (ax.assign (aa.meth cr ul F.type_str_split (aa.loc Z 0 rfl) (ak.cons (aa.globV Z 1 (fun _=>⟨_,rfl⟩) rfl (by left) rfl) ak.nil) Mz) (aA.loc Z 2 rfl) (by left) (by left))
 (ah.cons (ax.assert (bj.cmp (aa.bcall (aa.blt Z 0 rfl (by left) rfl) (ak.cons (aa.loc Z 2 rfl) ak.nil) jN) (aa.int 2) RV))
 (ah.cons (ax.swap Z 3 4 (aa.tup (ak.cons (aa.int 0) (ak.cons (aa.bcall (aa.blt Z 0 rfl (by left) rfl) (ak.cons (aa.loc Z 1 rfl) ak.nil) jN) ak.nil))) rfl rfl (by left) (by left))
 (ah.cons (ax.assign (aa.index (aa.loc Z 2 rfl) (aa.int 0)) (aA.loc Z 5 rfl) (by left) (by left))
 (ah.cons (ax.ite (bj.val (aa.loc Z 5 rfl)) (ah.cons (ax.ite (bj.val (aa.meth cr F.slot_str_startswith F.type_str_startswith (aa.loc Z 1 rfl) (ak.cons (aa.loc Z 5 rfl) ak.nil) IH)) (ah.cons (ax.assign (aa.bcall (aa.blt Z 0 rfl (by left) rfl) (ak.cons (aa.loc Z 5 rfl) ak.nil) jN) (aA.loc Z 3 rfl) (by left) (by left))
 (ah.cons (ax.delSub (aa.loc Z 2 rfl) (aa.int 0))
 ah.nil)) (ah.cons (ax.ret (aa.bool false))
 ah.nil))
 ah.nil) ah.nil)
 (ah.cons (ax.assign (aa.index (aa.loc Z 2 rfl) (aa.unop (aa.int 1) kF)) (aA.loc Z 5 rfl) (by left) (by left))
 (ah.cons (ax.ite (bj.val (aa.loc Z 5 rfl)) (ah.cons (ax.ite (bj.val (aa.meth cr F.slot_str_endswith F.type_str_endswith (aa.loc Z 1 rfl) (ak.cons (aa.loc Z 5 rfl) ak.nil) Oo)) (ah.cons (ax.augLoc Z 4 rfl (aa.bcall (aa.blt Z 0 rfl (by left) rfl) (ak.cons (aa.loc Z 5 rfl) ak.nil) jN) AK)
 (ah.cons (ax.delSub (aa.loc Z 2 rfl) (aa.unop (aa.int 1) kF))
 ah.nil)) (ah.cons (ax.ret (aa.bool false))
 ah.nil))
 ah.nil) ah.nil)
 (ah.cons (ax.ite (bj.cmp (aa.loc Z 3 rfl) (aa.loc Z 4 rfl) Tf) (ah.cons (ax.ret (aa.bool false))
 ah.nil) ah.nil)
 (ah.cons (ax.for N (bR.val (aa.loc Z 2 rfl)) (aA.loc Z 5 rfl) (ah.cons (ax.assign (aa.meth cr mN oH (aa.loc Z 1 rfl) (ak.cons (aa.loc Z 5 rfl) (ak.cons (aa.loc Z 3 rfl) (ak.cons (aa.loc Z 4 rfl) ak.nil))) OZ) (aA.loc Z 3 rfl) (by left) (by left))
 (ah.cons (ax.ite (bj.cmp (aa.loc Z 3 rfl) (aa.int 0) yB) (ah.cons (ax.ret (aa.bool false))
 ah.nil) ah.nil)
 (ah.cons (ax.augLoc Z 3 rfl (aa.bcall (aa.blt Z 0 rfl (by left) rfl) (ak.cons (aa.loc Z 5 rfl) ak.nil) jN) nV)
 ah.nil))) ah.nil)
 (ah.cons (ax.ret (aa.bool true))
 ah.nil)))))))))))
noncomputable def Eg:List Str:=["a","b","n","pad","half_n","mask","b1","b2","q1","r","q2"]
noncomputable def DJ:List Str:=[]
noncomputable def He:List Str:=["a","b","n"]
noncomputable def ED(Z:bz)(N n:Nat):SR:=
 (ar (dn (au (ai (ai (aD "int" (ac 0) al gD) (ac 2) dB) (ab (.int 4000)) PZ)) (ar (bq (aQ vc (ae (ac 0) (ae (ac 1) al))))
 aq) aq)
 (ar (am (ai (ac 2) (ab (.int 1)) lh) (ap 3))
 (ar (dn (au (ac 3)) (ar (fA (ac 0) (ab (.int 1)) fC (ap 0))
 (ar (fA (ac 1) (ab (.int 1)) fC (ap 1))
 (ar (fA (ac 2) (ab (.int 1)) gv (ap 2))
 aq))) aq)
 (ar (am (ai (ac 2) (ab (.int 1)) fq) (ap 4))
 (ar (am (ai (ai (ab (.int 1)) (ac 4) fC) (ab (.int 1)) dB) (ap 5))
 (ar (jd (bT (ae (ai (ac 1) (ac 4) fq) (ae (ai (ac 1) (ac 5) lh) al))) 6 7)
 (ar (am (aY Z (ae (ai (ac 0) (ac 2) fq) (ae (ai (ai (ac 0) (ac 4) fq) (ac 5) lh) (ae (ac 1) (ae (ac 6) (ae (ac 7) (ae (ac 4) al))))))) (dk 2 (aU (ap 8) (aU (ap 9) cp))))
 (ar (am (aY Z (ae (ac 9) (ae (ai (ac 0) (ac 5) lh) (ae (ac 1) (ae (ac 6) (ae (ac 7) (ae (ac 4) al))))))) (dk 2 (aU (ap 10) (aU (ap 9) cp))))
 (ar (dn (au (ac 3)) (ar (fA (ac 9) (ab (.int 1)) fq (ap 9))
 aq) aq)
 (ar (bq (bT (ae (ai (ai (ac 8) (ac 4) fC) (ac 10) Ot) (ae (ac 9) al))))
 aq))))))))))
theorem TF(P n cs L):bf (XX P 74 L cs Eg (aF DJ n)):=bf.of (by left) rfl rfl
theorem QA(P prog w os b N n cs L){X:bz}(Y:FK P prog w os b 81 X):ah (TT P prog w os) b (XX P 74 L cs Eg (aF DJ n)) (cc P 74) (ED  X N n):=by
 have Z:=TF P n cs L;exact
 (ah.cons (ax.ite (bj.cmp (aa.binop (aa.meth zl yJ zi (aa.loc Z 0 rfl) ak.nil rn) (aa.loc Z 2 rfl) iX) (aa.globV Z 6 (fun _=>⟨_,rfl⟩) rfl (by left) rfl) OE) (ah.cons (ax.ret (aa.bcall (aa.blt Z 3 rfl (by left) rfl) (ak.cons (aa.loc Z 0 rfl) (ak.cons (aa.loc Z 1 rfl) ak.nil)) GT))
 ah.nil) ah.nil)
 (ah.cons (ax.assign (aa.binop (aa.loc Z 2 rfl) (aa.int 1) Dh) (aA.loc Z 3 rfl) (by left) (by left))
 (ah.cons (ax.ite (bj.val (aa.loc Z 3 rfl)) (ah.cons (ax.augLoc Z 0 rfl (aa.int 1) Gb)
 (ah.cons (ax.augLoc Z 1 rfl (aa.int 1) Gb)
 (ah.cons (ax.augLoc Z 2 rfl (aa.int 1) nV)
 ah.nil))) ah.nil)
 (ah.cons (ax.assign (aa.binop (aa.loc Z 2 rfl) (aa.int 1) mu) (aA.loc Z 4 rfl) (by left) (by left))
 (ah.cons (ax.assign (aa.binop (aa.binop (aa.int 1) (aa.loc Z 4 rfl) mW) (aa.int 1) iX) (aA.loc Z 5 rfl) (by left) (by left))
 (ah.cons (ax.swap Z 6 7 (aa.tup (ak.cons (aa.binop (aa.loc Z 1 rfl) (aa.loc Z 4 rfl) mu) (ak.cons (aa.binop (aa.loc Z 1 rfl) (aa.loc Z 5 rfl) Dh) ak.nil))) rfl rfl (by left) (by left))
 (ah.cons (ax.assign (aa.call (aa.glob Z 8 rfl (by left) rfl) (ak.cons (aa.binop (aa.loc Z 0 rfl) (aa.loc Z 2 rfl) mu) (ak.cons (aa.binop (aa.binop (aa.loc Z 0 rfl) (aa.loc Z 4 rfl) mu) (aa.loc Z 5 rfl) Dh) (ak.cons (aa.loc Z 1 rfl) (ak.cons (aa.loc Z 6 rfl) (ak.cons (aa.loc Z 7 rfl) (ak.cons (aa.loc Z 4 rfl) ak.nil)))))) Y (Qe P) (OH P)) (aA.tup (br.cons (aA.loc Z 8 rfl) (br.cons (aA.loc Z 9 rfl) br.nil))) (by left) (by left))
 (ah.cons (ax.assign (aa.call (aa.glob Z 8 rfl (by left) rfl) (ak.cons (aa.loc Z 9 rfl) (ak.cons (aa.binop (aa.loc Z 0 rfl) (aa.loc Z 5 rfl) Dh) (ak.cons (aa.loc Z 1 rfl) (ak.cons (aa.loc Z 6 rfl) (ak.cons (aa.loc Z 7 rfl) (ak.cons (aa.loc Z 4 rfl) ak.nil)))))) Y (Qe P) (OH P)) (aA.tup (br.cons (aA.loc Z 10 rfl) (br.cons (aA.loc Z 9 rfl) br.nil))) (by left) (by left))
 (ah.cons (ax.ite (bj.val (aa.loc Z 3 rfl)) (ah.cons (ax.augLoc Z 9 rfl (aa.int 1) PO)
 ah.nil) ah.nil)
 (ah.cons (ax.ret (aa.tup (ak.cons (aa.binop (aa.binop (aa.loc Z 8 rfl) (aa.loc Z 4 rfl) mW) (aa.loc Z 10 rfl) Rl) (ak.cons (aa.loc Z 9 rfl) ak.nil))))
 ah.nil))))))))))
noncomputable def IW:List Str:=["a12","a3","b","b1","b2","n","q","r"]
noncomputable def Kk:List Str:=[]
noncomputable def Lq:List Str:=["a12","a3","b","b1","b2","n"]
noncomputable def Lb(Z:bz)(N n:Nat):SR:=
 (ar (dn (au (ai (ai (ac 0) (ac 5) fq) (ac 3) fE)) (ar (jd (bT (ae (ai (ai (ab (.int 1)) (ac 5) fC) (ab (.int 1)) dB) (ae (ai (ai (ac 0) (ai (ac 3) (ac 5) fC) dB) (ac 3) bk) al))) 6 7)
 aq) (ar (am (aY Z (ae (ac 0) (ae (ac 3) (ae (ac 5) al)))) (dk 2 (aU (ap 6) (aU (ap 7) cp))))
 aq))
 (ar (am (ai (ai (ai (ac 7) (ac 5) fC) (ac 1) Ot) (ai (ac 6) (ac 4) cO) dB) (ap 7))
 (ar (gp (au (ai (ac 7) (ab (.int 0)) vJ)) (ar (fA (ac 6) (ab (.int 1)) dB (ap 6))
 (ar (fA (ac 7) (ac 2) gv (ap 7))
 aq)) aq N)
 (ar (bq (bT (ae (ac 6) (ae (ac 7) al))))
 aq))))
theorem TH(P n cs L):bf (XX P 81 L cs IW (aF Kk n)):=bf.of (by left) rfl rfl
theorem Ph(P prog w os b N n cs L){Y:bz}(X:FK P prog w os b 74 Y):ah (TT P prog w os) b (XX P 81 L cs IW (aF Kk n)) (cc P 81) (Lb  Y N n):=by
 have Z:=TH P n cs L;exact
 (ah.cons (ax.ite (bj.cmp (aa.binop (aa.loc Z 0 rfl) (aa.loc Z 5 rfl) mu) (aa.loc Z 3 rfl) ij) (ah.cons (ax.swap Z 6 7 (aa.tup (ak.cons (aa.binop (aa.binop (aa.int 1) (aa.loc Z 5 rfl) mW) (aa.int 1) iX) (ak.cons (aa.binop (aa.binop (aa.loc Z 0 rfl) (aa.binop (aa.loc Z 3 rfl) (aa.loc Z 5 rfl) mW) iX) (aa.loc Z 3 rfl) bG) ak.nil))) rfl rfl (by left) (by left))
 ah.nil) (ah.cons (ax.assign (aa.call (aa.glob Z 7 rfl (by left) rfl) (ak.cons (aa.loc Z 0 rfl) (ak.cons (aa.loc Z 3 rfl) (ak.cons (aa.loc Z 5 rfl) ak.nil))) X (Og P) (On P)) (aA.tup (br.cons (aA.loc Z 6 rfl) (br.cons (aA.loc Z 7 rfl) br.nil))) (by left) (by left))
 ah.nil))
 (ah.cons (ax.assign (aa.binop (aa.binop (aa.binop (aa.loc Z 7 rfl) (aa.loc Z 5 rfl) mW) (aa.loc Z 1 rfl) Rl) (aa.binop (aa.loc Z 6 rfl) (aa.loc Z 4 rfl) dN) iX) (aA.loc Z 7 rfl) (by left) (by left))
 (ah.cons (ax.while N (bj.cmp (aa.loc Z 7 rfl) (aa.int 0) yB) (ah.cons (ax.augLoc Z 6 rfl (aa.int 1) AK)
 (ah.cons (ax.augLoc Z 7 rfl (aa.loc Z 2 rfl) nV)
 ah.nil)) ah.nil)
 (ah.cons (ax.ret (aa.tup (ak.cons (aa.loc Z 6 rfl) (ak.cons (aa.loc Z 7 rfl) ak.nil))))
 ah.nil))))
noncomputable def rC:List Str:=["a"]
noncomputable def rT:List Str:=["n","a_digits","inner"]
noncomputable def BA:List Str:=["a","n"]
noncomputable def uC(P:Params):Stmt:=(cc P 88)[1]?.getD (.Pass default)
noncomputable def Cr(P:Params):Arguments:=match uC P with|.FunctionDef _ p Z _ _ _ sc _ _ _=>p|_=>default
noncomputable def vp(P:Params):List Stmt:=match uC P with|.FunctionDef _ p Z _ _ _ sc _ _ _=>Z|_=>default
noncomputable def uw(P:Params):Scope:=match uC P with|.FunctionDef _ p Z _ _ _ sc _ _ _=>sc|_=>default
noncomputable def vH(P:Params):Str:=(cD P 88).qualname++".<locals>."++"inner"
noncomputable def mQ(n:Nat):List (Str×Nat):=[("n",n),("inner",(n+2)),("a_digits",(n+1))]
noncomputable def kN:List Str:=["x","L","R"]
noncomputable def qq:List Str:=["x","L","R","mid","shift","upper","lower"]
noncomputable def dr(P:Params)(n:Nat):PV:=.clo "inner" (vH P) (Cr P) (vp P) (uw P) (mQ n)
noncomputable def nq(P:Params)(F:CF)(N n:Nat):SR:=
 (ar (dn (au (ai (ai (ac 1) (ab (.int 1)) bk) (ac 2) fE)) (ar (am (ac 0) (wT (aI (n+1)) (ac 1)))
 (ar QO
 aq)) aq)
 (ar (am (ai (ai (ac 1) (ac 2) bk) (ab (.int 1)) fq) (ap 3))
 (ar (am (ai (ai (ac 3) (ac 1) dB) (aI n) cO) (ap 4))
 (ar (am (ai (ac 0) (ac 4) fq) (ap 5))
 (ar (am (ai (ac 0) (ai (ac 5) (ac 4) fC) MD) (ap 6))
 (ar (ck (lU (dr P n) F (aI (n+2)) (ae (ac 6) (ae (ac 1) (ae (ac 3) al)))))
 (ar (ck (lU (dr P n) F (aI (n+2)) (ae (ac 5) (ae (ac 3) (ae (ac 2) al)))))
 aq)))))))
noncomputable def fu(P:Params)(N n:Nat):Nat->CF
 |0=>fun _ _ _=>none
 |k+1=>fm kN qq (nq P (fu P N n k) N n)
noncomputable def Hz(P:Params)(Z L:Addr)(X:Value)(Y:List (Str×Addr))(n:Nat):Cx:=⟨nf (vH P) (uw P) Z L X Y,qq,mQ n⟩
theorem PK(P fa L cd cl n):bf (Hz P fa L cd cl n):=bf.of (by left) rfl rfl
theorem Kb(P prog w os b N n fa L cd cl F)(Y:pq (TT P prog w os) b (dr P n) F):ah (TT P prog w os) b (Hz P fa L cd cl n) (vp P) (nq P F N n):=by
 have Z:=PK P fa L cd cl n;exact
 (ah.cons (ax.ite (bj.cmp (aa.binop (aa.loc Z 1 rfl) (aa.int 1) bG) (aa.loc Z 2 rfl) ij) (ah.cons (ax.assign (aa.loc Z 0 rfl) (aA.sub (aa.cell Z 2 (n+1) rfl) (aa.loc Z 1 rfl)) (by left) (by left))
 (ah.cons ax.retNone
 ah.nil)) ah.nil)
 (ah.cons (ax.assign (aa.binop (aa.binop (aa.loc Z 1 rfl) (aa.loc Z 2 rfl) bG) (aa.int 1) mu) (aA.loc Z 3 rfl) (by left) (by left))
 (ah.cons (ax.assign (aa.binop (aa.binop (aa.loc Z 3 rfl) (aa.loc Z 1 rfl) iX) (aa.cell Z 0 n rfl) dN) (aA.loc Z 4 rfl) (by left) (by left))
 (ah.cons (ax.assign (aa.binop (aa.loc Z 0 rfl) (aa.loc Z 4 rfl) mu) (aA.loc Z 5 rfl) (by left) (by left))
 (ah.cons (ax.assign (aa.binop (aa.loc Z 0 rfl) (aa.binop (aa.loc Z 5 rfl) (aa.loc Z 4 rfl) mW) Td) (aA.loc Z 6 rfl) (by left) (by left))
 (ah.cons (ax.expr (aa.clo (aa.cell Z 1 (n+2) rfl) (ak.cons (aa.loc Z 6 rfl) (ak.cons (aa.loc Z 1 rfl) (ak.cons (aa.loc Z 3 rfl) ak.nil))) Y) rfl)
 (ah.cons (ax.expr (aa.clo (aa.cell Z 1 (n+2) rfl) (ak.cons (aa.loc Z 5 rfl) (ak.cons (aa.loc Z 3 rfl) (ak.cons (aa.loc Z 2 rfl) ak.nil))) Y) rfl)
 ah.nil)))))))
theorem Ej(P):∀(W:List Value) (Z:List (Str×Addr)) (Y V:Value) (T:Option Addr) (X U:Value),W.length=kN.length->bindArgs (fnX "inner" (vH P) (Cr P) (vp P) (uw P) Z .none .none Y V T X U) ⟨W,[]⟩=pure (kN.zip W):=by
 intro W Z Y V T X U h;obtain⟨Q,R,S,rfl⟩:=qu (h.trans (by left:kN.length=3));left
theorem oZ(P prog w os N n):∀k b,k<=b->pq (TT P prog w os) b (dr P n) (fu P N n k)
 |0,_,_=>fun _ _ _ _ _ _ _ _ _ _ _ _ _ _ _ h=>by exact aZ h
 |k+1,b+1,h=>pq.step (by left) (by left) (Ej P) (by left) (iT (by left)) (iU (by left)) (by decide) (cQ (by left)) fun Z L X Y=>Kb P prog w os b N n Z L X Y _ (oZ P prog w os N n k b (by exact(KK h)))
theorem xr(P n cs L):∀x∈mQ n,x∈(XX P 88 L cs rC (aF rT n)).cv:=by
 intro x Z;have e:(XX P 88 L cs rC (aF rT n)).cv=[((Str.ofString "n"),n),((Str.ofString "a_digits"),(n+1)),((Str.ofString "inner"),(n+2))]:=by left
 rw [e];simp only [mQ,cC,qI,vu]at Z ⊢
 rcases Z with rfl|rfl|rfl<;>simp
noncomputable def sW(P:Params)(Z:Nat)(N n:Nat):SR:=
 (ar (am (ai (bH (ae (ab (.int 0)) al)) (ai (ai (ai (aD "int" (ac 0) al gD) (aI n) bk) (ab (.int 1)) dB) (aI n) gu) Bp) (dQ (n+1)))
 (ar (sE (n+2) (dr P n))
 (ar (dn (au (ac 0)) (ar (ck (lU (dr P n) (fu P N n Z) (aI (n+2)) (ae (ac 0) (ae (ab (.int 0)) (ae (aQ dC (ae (aI (n+1)) al)) al)))))
 aq) aq)
 (ar (bq (aI (n+1)))
 aq))))
theorem RF(P n cs L):bf (XX P 88 L cs rC (aF rT n)):=bf.of (by left) rfl rfl
theorem LM(P prog w os b N n cs L)(Y:Nat)(X:Y<=b) :ah (TT P prog w os) b (XX P 88 L cs rC (aF rT n)) (cc P 88) (sW P Y  N n):=by
 have Z:=RF P n cs L;exact
 (ah.cons (ax.assign (aa.binop (aa.list (ak.cons (aa.int 0) ak.nil)) (aa.binop (aa.binop (aa.binop (aa.meth zl yJ zi (aa.loc Z 0 rfl) ak.nil rn) (aa.cell Z 0 n rfl) bG) (aa.int 1) iX) (aa.cell Z 0 n rfl) ql) Pw) (aA.cell Z 1 (n+1) rfl (by left)) (by left) (by left))
 (ah.cons (ax.defn Z 2 (n+2) (P:=83) (c:=87) (cs:=mQ n) rfl (by left) (show(83:Nat)∈[55,83,90]by decide) (by left) (fun h W=>nH W (by left)) (by left) (by left) (by left) (xr P n cs L) (cQ (by left)) (by left) (by left) (by left))
 (ah.cons (ax.ite (bj.val (aa.loc Z 0 rfl)) (ah.cons (ax.expr (aa.clo (aa.cell Z 2 (n+2) rfl) (ak.cons (aa.loc Z 0 rfl) (ak.cons (aa.int 0) (ak.cons (aa.bcall (aa.blt Z 0 rfl (by left) rfl) (ak.cons (aa.cell Z 1 (n+1) rfl) ak.nil) jN) ak.nil))) (oZ P prog w os N n Y b X)) rfl)
 ah.nil) ah.nil)
 (ah.cons (ax.ret (aa.cell Z 1 (n+1) rfl))
 ah.nil))))
noncomputable def rr:List Str:=[]
noncomputable def qy:List Str:=["digits","n","inner"]
noncomputable def CD:List Str:=["digits","n"]
noncomputable def vG(P:Params):Stmt:=(cc P 95)[0]?.getD (.Pass default)
noncomputable def BD(P:Params):Arguments:=match vG P with|.FunctionDef _ p Z _ _ _ sc _ _ _=>p|_=>default
noncomputable def um(P:Params):List Stmt:=match vG P with|.FunctionDef _ p Z _ _ _ sc _ _ _=>Z|_=>default
noncomputable def uW(P:Params):Scope:=match vG P with|.FunctionDef _ p Z _ _ _ sc _ _ _=>sc|_=>default
noncomputable def vy(P:Params):Str:=(cD P 95).qualname++".<locals>."++"inner"
noncomputable def mw(n:Nat):List (Str×Nat):=[("n",(n+1)),("inner",(n+2)),("digits",n)]
noncomputable def lO:List Str:=["L","R"]
noncomputable def ur:List Str:=["L","R","mid","shift"]
noncomputable def dt(P:Params)(n:Nat):PV:=.clo "inner" (vy P) (BD P) (um P) (uW P) (mw n)
noncomputable def ux(P:Params)(F:CF)(N n:Nat):SR:=
 (ar (dn (au (ai (ai (ac 0) (ab (.int 1)) bk) (ac 1) fE)) (ar (bq (ai (aI n) (ac 0) aH))
 aq) aq)
 (ar (am (ai (ai (ac 0) (ac 1) bk) (ab (.int 1)) fq) (ap 2))
 (ar (am (ai (ai (ac 2) (ac 0) dB) (aI (n+1)) cO) (ap 3))
 (ar (bq (ai (ai (lU (dt P n) F (aI (n+2)) (ae (ac 2) (ae (ac 1) al))) (ac 3) fC) (lU (dt P n) F (aI (n+2)) (ae (ac 0) (ae (ac 2) al))) bk))
 aq))))
noncomputable def iQ(P:Params)(N n:Nat):Nat->CF
 |0=>fun _ _ _=>none
 |k+1=>fm lO ur (ux P (iQ P N n k) N n)
noncomputable def Kc(P:Params)(Z L:Addr)(X:Value)(Y:List (Str×Addr))(n:Nat):Cx:=⟨nf (vy P) (uW P) Z L X Y,ur,mw n⟩
theorem Qn(P fa L cd cl n):bf (Kc P fa L cd cl n):=bf.of (by left) rfl rfl
theorem Go(P prog w os b N n fa L cd cl F)(Y:pq (TT P prog w os) b (dt P n) F):ah (TT P prog w os) b (Kc P fa L cd cl n) (um P) (ux P F N n):=by
 have Z:=Qn P fa L cd cl n;exact
 (ah.cons (ax.ite (bj.cmp (aa.binop (aa.loc Z 0 rfl) (aa.int 1) bG) (aa.loc Z 1 rfl) ij) (ah.cons (ax.ret (aa.index (aa.cell Z 2 n rfl) (aa.loc Z 0 rfl)))
 ah.nil) ah.nil)
 (ah.cons (ax.assign (aa.binop (aa.binop (aa.loc Z 0 rfl) (aa.loc Z 1 rfl) bG) (aa.int 1) mu) (aA.loc Z 2 rfl) (by left) (by left))
 (ah.cons (ax.assign (aa.binop (aa.binop (aa.loc Z 2 rfl) (aa.loc Z 0 rfl) iX) (aa.cell Z 0 (n+1) rfl) dN) (aA.loc Z 3 rfl) (by left) (by left))
 (ah.cons (ax.ret (aa.binop (aa.binop (aa.clo (aa.cell Z 1 (n+2) rfl) (ak.cons (aa.loc Z 2 rfl) (ak.cons (aa.loc Z 1 rfl) ak.nil)) Y) (aa.loc Z 3 rfl) mW) (aa.clo (aa.cell Z 1 (n+2) rfl) (ak.cons (aa.loc Z 0 rfl) (ak.cons (aa.loc Z 2 rfl) ak.nil)) Y) bG))
 ah.nil))))
theorem Ed(P):∀(W:List Value) (Z:List (Str×Addr)) (Y V:Value) (T:Option Addr) (X U:Value),W.length=lO.length->bindArgs (fnX "inner" (vy P) (BD P) (um P) (uW P) Z .none .none Y V T X U) ⟨W,[]⟩=pure (lO.zip W):=by
 intro W Z Y V T X U h;obtain⟨R,S,rfl⟩:=gA (h.trans (by left:lO.length=2));left
theorem pg(P prog w os N n):∀k b,k<=b->pq (TT P prog w os) b (dt P n) (iQ P N n k)
 |0,_,_=>fun _ _ _ _ _ _ _ _ _ _ _ _ _ _ _ h=>by exact aZ h
 |k+1,b+1,h=>pq.step (by left) (by left) (Ed P) (by left) (iT (by left)) (iU (by left)) (by decide) (cQ (by left)) fun Z L X Y=>Go P prog w os b N n Z L X Y _ (pg P prog w os N n k b (by exact(KK h)))
theorem wq(P n cs L):∀x∈mw n,x∈(XX P 95 L cs rr (aF qy n)).cv:=by
 intro x Z;have e:(XX P 95 L cs rr (aF qy n)).cv=[((Str.ofString "digits"),n),((Str.ofString "n"),(n+1)),((Str.ofString "inner"),(n+2))]:=by left
 rw [e];simp only [mw,cC,qI,vu]at Z ⊢
 rcases Z with rfl|rfl|rfl<;>simp
noncomputable def tN(P:Params)(Z:Nat)(N n:Nat):SR:=
 (ar (sE (n+2) (dt P n))
 (ar (bq (ga (au (aI n)) (lU (dt P n) (iQ P N n Z) (aI (n+2)) (ae (ab (.int 0)) (ae (aQ dC (ae (aI n) al)) al))) (ab (.int 0))))
 aq))
theorem RJ(P n cs L):bf (XX P 95 L cs rr (aF qy n)):=bf.of (by left) rfl rfl
theorem LE(P prog w os b N n cs L)(Y:Nat)(X:Y<=b) :ah (TT P prog w os) b (XX P 95 L cs rr (aF qy n)) (cc P 95) (tN P Y  N n):=by
 have Z:=RJ P n cs L;exact
 (ah.cons (ax.defn Z 2 (n+2) (P:=90) (c:=94) (cs:=mw n) rfl (by left) (show(90:Nat)∈[55,83,90]by decide) (by left) (fun h W=>nH W (by left)) (by left) (by left) (by left) (wq P n cs L) (cQ (by left)) (by left) (by left) (by left))
 (ah.cons (ax.ret (aa.ifexp (bj.val (aa.cell Z 0 n rfl)) (aa.clo (aa.cell Z 2 (n+2) rfl) (ak.cons (aa.int 0) (ak.cons (aa.bcall (aa.blt Z 0 rfl (by left) rfl) (ak.cons (aa.cell Z 0 n rfl) ak.nil) jN) ak.nil)) (pg P prog w os N n Y b X)) (aa.int 0)))
 ah.nil))
noncomputable def xd:List Str:=["a","b","n","a_digits","r","q_digits","a_digit","q_digit","q"]
noncomputable def xH:List Str:=[]
noncomputable def Ci:List Str:=["a","b"]
noncomputable def AW(Y:bz)(X:bz)(Z:bz)(N n:Nat):SR:=
 (ar (am (aD "int" (ac 1) al gD) (ap 2))
 (ar (am (aY Y (ae (ac 0) (ae (ac 2) al))) (ap 3))
 (ar (am (ab (.int 0)) (ap 4))
 (ar (am (bH al) (ap 5))
 (ar (er N (uX (ac 3)) (ap 6) (ar (am (aY X (ae (ai (ai (ac 4) (ac 2) fC) (ac 6) bk) (ae (ac 1) (ae (ac 2) al)))) (dk 2 (aU (ap 7) (aU (ap 4) cp))))
 (ar (ck (aD "list" (ac 5) (ae (ac 7) al) bu))
 aq)) aq)
 (ar (ck (aD "list" (ac 5) al mL))
 (ar (am (aY Z (ae (ac 5) (ae (ac 2) al))) (ap 8))
 (ar (bq (bT (ae (ac 8) (ae (ac 4) al))))
 aq))))))))
theorem QT(P n cs L):bf (XX P 102 L cs xd (aF xH n)):=bf.of (by left) rfl rfl
theorem Mn(P prog w os b N n cs L){X:bz}{U:bz}{Y:bz}(V:FK P prog w os b 88 X)(T:FK P prog w os b 74 U)(W:FK P prog w os b 95 Y):ah (TT P prog w os) b (XX P 102 L cs xd (aF xH n)) (cc P 102) (AW  X U Y N n):=by
 have Z:=QT P n cs L;exact
 (ah.cons (ax.assign (aa.meth zl yJ zi (aa.loc Z 1 rfl) ak.nil rn) (aA.loc Z 2 rfl) (by left) (by left))
 (ah.cons (ax.assign (aa.call (aa.glob Z 9 rfl (by left) rfl) (ak.cons (aa.loc Z 0 rfl) (ak.cons (aa.loc Z 2 rfl) ak.nil)) V (NO P) (Nt P)) (aA.loc Z 3 rfl) (by left) (by left))
 (ah.cons (ax.assign (aa.int 0) (aA.loc Z 4 rfl) (by left) (by left))
 (ah.cons (ax.assign (aa.list ak.nil) (aA.loc Z 5 rfl) (by left) (by left))
 (ah.cons (ax.for N (bR.rev (aa.blt Z 10 rfl (by left) rfl) (aa.loc Z 3 rfl)) (aA.loc Z 6 rfl) (ah.cons (ax.assign (aa.call (aa.glob Z 7 rfl (by left) rfl) (ak.cons (aa.binop (aa.binop (aa.loc Z 4 rfl) (aa.loc Z 2 rfl) mW) (aa.loc Z 6 rfl) bG) (ak.cons (aa.loc Z 1 rfl) (ak.cons (aa.loc Z 2 rfl) ak.nil))) T (Og P) (On P)) (aA.tup (br.cons (aA.loc Z 7 rfl) (br.cons (aA.loc Z 4 rfl) br.nil))) (by left) (by left))
 (ah.cons (ax.expr (aa.meth ik ky kO (aa.loc Z 5 rfl) (ak.cons (aa.loc Z 7 rfl) ak.nil) dL) rfl)
 ah.nil)) ah.nil)
 (ah.cons (ax.expr (aa.meth ik HP F.type_list_reverse (aa.loc Z 5 rfl) ak.nil Ep) rfl)
 (ah.cons (ax.assign (aa.call (aa.glob Z 10 rfl (by left) rfl) (ak.cons (aa.loc Z 5 rfl) (ak.cons (aa.loc Z 2 rfl) ak.nil)) W (NJ P) (NU P)) (aA.loc Z 8 rfl) (by left) (by left))
 (ah.cons (ax.ret (aa.tup (ak.cons (aa.loc Z 8 rfl) (ak.cons (aa.loc Z 4 rfl) ak.nil))))
 ah.nil))))))))
noncomputable def La:List Str:=["w","base","more_than","show","seen","need","ws","lo","d","it","first","this","hi","sq"]
noncomputable def Nj:List Str:=[]
noncomputable def Sq:List Str:=["w","base","more_than","show"]
noncomputable def Qw(N n:Nat):SR:=
 (ar (am (aQ Ms al) (ap 4))
 (ar (am (aQ Ms al) (ap 5))
 (ar (am (Tk (ac 0)) (ap 6))
 (ar (gp (au (ac 6)) (ar (am (aD "set" (ac 6) al Dc) (ap 0))
 (ar (dn (kG (au (ai (ac 0) (ac 4) HO)) (kG (au (ai (ac 0) (ac 2) PZ)) lG)) (ar NY
 aq) aq)
 kA)) aq N)
 (ar (am Nm (ap 8))
 (ar (dn (zu (au (ac 5))) (ar (bq (ac 8))
 aq) aq)
 kA))))))
theorem TJ(P n cs L):bf (XX P 53 L cs La (aF Nj n)):=bf.of (by left) rfl rfl
theorem PU(P prog w os b N n cs L) :ah (TT P prog w os) b (XX P 53 L cs La (aF Nj n)) (cc P 53) (Qw   N n):=by
 have Z:=TJ P n cs L;exact
 (ah.cons (ax.assign (aa.tcall (aa.blt Z 11 rfl (by left) rfl) ak.nil NI) (aA.loc Z 4 rfl) (by left) (by left))
 (ah.cons (ax.assign (aa.tcall (aa.blt Z 11 rfl (by left) rfl) ak.nil NI) (aA.loc Z 5 rfl) (by left) (by left))
 (ah.cons (ax.assign (aa.sg (aa.loc Z 0 rfl) (by left)) (aA.loc Z 6 rfl) (by left) (by left))
 (ah.cons (ax.while N (bj.val (aa.loc Z 6 rfl)) (ah.cons (ax.assign (aa.meth F.plainAttrs_set JS F.type_set_pop (aa.loc Z 6 rfl) ak.nil HT) (aA.loc Z 0 rfl) (by left) (by left))
 (ah.cons (ax.ite (bj.bool (eI.or (bj.cmp (aa.loc Z 0 rfl) (aa.loc Z 4 rfl) Ld) (eI.or (bj.cmp (aa.loc Z 0 rfl) (aa.loc Z 2 rfl) OE) eI.orNil))) (ah.cons ax.cont
 ah.nil) ah.nil)
 ah.dead)) ah.nil)
 (ah.cons (ax.assign aa.dict (aA.loc Z 8 rfl) (by left) (by left))
 (ah.cons (ax.ite (bj.not (bj.val (aa.loc Z 5 rfl))) (ah.cons (ax.ret (aa.loc Z 8 rfl))
 ah.nil) ah.nil)
 ah.dead))))))
noncomputable def AR:List Str:=[]
noncomputable def zG:List Str:=["s","DIGLIM","inner","w5pow"]
noncomputable def Nh:List Str:=["s"]
noncomputable def za(P:Params):Stmt:=(cc P 60)[1]?.getD (.Pass default)
noncomputable def GZ(P:Params):Arguments:=match za P with|.FunctionDef _ p Z _ _ _ sc _ _ _=>p|_=>default
noncomputable def zj(P:Params):List Stmt:=match za P with|.FunctionDef _ p Z _ _ _ sc _ _ _=>Z|_=>default
noncomputable def yV(P:Params):Scope:=match za P with|.FunctionDef _ p Z _ _ _ sc _ _ _=>sc|_=>default
noncomputable def zg(P:Params):Str:=(cD P 60).qualname++".<locals>."++"inner"
noncomputable def qt(n:Nat):List (Str×Nat):=[("w5pow",(n+3)),("s",n),("inner",(n+2)),("DIGLIM",(n+1))]
noncomputable def qH:List Str:=["a","b"]
noncomputable def BU:List Str:=["a","b","mid"]
noncomputable def eG(P:Params)(n:Nat):PV:=.clo "inner" (zg P) (GZ P) (zj P) (yV P) (qt n)
noncomputable def Cy(P:Params)(F:CF)(N n:Nat):SR:=
 (ar (dn (au (ai (ai (ac 1) (ac 0) dB) (aI (n+1)) PZ)) (ar (bq (aQ PW (ae (eb (aI n) (eV (ac 0)) (eV (ac 1))) al)))
 aq) aq)
 (ar (am (ai (ai (ai (ac 0) (ac 1) bk) (ab (.int 1)) bk) (ab (.int 1)) fq) (ap 2))
 (ar (bq (ai (lU (eG P n) F (aI (n+2)) (ae (ac 2) (ae (ac 1) al))) (ai (ai (lU (eG P n) F (aI (n+2)) (ae (ac 0) (ae (ac 2) al))) (ai (aI (n+3)) (ai (ac 1) (ac 2) dB) aH) cO) (ai (ac 1) (ac 2) dB) fC) bk))
 aq)))
noncomputable def jD(P:Params)(N n:Nat):Nat->CF
 |0=>fun _ _ _=>none
 |k+1=>fm qH BU (Cy P (jD P N n k) N n)
noncomputable def Nq(P:Params)(Z L:Addr)(X:Value)(Y:List (Str×Addr))(n:Nat):Cx:=⟨nf (zg P) (yV P) Z L X Y,BU,qt n⟩
theorem RD(P fa L cd cl n):bf (Nq P fa L cd cl n):=bf.of (by left) rfl rfl
theorem Lg(P prog w os b N n fa L cd cl F)(Y:pq (TT P prog w os) b (eG P n) F):ah (TT P prog w os) b (Nq P fa L cd cl n) (zj P) (Cy P F N n):=by
 have Z:=RD P fa L cd cl n;exact
 (ah.cons (ax.ite (bj.cmp (aa.binop (aa.loc Z 1 rfl) (aa.loc Z 0 rfl) iX) (aa.cell Z 3 (n+1) rfl) OE) (ah.cons (ax.ret (aa.tcall (aa.blt Z 2 rfl (by left) rfl) (ak.cons (aa.slice (aa.cell Z 1 n rfl) (fX.yes (aa.loc Z 0 rfl)) (fX.yes (aa.loc Z 1 rfl))) ak.nil) SA))
 ah.nil) ah.nil)
 (ah.cons (ax.assign (aa.binop (aa.binop (aa.binop (aa.loc Z 0 rfl) (aa.loc Z 1 rfl) bG) (aa.int 1) bG) (aa.int 1) mu) (aA.loc Z 2 rfl) (by left) (by left))
 (ah.cons (ax.ret (aa.binop (aa.clo (aa.cell Z 2 (n+2) rfl) (ak.cons (aa.loc Z 2 rfl) (ak.cons (aa.loc Z 1 rfl) ak.nil)) Y) (aa.binop (aa.binop (aa.clo (aa.cell Z 2 (n+2) rfl) (ak.cons (aa.loc Z 0 rfl) (ak.cons (aa.loc Z 2 rfl) ak.nil)) Y) (aa.index (aa.cell Z 0 (n+3) rfl) (aa.binop (aa.loc Z 1 rfl) (aa.loc Z 2 rfl) iX)) dN) (aa.binop (aa.loc Z 1 rfl) (aa.loc Z 2 rfl) iX) mW) bG))
 ah.nil)))
theorem Jq(P):∀(W:List Value) (Z:List (Str×Addr)) (Y V:Value) (T:Option Addr) (X U:Value),W.length=qH.length->bindArgs (fnX "inner" (zg P) (GZ P) (zj P) (yV P) Z .none .none Y V T X U) ⟨W,[]⟩=pure (qH.zip W):=by
 intro W Z Y V T X U h;obtain⟨R,S,rfl⟩:=gA (h.trans (by left:qH.length=2));left
theorem qp(P prog w os N n):∀k b,k<=b->pq (TT P prog w os) b (eG P n) (jD P N n k)
 |0,_,_=>fun _ _ _ _ _ _ _ _ _ _ _ _ _ _ _ h=>by exact aZ h
 |k+1,b+1,h=>pq.step (by left) (by left) (Jq P) (by left) (iT (by left)) (iU (by left)) (by decide) (cQ (by left)) fun Z L X Y=>Lg P prog w os b N n Z L X Y _ (qp P prog w os N n k b (by exact(KK h)))
theorem zp(P n cs L):∀x∈qt n,x∈(XX P 60 L cs AR (aF zG n)).cv:=by
 intro x Z;have e:(XX P 60 L cs AR (aF zG n)).cv=[((Str.ofString "s"),n),((Str.ofString "DIGLIM"),(n+1)),((Str.ofString "inner"),(n+2)),((Str.ofString "w5pow"),(n+3))]:=by left
 rw [e];simp only [qt,cC,qI,vu]at Z ⊢
 rcases Z with rfl|rfl|rfl|rfl<;>simp
noncomputable def IV(P:Params)(Y:Nat)(Z:bz)(N n:Nat):SR:=
 (ar (am (ab (.int 2048)) (dQ (n+1)))
 (ar (sE (n+2) (eG P n))
 (ar (am (aY Z (ae (aQ dC (ae (aI n) al)) (ae (ab (.int 5)) (ae (aI (n+1)) al)))) (dQ (n+3)))
 (ar (bq (lU (eG P n) (jD P N n Y) (aI (n+2)) (ae (ab (.int 0)) (ae (aQ dC (ae (aI n) al)) al))))
 aq))))
theorem TI(P n cs L):bf (XX P 60 L cs AR (aF zG n)):=bf.of (by left) rfl rfl
theorem Px(P prog w os b N n cs L)(W:Nat)(V:W<=b){Y:bz}(X:FK P prog w os b 53 Y):ah (TT P prog w os) b (XX P 60 L cs AR (aF zG n)) (cc P 60) (IV P W Y N n):=by
 have Z:=TI P n cs L;exact
 (ah.cons (ax.assign (aa.int 2048) (aA.cell Z 1 (n+1) rfl (by left)) (by left) (by left))
 (ah.cons (ax.defn Z 2 (n+2) (P:=55) (c:=59) (cs:=qt n) rfl (by left) (show(55:Nat)∈[55,83,90]by decide) (by left) (fun h U=>nH U (by left)) (by left) (by left) (by left) (zp P n cs L) (cQ (by left)) (by left) (by left) (by left))
 (ah.cons (ax.assign (aa.call (aa.glob Z 3 rfl (by left) rfl) (ak.cons (aa.bcall (aa.blt Z 0 rfl (by left) rfl) (ak.cons (aa.cell Z 0 n rfl) ak.nil) jN) (ak.cons (aa.int 5) (ak.cons (aa.cell Z 1 (n+1) rfl) ak.nil))) X (SD P) (St P)) (aA.cell Z 3 (n+3) rfl (by left)) (by left) (by left))
 (ah.cons (ax.ret (aa.clo (aa.cell Z 2 (n+2) rfl) (ak.cons (aa.int 0) (ak.cons (aa.bcall (aa.blt Z 0 rfl (by left) rfl) (ak.cons (aa.cell Z 0 n rfl) ak.nil) jN) ak.nil)) (qp P prog w os N n W b V)))
 ah.nil))))
noncomputable def FG:List Str:=["s"]
noncomputable def Hj:List Str:=[]
noncomputable def LV:List Str:=["s"]
noncomputable def KA(Z:bz)(N n:Nat):SR:=
 (ar (am (jj (ac 0) (Str.ofString "_") (Str.ofString "")) (ap 0))
 (ar (bq (aY Z (ae (ac 0) al)))
 aq))
theorem TS(P n cs L):bf (XX P 67 L cs FG (aF Hj n)):=bf.of (by left) rfl rfl
theorem ON(P prog w os b N n cs L){Z:bz}(X:FK P prog w os b 60 Z):ah (TT P prog w os) b (XX P 67 L cs FG (aF Hj n)) (cc P 67) (KA  Z N n):=by
 have Y:=TS P n cs L;exact
 (ah.cons (ax.assign (aa.stripRepl (aa.loc Y 0 rfl)) (aA.loc Y 0 rfl) (by left) (by left))
 (ah.cons (ax.ret (aa.call (aa.glob Y 4 rfl (by left) rfl) (ak.cons (aa.loc Y 0 rfl) ak.nil) X (Rd P) (RC P)))
 ah.nil))
noncomputable def jI:List Str:=["a","b","q","r"]
noncomputable def jJ:List Str:=[]
noncomputable def tf:List Str:=["a","b"]
noncomputable def tB(Z:bz)(Y:bz)(N n:Nat):SR:=
 (ar (dn (au (ai (ac 1) (ab (.int 0)) fE)) (ar kA
 aq) (ar (dn (au (ai (ac 1) (ab (.int 0)) vJ)) (ar (am (aY Z (ae (ca (ac 0) eE) (ae (ca (ac 1) eE) al))) (dk 2 (aU (ap 2) (aU (ap 3) cp))))
 (ar (bq (bT (ae (ac 2) (ae (ca (ac 3) eE) al))))
 aq)) (ar (dn (au (ai (ac 0) (ab (.int 0)) vJ)) (ar (am (aY Z (ae (ca (ac 0) qS) (ae (ac 1) al))) (dk 2 (aU (ap 2) (aU (ap 3) cp))))
 (ar (bq (bT (ae (ca (ac 2) qS) (ae (ai (ac 1) (ca (ac 3) qS) bk) al))))
 aq)) (ar (bq (aY Y (ae (ac 0) (ae (ac 1) al))))
 aq))
 aq))
 aq))
 aq)
theorem NW(P n cs L):bf (XX P 109 L cs jI (aF jJ n)):=bf.of (by left) rfl rfl
theorem Ln(P prog w os b N n cs L){X:bz}{W:bz}(Y:FK P prog w os b 109 X)(V:FK P prog w os b 102 W):ah (TT P prog w os) b (XX P 109 L cs jI (aF jJ n)) (cc P 109) (tB  X W N n):=by
 have Z:=NW P n cs L;exact
 (ah.cons (ax.ite (bj.cmp (aa.loc Z 1 rfl) (aa.int 0) ij) (ah.cons ax.dead
 ah.nil) (ah.cons (ax.ite (bj.cmp (aa.loc Z 1 rfl) (aa.int 0) yB) (ah.cons (ax.assign (aa.call (aa.glob Z 12 rfl (by left) rfl) (ak.cons (aa.unop (aa.loc Z 0 rfl) kF) (ak.cons (aa.unop (aa.loc Z 1 rfl) kF) ak.nil)) Y (td P) (te P)) (aA.tup (br.cons (aA.loc Z 2 rfl) (br.cons (aA.loc Z 3 rfl) br.nil))) (by left) (by left))
 (ah.cons (ax.ret (aa.tup (ak.cons (aa.loc Z 2 rfl) (ak.cons (aa.unop (aa.loc Z 3 rfl) kF) ak.nil))))
 ah.nil)) (ah.cons (ax.ite (bj.cmp (aa.loc Z 0 rfl) (aa.int 0) yB) (ah.cons (ax.assign (aa.call (aa.glob Z 12 rfl (by left) rfl) (ak.cons (aa.unop (aa.loc Z 0 rfl) Hb) (ak.cons (aa.loc Z 1 rfl) ak.nil)) Y (td P) (te P)) (aA.tup (br.cons (aA.loc Z 2 rfl) (br.cons (aA.loc Z 3 rfl) br.nil))) (by left) (by left))
 (ah.cons (ax.ret (aa.tup (ak.cons (aa.unop (aa.loc Z 2 rfl) Hb) (ak.cons (aa.binop (aa.loc Z 1 rfl) (aa.unop (aa.loc Z 3 rfl) Hb) bG) ak.nil))))
 ah.nil)) (ah.cons (ax.ret (aa.call (aa.glob Z 11 rfl (by left) rfl) (ak.cons (aa.loc Z 0 rfl) (ak.cons (aa.loc Z 1 rfl) ak.nil)) V (NG P) (Nx P)))
 ah.nil))
 ah.nil))
 ah.nil))
 ah.nil)
noncomputable def JZ:List Str:=["addr","start","open_pos","result","pos","ch"]
noncomputable def Ir:List Str:=[]
noncomputable def MK:List Str:=["addr"]
noncomputable def JD(N n:Nat):SR:=
 (ar (dn (au (ai (ab (.str "\"")) (ac 0) mS)) (ar (bq (ac 0))
 aq) aq)
 (ar (am (ab (.int 0)) (ap 1))
 (ar (am (ab .none) (ap 2))
 (ar (am (bH al) (ap 3))
 (ar (er N (qr (ae (ac 0) al)) (dk 2 (aU (ap 4) (aU (ap 5) cp))) (ar (dn (au (ai (ac 5) (ab (.str "\"")) fE)) (ar (dn (au (ai (ac 2) (ab .none) MW)) (ar (am (ac 4) (ap 2))
 aq) (ar (dn (au (ai (ac 1) (ac 2) pA)) (ar (ck (aD "list" (ac 3) (ae (eb (ac 0) (eV (ac 1)) (eV (ac 2))) al) bu))
 aq) aq)
 (ar (am (ai (ac 4) (ab (.int 1)) bk) (ap 1))
 (ar (am (ab .none) (ap 2))
 aq))))
 aq) aq)
 aq) aq)
 (ar (dn (au (ai (ac 1) (aQ dC (ae (ac 0) al)) vJ)) (ar (ck (aD "list" (ac 3) (ae (eb (ac 0) (eV (ac 1)) gh) al) bu))
 aq) aq)
 (ar (bq (aD "str" (ab (.str "")) (ae (ac 3) al) jY))
 aq)))))))
theorem TB(P n cs L):bf (XX P 123 L cs JZ (aF Ir n)):=bf.of (by left) rfl rfl
theorem OS(P prog w os b N n cs L)  (Y:mt (TT P prog w os) b 116):ah (TT P prog w os) b (XX P 123 L cs JZ (aF Ir n)) (cc P 123) (JD   N n):=by
 have Z:=TB P n cs L;exact
 (ah.cons (ax.ite (bj.cmp (aa.str "\"") (aa.loc Z 0 rfl) yw) (ah.cons (ax.ret (aa.loc Z 0 rfl))
 ah.nil) ah.nil)
 (ah.cons (ax.assign (aa.int 0) (aA.loc Z 1 rfl) (by left) (by left))
 (ah.cons (ax.assign aa.none (aA.loc Z 2 rfl) (by left) (by left))
 (ah.cons (ax.assign (aa.list ak.nil) (aA.loc Z 3 rfl) (by left) (by left))
 (ah.cons (ax.for N (bR.esc (aa.glob Z 13 rfl (by left) rfl) (ak.cons (aa.loc Z 0 rfl) ak.nil) Y (PI P) (Qs P)) (aA.tup (br.cons (aA.loc Z 4 rfl) (br.cons (aA.loc Z 5 rfl) br.nil))) (ah.cons (ax.ite (bj.cmp (aa.loc Z 5 rfl) (aa.str "\"") ij) (ah.cons (ax.ite (bj.cmp (aa.loc Z 2 rfl) aa.none Ge) (ah.cons (ax.assign (aa.loc Z 4 rfl) (aA.loc Z 2 rfl) (by left) (by left))
 ah.nil) (ah.cons (ax.ite (bj.cmp (aa.loc Z 1 rfl) (aa.loc Z 2 rfl) wF) (ah.cons (ax.expr (aa.meth ik ky kO (aa.loc Z 3 rfl) (ak.cons (aa.slice (aa.loc Z 0 rfl) (fX.yes (aa.loc Z 1 rfl)) (fX.yes (aa.loc Z 2 rfl))) ak.nil) dL) rfl)
 ah.nil) ah.nil)
 (ah.cons (ax.assign (aa.binop (aa.loc Z 4 rfl) (aa.int 1) bG) (aA.loc Z 1 rfl) (by left) (by left))
 (ah.cons (ax.assign aa.none (aA.loc Z 2 rfl) (by left) (by left))
 ah.nil))))
 ah.nil) ah.nil)
 ah.nil) ah.nil)
 (ah.cons (ax.ite (bj.cmp (aa.loc Z 1 rfl) (aa.bcall (aa.blt Z 0 rfl (by left) rfl) (ak.cons (aa.loc Z 0 rfl) ak.nil) jN) yB) (ah.cons (ax.expr (aa.meth ik ky kO (aa.loc Z 3 rfl) (ak.cons (aa.slice (aa.loc Z 0 rfl) (fX.yes (aa.loc Z 1 rfl)) fX.no) ak.nil) dL) rfl)
 ah.nil) ah.nil)
 (ah.cons (ax.ret (aa.meth cr rc qG (aa.str "") (ak.cons (aa.loc Z 3 rfl) ak.nil) qk))
 ah.nil)))))))
noncomputable def Gw:List Str:=["addr","opens","pos","ch"]
noncomputable def Hl:List Str:=[]
noncomputable def Ng:List Str:=["addr"]
noncomputable def Jl(Z:bz)(N n:Nat):SR:=
 (ar (am (aY Z (ae (ac 0) al)) (ap 0))
 (ar (am (ab (.int 0)) (ap 1))
 (ar (er N (qr (ae (ac 0) al)) (dk 2 (aU (ap 2) (aU (ap 3) cp))) (ar (dn (au (ai (ac 3) (ab (.str "(")) fE)) (ar (fA (ac 1) (ab (.int 1)) gv (ap 1))
 aq) (ar (dn (au (ai (ac 3) (ab (.str ")")) fE)) (ar (fA (ac 1) (ab (.int 1)) dB (ap 1))
 (ar (dn (au (ai (ac 1) (ab (.int 0)) vJ)) (ar (bq (ab (.bool false)))
 aq) aq)
 aq)) aq)
 aq))
 aq) aq)
 (ar (bq (ai (ac 1) (ab (.int 0)) fE))
 aq))))
theorem Uk(P n cs L):bf (XX P 130 L cs Gw (aF Hl n)):=bf.of (by left) rfl rfl
theorem Qm(P prog w os b N n cs L){X:bz}(W:FK P prog w os b 123 X)(Y:mt (TT P prog w os) b 116):ah (TT P prog w os) b (XX P 130 L cs Gw (aF Hl n)) (cc P 130) (Jl  X N n):=by
 have Z:=Uk P n cs L;exact
 (ah.cons (ax.assign (aa.call (aa.glob Z 14 rfl (by left) rfl) (ak.cons (aa.loc Z 0 rfl) ak.nil) W (Sc P) (SP P)) (aA.loc Z 0 rfl) (by left) (by left))
 (ah.cons (ax.assign (aa.int 0) (aA.loc Z 1 rfl) (by left) (by left))
 (ah.cons (ax.for N (bR.esc (aa.glob Z 13 rfl (by left) rfl) (ak.cons (aa.loc Z 0 rfl) ak.nil) Y (PI P) (Qs P)) (aA.tup (br.cons (aA.loc Z 2 rfl) (br.cons (aA.loc Z 3 rfl) br.nil))) (ah.cons (ax.ite (bj.cmp (aa.loc Z 3 rfl) (aa.str "(") ij) (ah.cons (ax.augLoc Z 1 rfl (aa.int 1) nV)
 ah.nil) (ah.cons (ax.ite (bj.cmp (aa.loc Z 3 rfl) (aa.str ")") ij) (ah.cons (ax.augLoc Z 1 rfl (aa.int 1) AK)
 (ah.cons (ax.ite (bj.cmp (aa.loc Z 1 rfl) (aa.int 0) yB) (ah.cons (ax.ret (aa.bool false))
 ah.nil) ah.nil)
 ah.nil)) ah.nil)
 ah.nil))
 ah.nil) ah.nil)
 (ah.cons (ax.ret (aa.cmp (aa.loc Z 1 rfl) (aa.int 0) ij))
 ah.nil))))
noncomputable def xY:List Str:=["self","value","name","regex"]
noncomputable def xX:List Str:=[]
noncomputable def BO:List Str:=["self","value","name"]
noncomputable def BT(N n:Nat):SR:=
 (ar (dn (au (ai (aQ DC (ae (ac 1) al)) (ab (.val (.type "str"))) MW)) (ar (am (ga (au (ac 2)) (ab (.val (.ref 140))) (ab (.val (.ref 145)))) (ap 3))
 (ar (dn (au (QC [140,145] (ac 3) (ae (ac 1) al))) (ar kA
 aq) aq)
 (ar (bq (ac 1))
 aq))) aq)
 (ar kA
 aq))
theorem RI(P n cs L):bf (XX P 175 L cs xY (aF xX n)):=bf.of (by left) rfl rfl
theorem MO(P prog w os b N n cs L) :ah (TT P prog w os) b (XX P 175 L cs xY (aF xX n)) (cc P 175) (BT   N n):=by
 have Z:=RI P n cs L;exact
 (ah.cons (ax.ite (bj.cmp (aa.tcall (aa.blt Z 6 rfl (by left) rfl) (ak.cons (aa.loc Z 1 rfl) ak.nil) FW) (aa.blt Z 1 rfl (by left) rfl) Ge) (ah.cons (ax.assign (aa.ifexp (bj.val (aa.loc Z 2 rfl)) (aa.glob Z 17 rfl (by left) rfl) (aa.glob Z 18 rfl (by left) rfl)) (aA.loc Z 3 rfl) (by left) (by left))
 (ah.cons (ax.ite (bj.val (aa.reSearch (Ui P) (aa.loc Z 3 rfl) (ak.cons (aa.loc Z 1 rfl) ak.nil))) (ah.cons ax.dead
 ah.nil) ah.nil)
 (ah.cons (ax.ret (aa.loc Z 1 rfl))
 ah.nil))) ah.nil)
 (ah.cons ax.dead
 ah.nil))
noncomputable def xT:List Str:=["self"]
noncomputable def wP:List Str:=["name"]
noncomputable def Bf:List Str:=["self","name"]
noncomputable def vR(Z:bz)(N n:Nat):SR:=
 (ar (am (dX 274 Z (ac 0) (ae (aD "str" (aI n) al cR) al) (ab (.bool true))) (dQ n))
 (ar (bq (dq N 1 (cy (ca (ac 0) (ms 274))) (ap 0) (au (ai (aD "str" (ai (ac 0) (ab (.int 0)) aH) al cR) (aI n) fE)) (ai (ac 0) (ab (.int 1)) aH)))
 aq))
theorem RX(P n cs L):bf (XX P 213 L cs xT (aF wP n)):=bf.of (by left) rfl rfl
theorem MS(P prog w os b N n cs L){Y:bz}(X:fy (TT P prog w os) b (.ref 175) (pt (Str.ofString "name")) Y):ah (TT P prog w os) b (XX P 213 L cs xT (aF wP n)) (cc P 213) (vR  Y N n):=by
 have W:=RX P n cs L;exact
 (ah.cons (ax.assign (aa.hcallK (gk P) (by left) (by left) (by left) (aa.loc W 0 rfl) (ak.cons (aa.meth cr oB oM (aa.cell W 0 n rfl) ak.nil ip) ak.nil) (aa.bool true) X (we P) (yE P)) (aA.cell W 0 n rfl (by left)) (by left) (by left))
 (ah.cons (ax.ret (aa.comp (vars:=[(Str.ofString "kv")]) (cvn:=[((Str.ofString "name"),n)]) (js:=[0]) N (bR.val (aa.headers (gk P) (aa.loc W 0 rfl))) (by left) (by left) (fun U V=>have Z:bf (cu _ _ [(Str.ofString "kv")] [((Str.ofString "name"),n)] V U):=bf.of (by left) rfl rfl;⟨(aA.loc Z 0 rfl),(dR.one (bj.cmp (aa.meth cr oB oM (aa.index (aa.loc Z 0 rfl) (aa.int 0)) ak.nil ip) (aa.cell Z 0 n rfl) ij)),(aa.index (aa.loc Z 0 rfl) (aa.int 1))⟩)))
 ah.nil))
noncomputable def yl:List Str:=["self"]
noncomputable def xU:List Str:=[]
noncomputable def Bw:List Str:=["self"]
noncomputable def BY(N n:Nat):SR:=
 (ar (bq (dq N 2 (cy (ca (ac 0) (ms 274))) (dk 2 (aU (ap 0) (aU (ap 1) cp))) ff (ac 0)))
 aq)
theorem Rt(P n cs L):bf (XX P 226 L cs yl (aF xU n)):=bf.of (by left) rfl rfl
theorem Lh(P prog w os b N n cs L) :ah (TT P prog w os) b (XX P 226 L cs yl (aF xU n)) (cc P 226) (BY   N n):=by
 have X:=Rt P n cs L;exact
 (ah.cons (ax.ret (aa.comp (vars:=[(Str.ofString "k"),(Str.ofString "v")]) (cvn:=[]) (js:=[]) N (bR.val (aa.headers (gk P) (aa.loc X 0 rfl))) (by left) (by left) (fun W Y=>have Z:bf (cu _ _ [(Str.ofString "k"),(Str.ofString "v")] [] Y W):=bf.of (by left) rfl rfl;⟨(aA.tup (br.cons (aA.loc Z 0 rfl) (br.cons (aA.loc Z 1 rfl) br.nil))),dR.nil,(aa.loc Z 0 rfl)⟩)))
 ah.nil)
noncomputable def vU:List Str:=["self"]
noncomputable def wZ:List Str:=[]
noncomputable def CR:List Str:=["self"]
noncomputable def Dg(N n:Nat):SR:=
 (ar (bq (eb (ca (ac 0) (ms 274)) gh gh))
 aq)
theorem Rw(P n cs L):bf (XX P 238 L cs vU (aF wZ n)):=bf.of (by left) rfl rfl
theorem Ni(P prog w os b N n cs L) :ah (TT P prog w os) b (XX P 238 L cs vU (aF wZ n)) (cc P 238) (Dg   N n):=by
 have Z:=Rw P n cs L;exact
 (ah.cons (ax.ret (aa.slice (aa.headers (gk P) (aa.loc Z 0 rfl)) fX.no fX.no))
 ah.nil)
noncomputable def xG:List Str:=["self","_name","_value","_params","parts","k","v"]
noncomputable def vZ:List Str:=[]
noncomputable def Bh:List Str:=["self","_name","_value","_params"]
noncomputable def wg(Z:bz)(N n:Nat):SR:=
 (ar (am (bH al) (ap 4))
 (ar (dn (au (ai (ac 2) (ab .none) dI)) (ar (am (dX 274 Z (ac 0) (ae (ac 2) al) (ab (.bool false))) (ap 2))
 (ar (ck (aD "list" (ac 4) (ae (ac 2) al) bu))
 aq)) aq)
 (ar (kU (ac 3))
 (ar (ck (aD "list" (ca (ac 0) (ms 274)) (ae (bT (ae (dX 274 Z (ac 0) (ae (ac 1) al) (ab (.bool true))) (ae (aD "str" (ab (.str "; ")) (ae (ac 4) al) jY) al))) al) bu))
 aq))))
theorem Rm(P n cs L):bf (XX P 271 L cs xG (aF vZ n)):=bf.of (by left) rfl rfl
theorem Mm(P prog w os b N n cs L){X:bz}(Y:fy (TT P prog w os) b (.ref 175) (pt (Str.ofString "name")) X):ah (TT P prog w os) b (XX P 271 L cs xG (aF vZ n)) (cc P 271) (wg  X N n):=by
 have Z:=Rm P n cs L;exact
 (ah.cons (ax.assign (aa.list ak.nil) (aA.loc Z 4 rfl) (by left) (by left))
 (ah.cons (ax.ite (bj.cmp (aa.loc Z 2 rfl) aa.none fW) (ah.cons (ax.assign (aa.hcallK (gk P) (by left) (by left) (by left) (aa.loc Z 0 rfl) (ak.cons (aa.loc Z 2 rfl) ak.nil) (aa.bool false) Y (we P) (yE P)) (aA.loc Z 2 rfl) (by left) (by left))
 (ah.cons (ax.expr (aa.meth ik ky kO (aa.loc Z 4 rfl) (ak.cons (aa.loc Z 2 rfl) ak.nil) dL) rfl)
 ah.nil)) ah.nil)
 (ah.cons (ax.forItems0 (aa.loc Z 3 rfl))
 (ah.cons (ax.expr (aa.meth ik ky kO (aa.headers (gk P) (aa.loc Z 0 rfl)) (ak.cons (aa.tup (ak.cons (aa.hcallK (gk P) (by left) (by left) (by left) (aa.loc Z 0 rfl) (ak.cons (aa.loc Z 1 rfl) ak.nil) (aa.bool true) Y (we P) (yE P)) (ak.cons (aa.meth cr rc qG (aa.str "; ") (ak.cons (aa.loc Z 4 rfl) ak.nil) qk) ak.nil))) ak.nil) dL) rfl)
 ah.nil))))
theorem mG{P:Params}{Z:Program}{w:World}{os:OsState}{b k:Nat}{pn W T:List Str}{M:List Value->Args}{V:Nat->List PV}{U:List AO}{f:Nat->SR}(I:(TT P Z w os).K.lookup k=some (bJ P k))(J:(bJ P k).data=.func (cD P k))
  (X:bp (TT P Z w os) (cD P k) M pn V U) (Y:∀n L y,ah (TT P Z w os) b (XX P k L y T (aF W n)) (cc P k) (f n))
  (z:(cD P k).scope.isCoroutine=false:=by left) (A:(cD P k).scope.isGenerator=false:=by left) (B:(cD P k).body=.stmts (cc P k):=by left) (C:(cD P k).globals=mainGlobals:=by left) (D:(cD P k).builtins=builtinsNs:=by left) (E:(cD P k).closure=[]:=by left)
  (F:codeIn (TT P Z w os).K (cD P k).code (cD P k).qualname=true:=by left) (G:(cD P k).scope.kind=.function:=by left) (H:df (cD P k).scope.names=W:=by left) (N:iI W=true:=by left)
  (O:pn.all (fun x=>decide ((cD P k).scope.names.lookup x=some .local)||(decide ((cD P k).scope.names.lookup x=some .cell)&&W.contains x))=true:=by left) (Q:W.all (fun x=>!decide ((cD P k).scope.names.lookup x=some .local))=true:=by left)
  (R:T.all (fun x=>decide ((cD P k).scope.names.lookup x=some .local))=true:=by left) (S:iI pn=true:=by left):fy (TT P Z w os) (b+1) (.ref k) M (bW pn W T V U f):=
 fy.of_cells I J z A (body:=cc P k) B C D E (jB F) X G H (cQ N) (wA O) (sZ Q) (iU R) (cQ S) Y
theorem EW(P)(Y Z:Value):bindArgs (cD P 45) ((fun X=>⟨X,[]⟩) [Y,Z])=pure (Cg.zip [Y,Z]):=by left
theorem Qc(P prog w os b N) :FK P prog w os (b+1) 45 (bW Cg xp wt (fun _=>[]) [] (fun n=>ya  N n)):=
 mG (xv P) (xw P)
 (bp.eq fun V X=>by
  obtain⟨Y,Z,rfl⟩:=gA X;exact EW P Y Z)
 (fun n L W=>Nk P prog w os b N n W L  )
theorem SN(P prog w os b N) :FK P prog w os (b+1) 53 (bW Sq Nj La (fun _=>[.bool false]) [] (fun n=>Qw  N n)):=
 mG (SD P) (St P)
 (bp.dflt (dps:=[.bool false]) (dvs:=[.bool false]) (fun W=>⟨_,_,rfl,rfl,rfl⟩) fun V Z s Y=>by
  obtain⟨R,S,U,rfl⟩:=qu (zM Z);exact HU (T:=46) (o:=bJ P 46) (by left) (Y _ _ (by left)) (by rfl) (by rfl) (by rfl))
 (fun n L X=>PU P prog w os b N n X L  )
theorem Mp(P)(Z:Value):bindArgs (cD P 60) ((fun Y=>⟨Y,[]⟩) [Z])=pure (Nh.zip [Z]):=by left
theorem SV(P prog w os b N)(X:Nat)(U:X<=b){Z:bz}(Y:FK P prog w os b 53 Z):FK P prog w os (b+1) 60 (bW Nh zG AR (fun _=>[]) [] (fun n=>IV P X Z N n)):=
 mG (Rd P) (RC P)
 (bp.eq fun S V=>by
  obtain⟨W,rfl⟩:=iS V;exact Mp P W)
 (fun n L T=>Px P prog w os b N n T L X U Y)
theorem MA(P)(Z:Value):bindArgs (cD P 67) ((fun Y=>⟨Y,[]⟩) [Z])=pure (LV.zip [Z]):=by left
theorem SQ(P prog w os b N){Z:bz}(Y:FK P prog w os b 60 Z):FK P prog w os (b+1) 67 (bW LV Hj FG (fun _=>[]) [] (fun n=>KA  Z N n)):=
 mG (Pj P) (Os P)
 (bp.eq fun U W=>by
  obtain⟨X,rfl⟩:=iS W;exact MA P X)
 (fun n L V=>ON P prog w os b N n V L  Y)
theorem LF(P)(X Y Z:Value):bindArgs (cD P 74) ((fun W=>⟨W,[]⟩) [X,Y,Z])=pure (He.zip [X,Y,Z]):=by left
theorem NS(P prog w os b N){Z:bz}(Y:FK P prog w os b 81 Z):FK P prog w os (b+1) 74 (bW He DJ Eg (fun _=>[]) [] (fun n=>ED  Z N n)):=
 mG (Og P) (On P)
 (bp.eq fun S U=>by
  obtain⟨V,W,X,rfl⟩:=qu U;exact LF P V W X)
 (fun n L T=>QA P prog w os b N n T L  Y)
theorem LI(P)(U V W X Y Z:Value):bindArgs (cD P 81) ((fun T=>⟨T,[]⟩) [U,V,W,X,Y,Z])=pure (Lq.zip [U,V,W,X,Y,Z]):=by left
theorem QY(P prog w os b N){Z:bz}(Y:FK P prog w os b 74 Z):FK P prog w os (b+1) 81 (bW Lq Kk IW (fun _=>[]) [] (fun n=>Lb  Z N n)):=
 mG (Qe P) (OH P)
 (bp.eq fun O R=>by
  obtain⟨S,T,U,V,W,X,rfl⟩:=RP R;exact LI P S T U V W X)
 (fun n L Q=>Ph P prog w os b N n Q L  Y)
theorem GV(P)(Y Z:Value):bindArgs (cD P 88) ((fun X=>⟨X,[]⟩) [Y,Z])=pure (BA.zip [Y,Z]):=by left
theorem OX(P prog w os b N)(Z:Nat)(V:Z<=b) :FK P prog w os (b+1) 88 (bW BA rT rC (fun _=>[]) [] (fun n=>sW P Z N n)):=
 mG (NO P) (Nt P)
 (bp.eq fun T W=>by
  obtain⟨X,Y,rfl⟩:=gA W;exact GV P X Y)
 (fun n L U=>LM P prog w os b N n U L Z V )
theorem Fq(P)(Y Z:Value):bindArgs (cD P 95) ((fun X=>⟨X,[]⟩) [Y,Z])=pure (CD.zip [Y,Z]):=by left
theorem Pb(P prog w os b N)(Z:Nat)(V:Z<=b) :FK P prog w os (b+1) 95 (bW CD qy rr (fun _=>[]) [] (fun n=>tN P Z N n)):=
 mG (NJ P) (NU P)
 (bp.eq fun T W=>by
  obtain⟨X,Y,rfl⟩:=gA W;exact Fq P X Y)
 (fun n L U=>LE P prog w os b N n U L Z V )
theorem IQ(P)(Y Z:Value):bindArgs (cD P 102) ((fun X=>⟨X,[]⟩) [Y,Z])=pure (Ci.zip [Y,Z]):=by left
theorem Pe(P prog w os b N){Y:bz}{V:bz}{Z:bz}(W:FK P prog w os b 88 Y)(U:FK P prog w os b 74 V)(X:FK P prog w os b 95 Z):FK P prog w os (b+1) 102 (bW Ci xH xd (fun _=>[]) [] (fun n=>AW  Y V Z N n)):=
 mG (NG P) (Nx P)
 (bp.eq fun O R=>by
  obtain⟨S,T,rfl⟩:=gA R;exact IQ P S T)
 (fun n L Q=>Mn P prog w os b N n Q L  W U X)
theorem yA(P)(Y Z:Value):bindArgs (cD P 109) ((fun X=>⟨X,[]⟩) [Y,Z])=pure (tf.zip [Y,Z]):=by left
theorem zO(P prog w os b N){Z:bz}{Y:bz}(X:FK P prog w os b 109 Z)(W:FK P prog w os b 102 Y):FK P prog w os (b+1) 109 (bW tf jJ jI (fun _=>[]) [] (fun n=>tB  Z Y N n)):=
 mG (td P) (te P)
 (bp.eq fun R T=>by
  obtain⟨U,V,rfl⟩:=gA T;exact yA P U V)
 (fun n L S=>Ln P prog w os b N n S L  X W)
theorem MH(P)(Z:Value):bindArgs (cD P 123) ((fun Y=>⟨Y,[]⟩) [Z])=pure (MK.zip [Z]):=by left
theorem Se(P prog w os b N)  (Z:mt (TT P prog w os) b 116):FK P prog w os (b+1) 123 (bW MK Ir JZ (fun _=>[]) [] (fun n=>JD  N n)):=
 mG (Sc P) (SP P)
 (bp.eq fun V X=>by
  obtain⟨Y,rfl⟩:=iS X;exact MH P Y)
 (fun n L W=>OS P prog w os b N n W L   Z)
theorem Mg(P)(Z:Value):bindArgs (cD P 130) ((fun Y=>⟨Y,[]⟩) [Z])=pure (Ng.zip [Z]):=by left
theorem Rr(P prog w os b N){Y:bz}(X:FK P prog w os b 123 Y)(Z:mt (TT P prog w os) b 116):FK P prog w os (b+1) 130 (bW Ng Hl Gw (fun _=>[]) [] (fun n=>Jl  Y N n)):=
 mG (PQ P) (PT P)
 (bp.eq fun T V=>by
  obtain⟨W,rfl⟩:=iS V;exact Mg P W)
 (fun n L U=>Qm P prog w os b N n U L  X Z)
theorem Ff(P)(X Y Z:Value):bindArgs (cD P 175) ((pt (Str.ofString "name")) [X,Y,Z])=pure (BO.zip [X,Y,Z]):=by left
theorem OW(P prog w os b N) :fy (TT P prog w os) (b+1) (.ref 175) (pt (Str.ofString "name")) (bW BO xX xY (fun _=>[]) [] (fun n=>BT  N n)):=
 mG (we P) (yE P)
 (bp.eq fun U W=>by
  obtain⟨X,Y,Z,rfl⟩:=qu W;exact Ff P X Y Z)
 (fun n L V=>MO P prog w os b N n V L  )
theorem Fa(P)(Y Z:Value):bindArgs (cD P 213) ((fun X=>⟨X,[]⟩) [Y,Z])=pure (Bf.zip [Y,Z]):=by left
theorem Pg(P prog w os b N){Z:bz}(Y:fy (TT P prog w os) b (.ref 175) (pt (Str.ofString "name")) Z):FK P prog w os (b+1) 213 (bW Bf wP xT (fun _=>[]) [] (fun n=>vR  Z N n)):=
 mG (ES P) (Iy P)
 (bp.eq fun T V=>by
  obtain⟨W,X,rfl⟩:=gA V;exact Fa P W X)
 (fun n L U=>MS P prog w os b N n U L  Y)
theorem Ib(P)(Z:Value):bindArgs (cD P 226) ((fun Y=>⟨Y,[]⟩) [Z])=pure (Bw.zip [Z]):=by left
theorem Qq(P prog w os b N) :FK P prog w os (b+1) 226 (bW Bw xU yl (fun _=>[]) [] (fun n=>BY  N n)):=
 mG (Cl P) (CG P)
 (bp.eq fun W Y=>by
  obtain⟨Z,rfl⟩:=iS Y;exact Ib P Z)
 (fun n L X=>Lh P prog w os b N n X L  )
theorem FY(P)(Z:Value):bindArgs (cD P 238) ((fun Y=>⟨Y,[]⟩) [Z])=pure (CR.zip [Z]):=by left
theorem Qp(P prog w os b N) :FK P prog w os (b+1) 238 (bW CR wZ vU (fun _=>[]) [] (fun n=>Dg  N n)):=
 mG (Br P) (CU P)
 (bp.eq fun W Y=>by
  obtain⟨Z,rfl⟩:=iS Y;exact FY P Z)
 (fun n L X=>Ni P prog w os b N n X L  )
theorem FX(P)(X Y Z:Value):bindArgs (cD P 271) ⟨[X,Y,Z],[]⟩=(alloc {cls:=.type "dict",data:=.dict #[]} >>= fun d=>pure (Bh.zip ([X,Y,Z]++[.ref d]))):=by left
theorem Ox(P prog w os b N){Z:bz}(Y:fy (TT P prog w os) b (.ref 175) (pt (Str.ofString "name")) Z):FK P prog w os (b+1) 271 (bW Bh vZ xG (fun n=>[.loc n]) [.dict []] (fun n=>wg  Z N n)):=
 mG (CP P) (Df P)
 (bp.kw fun S U=>by
  obtain⟨V,W,X,rfl⟩:=qu (zM U);exact FX P V W X)
 (fun n L T=>Mm P prog w os b N n T L  Y)
set_option maxHeartbeats 2000000 in
theorem EN(P)(v:Value)(s:Shared)(Z:Frag.In (hd.heap_1 P) s.heap):BindsTo s (cD P 168) ⟨[v],[]⟩ ([("self",v),("headers",Value.none)]:List (Str×Value)):=
 HU (T:=161) (o:=bJ P 161) (by left) (Z _ _ (by left)) (by rfl) (by rfl) (by rfl)
theorem Lm(P prog w os b):rG (TT P prog w os) (b+2) 274:=by
 have Y:∀L,bf ⟨nf (cD P 168).qualname (cD P 168).scope 168 L (cD P 168).code [],([("self":Str),"headers","k","v"]:List Str),[]⟩:=fun L=>bf.of (by left) rfl rfl
 refine rG.of (f1:=am (ga (au (ai (ac 1) (ab .none) dI)) (ac 1) (bH al)) (ap 1)) (f2:=dn (au (ai (aQ DC (ae (ac 1) al)) (ab (.val (.type "list"))) dI)) (ar kA aq) aq)
  (f4:=ar (dn (au (ab (.bool true))) (ar (er 1 (cy (ac 1)) (dk 2 (aU (ap 2) (aU (ap 3) cp))) kA aq) aq) aq) aq)
  (Qh P) (by left) (by left) (by left) (SS P) (RS P) (by left) (by left) rfl (by left) (by left) (by left) (jB (by left)) (EN P) (iT (by left)) Y (fun _=>by left) (fun L=>?_) (fun L=>?_) (fun L=>?_) (fun p st Z=>?_) (fun p st Z=>?_) (fun p st Z=>?_)
 .exact ax.assign (aa.ifexp (bj.cmp (aa.loc (Y L) 1) aa.none fW) (aa.loc (Y L) 1) (aa.list ak.nil)) (aA.loc (Y L) 1) (by left) (by left)
 .exact ax.ite (bj.cmp (aa.tcall (aa.blt (Y L) 6) (ak.cons (aa.loc (Y L) 1) ak.nil) FW) (aa.blt (Y L) 12) fW) (ah.cons ax.dead ah.nil) ah.nil
 .exact ah.cons (ax.ite (bj.val (aa.bool true)) (ah.cons (ax.for 1 (bR.val (aa.loc (Y L) 1)) (aA.tup (br.cons (aA.loc (Y L) 2) (br.cons (aA.loc (Y L) 3) br.nil))) ah.dead ah.nil) ah.nil) ah.nil) ah.nil
 .rfl
 .have T:PySem.plainIs (.type "list") (.type "list")=true:=by decide
  have W:List.lookup Z ((Z,AO.list [])::st)=some (.list []):=EV;generalize X:(⟨[some p,cL Z,none,none],(Z,.list [])::st,Z+1⟩:AS)=S;have U:aQ DC (ae (ac 1) al) S=some (.val (.type "list"),S):=by
   have V:S.st.lookup Z=some (.list []):=by subst X;exact W
   have e:sJ Z (fun _ σ=>some (PV.val (.type "list"),σ)) S=some (PV.val (.type "list"),S):=nu V;exact(bi (p:=[PV.loc Z]) (σ₁:=S) (by subst X;rfl)).trans e
  have R:OU (.val (.type "list")) (.val (.type "list"))=some true:=(aJ (e:=none) T).trans (by decide);have Q:au (ai (aQ DC (ae (ac 1) al)) (ab (.val (.type "list"))) dI) S=some (false,S):=
   (bi (p:=.bool false) (σ₁:=S) ((bi U).trans ((bi (p:=.val (.type "list")) (σ₁:=S) rfl).trans (by show(OU _ _).bind _=_;rw [R];rfl)))).trans rfl
  exact(bi Q).trans rfl
 .have W:List.lookup Z ((Z,AO.list [])::st)=some (.list []):=EV
  generalize X:(⟨[some p,cL Z,none,none],(Z,.list [])::st,Z+1⟩:AS)=S;have J:tm (.loc Z) S=some (.lst Z 0):=by subst X;show(cN (List.lookup Z _)).bind _=_;rw [W];rfl
  have M:jU S (.lst Z 0)=some none:=by subst X;show(cN (List.lookup Z _)).bind _=_;rw [W];rfl
  have N:cy (ac 1) S=some (.lst Z 0,S):=(bi (p:=.loc Z) (σ₁:=S) (by subst X;rfl)).trans (by rw [J];rfl);have O:er 1 (cy (ac 1)) (dk 2 (aU (ap 2) (aU (ap 3) cp))) kA aq S=some (.next,S):=by
   show(match cy (ac 1) S with|some (k,σ₁)=>_|none=>_)=_;rw [N];show(match jU S (.lst Z 0)with|some (some (p,I))=>_|some none=>_|none=>_)=_;rw [M];rfl
  exact(bi (g:=GM aq) ((bi (p:=true) (σ₁:=S) rfl).trans ((bi (g:=GM aq) O).trans rfl))).trans rfl
noncomputable def yi:List Str:=["self"]
noncomputable def wU:List Str:=["name"]
noncomputable def Cb:List Str:=["self","name"]
noncomputable def yp(Z:bz)(N n:Nat):SR:=
 (ar (am (dX 274 Z (ac 0) (ae (aD "str" (aI n) al cR) al) (ab (.bool true))) (dQ n))
 (ar (am (dq N 1 (cy (ca (ac 0) (ms 274))) (ap 0) (au (ai (aD "str" (ai (ac 0) (ab (.int 0)) aH) al cR) (aI n) pA)) (ac 0)) (GS (ca (ac 0) (ms 274))))
 aq))
theorem SL(P n cs L):bf (XX P 194 L cs yi (aF wU n)):=bf.of (by left) rfl rfl
theorem Mw(P prog w os b N n cs L){Y:bz}(W:fy (TT P prog w os) b (.ref 175) (pt (Str.ofString "name")) Y):ah (TT P prog w os) b (XX P 194 L cs yi (aF wU n)) (cc P 194) (yp  Y N n):=by
 have X:=SL P n cs L;exact
 (ah.cons (ax.assign (aa.hcallK (gk P) (by left) (by left) (by left) (aa.loc X 0 rfl) (ak.cons (aa.meth cr oB oM (aa.cell X 0 n rfl) ak.nil ip) ak.nil) (aa.bool true) W (we P) (yE P)) (aA.cell X 0 n rfl (by left)) (by left) (by left))
 (ah.cons (ax.assign (aa.comp (vars:=[(Str.ofString "kv")]) (cvn:=[((Str.ofString "name"),n)]) (js:=[0]) N (bR.val (aa.headers (gk P) (aa.loc X 0 rfl))) (by left) (by left) (fun U V=>have Z:bf (cu _ _ [(Str.ofString "kv")] [((Str.ofString "name"),n)] V U):=bf.of (by left) rfl rfl;⟨(aA.loc Z 0 rfl),(dR.one (bj.cmp (aa.meth cr oB oM (aa.index (aa.loc Z 0 rfl) (aa.int 0)) ak.nil ip) (aa.cell Z 0 n rfl) wF)),(aa.loc Z 0 rfl)⟩)) (aA.all (aa.headers (gk P) (aa.loc X 0 rfl))) (by left) (by left))
 ah.nil))
noncomputable def xh:List Str:=["script","cells","k"]
noncomputable def wn:List Str:=[]
noncomputable def CL:List Str:=["script"]
noncomputable def By(N n:Nat):SR:=
 (ar (am (bH (ae (ab (.int 1)) (ae (ab (.int 1)) (ae (ab (.int 1)) (ae (ab (.int 1)) (ae (ab (.int 1)) (ae (ab (.int 1)) (ae (ab (.int 0)) (ae (ab (.int 1)) (ae (ab (.int 3)) (ae (ab (.int 7)) (ae (ab (.int 12)) (ae (ab (.int 20)) (ae (ab (.int 6)) (ae (ab (.int 0)) (ae (ab (.int 5)) al)))))))))))))))) (ap 1))
 (ar (er N (cy (aQ eC (ae (aQ dC (ae (ac 0) al)) al))) (ap 2) (ar (pE (ac 1) (ai (ac 2) (ab (.int 15)) dj) (ai (ac 0) (ac 2) aH) gv)
 aq) aq)
 (ar (bq (ac 1))
 aq)))
theorem Rc(P n cs L):bf (XX P 285 L cs xh (aF wn n)):=bf.of (by left) rfl rfl
theorem KB(P prog w os b N n cs L) :ah (TT P prog w os) b (XX P 285 L cs xh (aF wn n)) (cc P 285) (By   N n):=by
 have Z:=Rc P n cs L;exact
 (ah.cons (ax.assign (aa.list (ak.cons (aa.int 1) (ak.cons (aa.int 1) (ak.cons (aa.int 1) (ak.cons (aa.int 1) (ak.cons (aa.int 1) (ak.cons (aa.int 1) (ak.cons (aa.int 0) (ak.cons (aa.int 1) (ak.cons (aa.int 3) (ak.cons (aa.int 7) (ak.cons (aa.int 12) (ak.cons (aa.int 20) (ak.cons (aa.int 6) (ak.cons (aa.int 0) (ak.cons (aa.int 5) ak.nil)))))))))))))))) (aA.loc Z 1 rfl) (by left) (by left))
 (ah.cons (ax.for N (bR.val (aa.tcall (aa.blt Z 7 rfl (by left) rfl) (ak.cons (aa.bcall (aa.blt Z 0 rfl (by left) rfl) (ak.cons (aa.loc Z 0 rfl) ak.nil) jN) ak.nil) jk)) (aA.loc Z 2 rfl) (ah.cons (ax.augSub (aa.loc Z 1 rfl) (aa.binop (aa.loc Z 2 rfl) (aa.int 15) gq) (aa.index (aa.loc Z 0 rfl) (aa.loc Z 2 rfl)) nV)
 ah.nil) ah.nil)
 (ah.cons (ax.ret (aa.loc Z 1 rfl))
 ah.nil)))
noncomputable def yr:List Str:=["number"]
noncomputable def xt:List Str:=[]
noncomputable def CM:List Str:=["number"]
noncomputable def CK(N n:Nat):SR:=
 (ar (bq (ga (au (ai (ac 0) (ab (.int 0)) Qb)) (ai (ac 0) (ai (ab (.int 10)) (ab (.int 60)) sh) dj) (ca (ai (ca (ac 0) eE) (ai (ab (.int 10)) (ab (.int 60)) sh) dj) eE)))
 aq)
theorem Rh(P n cs L):bf (XX P 292 L cs yr (aF xt n)):=bf.of (by left) rfl rfl
theorem MR(P prog w os b N n cs L) :ah (TT P prog w os) b (XX P 292 L cs yr (aF xt n)) (cc P 292) (CK   N n):=by
 have Z:=Rh P n cs L;exact
 (ah.cons (ax.ret (aa.ifexp (bj.cmp (aa.loc Z 0 rfl) (aa.int 0) RV) (aa.binop (aa.loc Z 0 rfl) (aa.binop (aa.int 10) (aa.int 60) Bt) gq) (aa.unop (aa.binop (aa.unop (aa.loc Z 0 rfl) kF) (aa.binop (aa.int 10) (aa.int 60) Bt) gq) kF)))
 ah.nil)
noncomputable def Dj:List Str:=["strings","signs","order","k"]
noncomputable def BW:List Str:=[]
noncomputable def HM:List Str:=["strings"]
noncomputable def Fg(N n:Nat):SR:=
 (ar (am (bH (ae (ab (.str "")) (ae (ab (.str "")) (ae (ab (.str "")) (ae (ab (.str "")) (ae (ab (.str "")) (ae (ab (.str "")) al))))))) (ap 1))
 (ar (am (aQ Bo (ae (ac 0) al)) (ap 2))
 (ar (er N (cy (aQ eC (ae (ab (.int 3)) al))) (ap 3) (ar (am (ai (ab (.str "abc")) (ac 3) aH) (wT (ac 1) (ai (ai (ac 2) (ac 3) aH) (ab (.int 0)) aH)))
 (ar (am (ai (ab (.str "abc")) (ac 3) aH) (wT (ac 1) (ai (ai (ac 2) (ac 3) aH) (ab (.int 1)) aH)))
 aq)) aq)
 (ar (bq (aD "str" (ab (.str "")) (ae (ac 1) al) jY))
 aq))))
theorem Rb(P n cs L):bf (XX P 299 L cs Dj (aF BW n)):=bf.of (by left) rfl rfl
theorem Ll(P prog w os b N n cs L) :ah (TT P prog w os) b (XX P 299 L cs Dj (aF BW n)) (cc P 299) (Fg   N n):=by
 have Z:=Rb P n cs L;exact
 (ah.cons (ax.assign (aa.list (ak.cons (aa.str "") (ak.cons (aa.str "") (ak.cons (aa.str "") (ak.cons (aa.str "") (ak.cons (aa.str "") (ak.cons (aa.str "") ak.nil))))))) (aA.loc Z 1 rfl) (by left) (by left))
 (ah.cons (ax.assign (aa.bcall (aa.blt Z 9 rfl (by left) rfl) (ak.cons (aa.loc Z 0 rfl) ak.nil) Gx) (aA.loc Z 2 rfl) (by left) (by left))
 (ah.cons (ax.for N (bR.val (aa.tcall (aa.blt Z 7 rfl (by left) rfl) (ak.cons (aa.int 3) ak.nil) jk)) (aA.loc Z 3 rfl) (ah.cons (ax.assign (aa.index (aa.str "abc") (aa.loc Z 3 rfl)) (aA.sub (aa.loc Z 1 rfl) (aa.index (aa.index (aa.loc Z 2 rfl) (aa.loc Z 3 rfl)) (aa.int 0))) (by left) (by left))
 (ah.cons (ax.assign (aa.index (aa.str "abc") (aa.loc Z 3 rfl)) (aA.sub (aa.loc Z 1 rfl) (aa.index (aa.index (aa.loc Z 2 rfl) (aa.loc Z 3 rfl)) (aa.int 1))) (by left) (by left))
 ah.nil)) ah.nil)
 (ah.cons (ax.ret (aa.meth cr rc qG (aa.str "") (ak.cons (aa.loc Z 1 rfl) ak.nil) qk))
 ah.nil))))
noncomputable def sI:List Str:=["number","alone","mate","other"]
noncomputable def sR:List Str:=[]
noncomputable def xN:List Str:=["number"]
noncomputable def Jj(Z:bz)(N n:Nat):SR:=
 (ar (am (bH (ae (ab (.int 1)) (ae (ab (.int 2)) (ae (ab (.int 3)) (ae (ab (.int 4)) (ae (ab (.int 5)) al)))))) (ap 1))
 (ar (am (aD "list" (ac 1) (ae (ai (ac 0) (ab (.int 5)) dj) al) vM) (ap 2))
 (ar (am (aD "list" (ac 1) (ae (ai (ab (.int 1)) (ai (ai (ac 0) (ab (.int 5)) gu) (ab (.int 3)) dj) bk) al) vM) (ap 3))
 (ar (bq (aY Z (ae (bH (ae (bT (ae (ab (.int 0)) (ae (ac 2) al))) (ae (bT (ae (ai (ac 1) (ab (.int 0)) aH) (ae (ac 3) al))) (ae (bT (ae (ai (ac 1) (ab (.int 1)) aH) (ae (ai (ac 1) (ab (.int 2)) aH) al))) al)))) al)))
 aq))))
theorem Sf(P n cs L):bf (XX P 306 L cs sI (aF sR n)):=bf.of (by left) rfl rfl
theorem KY(P prog w os b N n cs L){Y:bz}(X:FK P prog w os b 299 Y):ah (TT P prog w os) b (XX P 306 L cs sI (aF sR n)) (cc P 306) (Jj  Y N n):=by
 have Z:=Sf P n cs L;exact
 (ah.cons (ax.assign (aa.list (ak.cons (aa.int 1) (ak.cons (aa.int 2) (ak.cons (aa.int 3) (ak.cons (aa.int 4) (ak.cons (aa.int 5) ak.nil)))))) (aA.loc Z 1 rfl) (by left) (by left))
 (ah.cons (ax.assign (aa.meth ik tZ Ha (aa.loc Z 1 rfl) (ak.cons (aa.binop (aa.loc Z 0 rfl) (aa.int 5) gq) ak.nil) NF) (aA.loc Z 2 rfl) (by left) (by left))
 (ah.cons (ax.assign (aa.meth ik tZ Ha (aa.loc Z 1 rfl) (ak.cons (aa.binop (aa.int 1) (aa.binop (aa.binop (aa.loc Z 0 rfl) (aa.int 5) ql) (aa.int 3) gq) bG) ak.nil) NF) (aA.loc Z 3 rfl) (by left) (by left))
 (ah.cons (ax.ret (aa.call (aa.glob Z 23 rfl (by left) rfl) (ak.cons (aa.list (ak.cons (aa.tup (ak.cons (aa.int 0) (ak.cons (aa.loc Z 2 rfl) ak.nil))) (ak.cons (aa.tup (ak.cons (aa.index (aa.loc Z 1 rfl) (aa.int 0)) (ak.cons (aa.loc Z 3 rfl) ak.nil))) (ak.cons (aa.tup (ak.cons (aa.index (aa.loc Z 1 rfl) (aa.int 1)) (ak.cons (aa.index (aa.loc Z 1 rfl) (aa.int 2)) ak.nil))) ak.nil)))) ak.nil) X (Bk P) (BZ P)))
 ah.nil))))
noncomputable def xy:List Str:=["word","points","spans","letter","first","last"]
noncomputable def wL:List Str:=[]
noncomputable def BL:List Str:=["word","points"]
noncomputable def Dm(N n:Nat):SR:=
 (ar (am (bH al) (ap 2))
 (ar (er N (cy (ab (.str "abc"))) (ap 3) (ar (am (ai (ac 1) (aD "str" (ac 0) (ae (ac 3) al) fN) aH) (ap 4))
 (ar (am (ai (ac 1) (aD "str" (ac 0) (ae (ac 3) al) fR) aH) (ap 5))
 (ar (ck (aD "list" (ac 2) (ae (ai (ai (ai (ac 4) (ab (.int 0)) aH) (ai (ac 5) (ab (.int 1)) aH) cO) (ai (ai (ac 5) (ab (.int 0)) aH) (ai (ac 4) (ab (.int 1)) aH) cO) dB) al) bu))
 aq))) aq)
 (ar (bq (ac 2))
 aq)))
theorem Sa(P n cs L):bf (XX P 313 L cs xy (aF wL n)):=bf.of (by left) rfl rfl
theorem LL(P prog w os b N n cs L) :ah (TT P prog w os) b (XX P 313 L cs xy (aF wL n)) (cc P 313) (Dm   N n):=by
 have Z:=Sa P n cs L;exact
 (ah.cons (ax.assign (aa.list ak.nil) (aA.loc Z 2 rfl) (by left) (by left))
 (ah.cons (ax.for N (bR.val (aa.str "abc")) (aA.loc Z 3 rfl) (ah.cons (ax.assign (aa.index (aa.loc Z 1 rfl) (aa.meth cr mN oH (aa.loc Z 0 rfl) (ak.cons (aa.loc Z 3 rfl) ak.nil) jr)) (aA.loc Z 4 rfl) (by left) (by left))
 (ah.cons (ax.assign (aa.index (aa.loc Z 1 rfl) (aa.meth cr F.slot_str_rfind F.type_str_rfind (aa.loc Z 0 rfl) (ak.cons (aa.loc Z 3 rfl) ak.nil) jC)) (aA.loc Z 5 rfl) (by left) (by left))
 (ah.cons (ax.expr (aa.meth ik ky kO (aa.loc Z 2 rfl) (ak.cons (aa.binop (aa.binop (aa.index (aa.loc Z 4 rfl) (aa.int 0)) (aa.index (aa.loc Z 5 rfl) (aa.int 1)) dN) (aa.binop (aa.index (aa.loc Z 5 rfl) (aa.int 0)) (aa.index (aa.loc Z 4 rfl) (aa.int 1)) dN) iX) ak.nil) dL) rfl)
 ah.nil))) ah.nil)
 (ah.cons (ax.ret (aa.loc Z 2 rfl))
 ah.nil)))
noncomputable def CC:List Str:=["word","twice","want"]
noncomputable def BK:List Str:=[]
noncomputable def Il:List Str:=["word"]
noncomputable def Ga(Z:bz)(N n:Nat):SR:=
 (ar (am (bH (ae (ai (ai (eb (ac 0) gh (eV (ab (.int 2)))) (ab (.str "...")) bk) (eb (ac 0) (eV (ab (.int 1))) gh) bk) (ae (ai (ai (ai (ab (.str "...")) (eb (ac 0) (eV (ab (.int 1))) gh) bk) (ab (.str "...")) bk) (ai (ac 0) (ab (.int 5)) aH) bk) al))) (ap 1))
 (ar (er N (cy (ai (ac 1) (bH (ae (ab (.str "...a...a...a...")) (ae (ai (ab (.str "b...")) (ai (ac 0) (ab (.int 5)) aH) bk) (ae (eb (ac 0) gh (eV (ab (.int 5)))) al)))) bk)) (ap 2) (ar (dn (au (ai (aY Z (ae (ac 2) (ae (ac 0) al))) (ab (.bool false)) dI)) (ar (bq (ab (.bool false)))
 aq) aq)
 aq) aq)
 (ar (bq (KU (ai (aY Z (ae (ac 0) (ae (ac 0) al))) (ab (.bool true)) MW) (ai (aY Z (ae (ab (.str "a...a")) (ae (ac 0) al))) (ai (ai (ac 0) (ab (.int 5)) aH) (ab (.str "a")) fE) MW)))
 aq)))
theorem QS(P n cs L):bf (XX P 320 L cs CC (aF BK n)):=bf.of (by left) rfl rfl
theorem Lc(P prog w os b N n cs L){X:bz}(Y:FK P prog w os b 45 X):ah (TT P prog w os) b (XX P 320 L cs CC (aF BK n)) (cc P 320) (Ga  X N n):=by
 have Z:=QS P n cs L;exact
 (ah.cons (ax.assign (aa.list (ak.cons (aa.binop (aa.binop (aa.slice (aa.loc Z 0 rfl) fX.no (fX.yes (aa.int 2))) (aa.str "...") bG) (aa.slice (aa.loc Z 0 rfl) (fX.yes (aa.int 1)) fX.no) bG) (ak.cons (aa.binop (aa.binop (aa.binop (aa.str "...") (aa.slice (aa.loc Z 0 rfl) (fX.yes (aa.int 1)) fX.no) bG) (aa.str "...") bG) (aa.index (aa.loc Z 0 rfl) (aa.int 5)) bG) ak.nil))) (aA.loc Z 1 rfl) (by left) (by left))
 (ah.cons (ax.for N (bR.val (aa.binop (aa.loc Z 1 rfl) (aa.list (ak.cons (aa.str "...a...a...a...") (ak.cons (aa.binop (aa.str "b...") (aa.index (aa.loc Z 0 rfl) (aa.int 5)) bG) (ak.cons (aa.slice (aa.loc Z 0 rfl) fX.no (fX.yes (aa.int 5))) ak.nil)))) bG)) (aA.loc Z 2 rfl) (ah.cons (ax.ite (bj.cmp (aa.call (aa.glob Z 2 rfl (by left) rfl) (ak.cons (aa.loc Z 2 rfl) (ak.cons (aa.loc Z 0 rfl) ak.nil)) Y (xv P) (xw P)) (aa.bool false) fW) (ah.cons (ax.ret (aa.bool false))
 ah.nil) ah.nil)
 ah.nil) ah.nil)
 (ah.cons (ax.ret (aa.and (aa.cmp (aa.call (aa.glob Z 2 rfl (by left) rfl) (ak.cons (aa.loc Z 0 rfl) (ak.cons (aa.loc Z 0 rfl) ak.nil)) Y (xv P) (xw P)) (aa.bool true) Ge) (aa.cmp (aa.call (aa.glob Z 2 rfl (by left) rfl) (ak.cons (aa.str "a...a") (ak.cons (aa.loc Z 0 rfl) ak.nil)) Y (xv P) (xw P)) (aa.cmp (aa.index (aa.loc Z 0 rfl) (aa.int 5)) (aa.str "a") ij) Ge)))
 ah.nil)))
noncomputable def BM:List Str:=["piece","crossed","x","y","told","due","k","signs","first","last"]
noncomputable def Di:List Str:=["word"]
noncomputable def Hy:List Str:=["word","piece"]
noncomputable def HI(Y:bz)(Z:bz)(N n:Nat):SR:=
 (ar (am (bH al) (ap 1))
 (ar (er N (cy (bT (ae (bT (ae (ab (.str "a")) (ae (ab (.str "b")) al))) (ae (bT (ae (ab (.str "a")) (ae (ab (.str "c")) al))) (ae (bT (ae (ab (.str "b")) (ae (ab (.str "c")) al))) al))))) (dk 2 (aU (ap 2) (aU (ap 3) cp))) (ar (am (aY Y (ae (ai (ai (ai (ai (ai (ai (ai (ai (ab (.str "...")) (ac 2) bk) (ab (.str "...")) bk) (ac 3) bk) (ab (.str "...")) bk) (ac 2) bk) (ab (.str "...")) bk) (ac 3) bk) (ab (.str "...")) bk) (ae (aI n) al))) (ap 4))
 (ar (dn (au (ai (ac 4) (zz (aD "str" (aI n) (ae (ac 3) al) fN) (aD "str" (aI n) (ae (ac 2) al) fR) (aD "str" (aI n) (ae (ac 3) al) fR) vJ vJ) dI)) (ar (bq (bH al))
 aq) aq)
 (ar (ck (aD "list" (ac 1) (ae (ac 4) al) bu))
 aq))) aq)
 (ar (am (bH (ae (KU (ca (ai (ac 1) (ab (.int 0)) aH) JJ) (ca (ai (ac 1) (ab (.int 1)) aH) JJ)) (ae (ai (ai (ac 1) (ab (.int 0)) aH) (ai (ac 1) (ab (.int 2)) aH) fE) (ae (KU (ca (ai (ac 1) (ab (.int 1)) aH) JJ) (ca (ai (ac 1) (ab (.int 2)) aH) JJ)) al)))) (ap 5))
 (ar (am (dq N 1 (cy (aQ eC (ae (ab (.int 6)) al))) (ap 0) ff (ga (au (ai (aD "str" (aI n) (ae (ai (aI n) (ac 0) aH) al) fN) (ac 0) fE)) (ab (.str "(")) (ab (.str ")")))) (ap 7))
 (ar (dn (au (ai (aY Z (ae (ai (aD "str" (ab (.str "")) (ae (eb (ac 7) (eV (ab (.int 1))) gh) al) jY) (ab (.str "(")) bk) al)) (ab (.bool false)) dI)) (ar (bq (bH al))
 aq) aq)
 (ar (er N (cy (aQ eC (ae (ab (.int 3)) al))) (ap 6) (ar (am (aD "str" (aI n) (ae (ai (ab (.str "abc")) (ac 6) aH) al) fN) (ap 8))
 (ar (am (aD "str" (aI n) (ae (ai (ab (.str "abc")) (ac 6) aH) al) fR) (ap 9))
 (ar (dn (au (ai (aY Z (ae (ai (ai (ai (ai (ab (.str "(")) (ac 0) bk) (aD "str" (ab (.str "")) (ae (eb (ac 7) (eV (ai (ac 8) (ab (.int 1)) bk)) (eV (ac 9))) al) jY) bk) (ac 0) bk) (ab (.str ")")) bk) al)) (ai (ac 5) (ac 6) aH) dI)) (ar (bq (bH al))
 aq) aq)
 aq))) aq)
 (ar (bq (ac 1))
 aq)))))))
theorem Ss(P n cs L):bf (XX P 325 L cs BM (aF Di n)):=bf.of (by left) rfl rfl
theorem Mt(P prog w os b N n cs L){X:bz}{U:bz}(V:FK P prog w os b 45 X)(W:FK P prog w os b 130 U):ah (TT P prog w os) b (XX P 325 L cs BM (aF Di n)) (cc P 325) (HI  X U N n):=by
 have Z:=Ss P n cs L;exact
 (ah.cons (ax.assign (aa.list ak.nil) (aA.loc Z 1 rfl) (by left) (by left))
 (ah.cons (ax.for N (bR.val (aa.tup (ak.cons (aa.tup (ak.cons (aa.str "a") (ak.cons (aa.str "b") ak.nil))) (ak.cons (aa.tup (ak.cons (aa.str "a") (ak.cons (aa.str "c") ak.nil))) (ak.cons (aa.tup (ak.cons (aa.str "b") (ak.cons (aa.str "c") ak.nil))) ak.nil))))) (aA.tup (br.cons (aA.loc Z 2 rfl) (br.cons (aA.loc Z 3 rfl) br.nil))) (ah.cons (ax.assign (aa.call (aa.glob Z 2 rfl (by left) rfl) (ak.cons (aa.binop (aa.binop (aa.binop (aa.binop (aa.binop (aa.binop (aa.binop (aa.binop (aa.str "...") (aa.loc Z 2 rfl) bG) (aa.str "...") bG) (aa.loc Z 3 rfl) bG) (aa.str "...") bG) (aa.loc Z 2 rfl) bG) (aa.str "...") bG) (aa.loc Z 3 rfl) bG) (aa.str "...") bG) (ak.cons (aa.cell Z 0 n rfl) ak.nil)) V (xv P) (xw P)) (aA.loc Z 4 rfl) (by left) (by left))
 (ah.cons (ax.ite (bj.cmp (aa.loc Z 4 rfl) (aa.chain (aa.meth cr mN oH (aa.cell Z 0 n rfl) (ak.cons (aa.loc Z 3 rfl) ak.nil) jr) (aa.meth cr F.slot_str_rfind F.type_str_rfind (aa.cell Z 0 n rfl) (ak.cons (aa.loc Z 2 rfl) ak.nil) jC) (aa.meth cr F.slot_str_rfind F.type_str_rfind (aa.cell Z 0 n rfl) (ak.cons (aa.loc Z 3 rfl) ak.nil) jC) yB yB) fW) (ah.cons (ax.ret (aa.list ak.nil))
 ah.nil) ah.nil)
 (ah.cons (ax.expr (aa.meth ik ky kO (aa.loc Z 1 rfl) (ak.cons (aa.loc Z 4 rfl) ak.nil) dL) rfl)
 ah.nil))) ah.nil)
 (ah.cons (ax.assign (aa.list (ak.cons (aa.and (aa.unop (aa.index (aa.loc Z 1 rfl) (aa.int 0)) CS) (aa.unop (aa.index (aa.loc Z 1 rfl) (aa.int 1)) CS)) (ak.cons (aa.cmp (aa.index (aa.loc Z 1 rfl) (aa.int 0)) (aa.index (aa.loc Z 1 rfl) (aa.int 2)) ij) (ak.cons (aa.and (aa.unop (aa.index (aa.loc Z 1 rfl) (aa.int 1)) CS) (aa.unop (aa.index (aa.loc Z 1 rfl) (aa.int 2)) CS)) ak.nil)))) (aA.loc Z 5 rfl) (by left) (by left))
 (ah.cons (ax.assignComp (vars:=[(Str.ofString "k")]) (cvn:=[((Str.ofString "word"),n)]) (js:=[0]) N (bR.val (aa.tcall (aa.blt Z 7 rfl (by left) rfl) (ak.cons (aa.int 6) ak.nil) jk)) (by left) (by left) (fun S T=>have Y:bf (cu _ _ [(Str.ofString "k")] [((Str.ofString "word"),n)] T S):=bf.of (by left) rfl rfl;⟨(aA.loc Y 0 rfl),dR.nil,(aa.ifexp (bj.cmp (aa.meth cr mN oH (aa.cell Y 0 n rfl) (ak.cons (aa.index (aa.cell Y 0 n rfl) (aa.loc Y 0 rfl)) ak.nil) jr) (aa.loc Y 0 rfl) ij) (aa.str "(") (aa.str ")"))⟩) (aA.loc Z 7 rfl) (by left))
 (ah.cons (ax.ite (bj.cmp (aa.call (aa.glob Z 15 rfl (by left) rfl) (ak.cons (aa.binop (aa.meth cr rc qG (aa.str "") (ak.cons (aa.slice (aa.loc Z 7 rfl) (fX.yes (aa.int 1)) fX.no) ak.nil) qk) (aa.str "(") bG) ak.nil) W (PQ P) (PT P)) (aa.bool false) fW) (ah.cons (ax.ret (aa.list ak.nil))
 ah.nil) ah.nil)
 (ah.cons (ax.for N (bR.val (aa.tcall (aa.blt Z 7 rfl (by left) rfl) (ak.cons (aa.int 3) ak.nil) jk)) (aA.loc Z 6 rfl) (ah.cons (ax.assign (aa.meth cr mN oH (aa.cell Z 0 n rfl) (ak.cons (aa.index (aa.str "abc") (aa.loc Z 6 rfl)) ak.nil) jr) (aA.loc Z 8 rfl) (by left) (by left))
 (ah.cons (ax.assign (aa.meth cr F.slot_str_rfind F.type_str_rfind (aa.cell Z 0 n rfl) (ak.cons (aa.index (aa.str "abc") (aa.loc Z 6 rfl)) ak.nil) jC) (aA.loc Z 9 rfl) (by left) (by left))
 (ah.cons (ax.ite (bj.cmp (aa.call (aa.glob Z 15 rfl (by left) rfl) (ak.cons (aa.binop (aa.binop (aa.binop (aa.binop (aa.str "(") (aa.loc Z 0 rfl) bG) (aa.meth cr rc qG (aa.str "") (ak.cons (aa.slice (aa.loc Z 7 rfl) (fX.yes (aa.binop (aa.loc Z 8 rfl) (aa.int 1) bG)) (fX.yes (aa.loc Z 9 rfl))) ak.nil) qk) bG) (aa.loc Z 0 rfl) bG) (aa.str ")") bG) ak.nil) W (PQ P) (PT P)) (aa.index (aa.loc Z 5 rfl) (aa.loc Z 6 rfl)) fW) (ah.cons (ax.ret (aa.list ak.nil))
 ah.nil) ah.nil)
 ah.nil))) ah.nil)
 (ah.cons (ax.ret (aa.loc Z 1 rfl))
 ah.nil)))))))
noncomputable def xW:List Str:=["word","number","those","which","x","y","z","last","p","r","q","s"]
noncomputable def yD:List Str:=["crossed"]
noncomputable def Bn:List Str:=["word","crossed","number"]
noncomputable def Ip(Z:bz)(N n:Nat):SR:=
 (ar (am (dq N 1 (cy (aQ eC (ae (ab (.int 3)) al))) (ap 0) (au (ai (aI n) (ac 0) aH)) (ac 0)) (ap 2))
 (ar (am (ai (ac 2) (ai (ac 1) (aQ dC (ae (ac 2) al)) dj) aH) (ap 3))
 (ar (am (ai (ab (.str "aab")) (ac 3) aH) (ap 4))
 (ar (am (ai (ab (.str "bcc")) (ac 3) aH) (ap 5))
 (ar (am (ai (ab (.str "cba")) (ac 3) aH) (ap 6))
 (ar (am (bT (ae (aD "str" (ac 0) (ae (ac 6) al) fN) (ae (aD "str" (ac 0) (ae (ac 6) al) fR) al))) (ap 7))
 (ar (jd (bT (ae (aD "str" (ac 0) (ae (ac 4) al) fN) (ae (aD "str" (ac 0) (ae (ac 4) al) fR) al))) 8 9)
 (ar (jd (bT (ae (aD "str" (ac 0) (ae (ac 5) al) fN) (ae (aD "str" (ac 0) (ae (ac 5) al) fR) al))) 10 11)
 (ar (bq (bH (ae (aY Z (ae (bH (ae (bT (ae (ac 8) (ae (ac 10) al))) (ae (bT (ae (ac 9) (ae (ac 11) al))) (ae (ac 7) al)))) al)) (ae (aY Z (ae (bH (ae (bT (ae (ac 8) (ae (ac 11) al))) (ae (bT (ae (ac 10) (ae (ac 9) al))) (ae (ac 7) al)))) al)) al))))
 aq)))))))))
theorem SE(P n cs L):bf (XX P 330 L cs xW (aF yD n)):=bf.of (by left) rfl rfl
theorem LO(P prog w os b N n cs L){W:bz}(X:FK P prog w os b 299 W):ah (TT P prog w os) b (XX P 330 L cs xW (aF yD n)) (cc P 330) (Ip  W N n):=by
 have Z:=SE P n cs L;exact
 (ah.cons (ax.assignComp (vars:=[(Str.ofString "k")]) (cvn:=[((Str.ofString "crossed"),n)]) (js:=[0]) N (bR.val (aa.tcall (aa.blt Z 7 rfl (by left) rfl) (ak.cons (aa.int 3) ak.nil) jk)) (by left) (by left) (fun U V=>have Y:bf (cu _ _ [(Str.ofString "k")] [((Str.ofString "crossed"),n)] V U):=bf.of (by left) rfl rfl;⟨(aA.loc Y 0 rfl),(dR.one (bj.val (aa.index (aa.cell Y 0 n rfl) (aa.loc Y 0 rfl)))),(aa.loc Y 0 rfl)⟩) (aA.loc Z 2 rfl) (by left))
 (ah.cons (ax.assign (aa.index (aa.loc Z 2 rfl) (aa.binop (aa.loc Z 1 rfl) (aa.bcall (aa.blt Z 0 rfl (by left) rfl) (ak.cons (aa.loc Z 2 rfl) ak.nil) jN) gq)) (aA.loc Z 3 rfl) (by left) (by left))
 (ah.cons (ax.assign (aa.index (aa.str "aab") (aa.loc Z 3 rfl)) (aA.loc Z 4 rfl) (by left) (by left))
 (ah.cons (ax.assign (aa.index (aa.str "bcc") (aa.loc Z 3 rfl)) (aA.loc Z 5 rfl) (by left) (by left))
 (ah.cons (ax.assign (aa.index (aa.str "cba") (aa.loc Z 3 rfl)) (aA.loc Z 6 rfl) (by left) (by left))
 (ah.cons (ax.assign (aa.tup (ak.cons (aa.meth cr mN oH (aa.loc Z 0 rfl) (ak.cons (aa.loc Z 6 rfl) ak.nil) jr) (ak.cons (aa.meth cr F.slot_str_rfind F.type_str_rfind (aa.loc Z 0 rfl) (ak.cons (aa.loc Z 6 rfl) ak.nil) jC) ak.nil))) (aA.loc Z 7 rfl) (by left) (by left))
 (ah.cons (ax.swap Z 8 9 (aa.tup (ak.cons (aa.meth cr mN oH (aa.loc Z 0 rfl) (ak.cons (aa.loc Z 4 rfl) ak.nil) jr) (ak.cons (aa.meth cr F.slot_str_rfind F.type_str_rfind (aa.loc Z 0 rfl) (ak.cons (aa.loc Z 4 rfl) ak.nil) jC) ak.nil))) rfl rfl (by left) (by left))
 (ah.cons (ax.swap Z 10 11 (aa.tup (ak.cons (aa.meth cr mN oH (aa.loc Z 0 rfl) (ak.cons (aa.loc Z 5 rfl) ak.nil) jr) (ak.cons (aa.meth cr F.slot_str_rfind F.type_str_rfind (aa.loc Z 0 rfl) (ak.cons (aa.loc Z 5 rfl) ak.nil) jC) ak.nil))) rfl rfl (by left) (by left))
 (ah.cons (ax.ret (aa.list (ak.cons (aa.call (aa.glob Z 23 rfl (by left) rfl) (ak.cons (aa.list (ak.cons (aa.tup (ak.cons (aa.loc Z 8 rfl) (ak.cons (aa.loc Z 10 rfl) ak.nil))) (ak.cons (aa.tup (ak.cons (aa.loc Z 9 rfl) (ak.cons (aa.loc Z 11 rfl) ak.nil))) (ak.cons (aa.loc Z 7 rfl) ak.nil)))) ak.nil) X (Bk P) (BZ P)) (ak.cons (aa.call (aa.glob Z 23 rfl (by left) rfl) (ak.cons (aa.list (ak.cons (aa.tup (ak.cons (aa.loc Z 8 rfl) (ak.cons (aa.loc Z 11 rfl) ak.nil))) (ak.cons (aa.tup (ak.cons (aa.loc Z 10 rfl) (ak.cons (aa.loc Z 9 rfl) ak.nil))) (ak.cons (aa.loc Z 7 rfl) ak.nil)))) ak.nil) X (Bk P) (BZ P)) ak.nil))))
 ah.nil)))))))))
noncomputable def wm:List Str:=["laid","points","total","words","name","word","spans","numeral"]
noncomputable def xF:List Str:=[]
noncomputable def Bu:List Str:=["laid","points"]
noncomputable def Cc(Y:bz)(Z:bz)(X:bz)(W:bz)(N n:Nat):SR:=
 (ar (am (ab (.int 0)) (ap 2))
 (ar (am (bH al) (ap 3))
 (ar (er N (cy (bB 274 Y (ac 0) al)) (ap 4) (ar (am (aD "str" (ac 4) al cR) (ap 5))
 (ar (dn (au (ai (ac 5) (ac 3) kZ)) (ar (ck (aD "list" (ac 3) (ae (ac 5) al) bu))
 (ar (am (aY Z (ae (ac 5) (ae (ac 1) al))) (ap 6))
 (ar (er N (cy (bB 274 X (ac 0) (ae (aD "str" (ac 5) al dG) al))) (ap 7) (ar (fA (ac 2) (ai (ai (ai (aY W (ae (ac 7) al)) (ai (ac 6) (ab (.int 0)) aH) cO) (ai (ac 6) (ab (.int 1)) aH) cO) (ai (ac 6) (ab (.int 2)) aH) cO) gv (ap 2))
 aq) aq)
 aq))) aq)
 aq)) aq)
 (ar (bq (ac 2))
 aq))))
theorem Sk(P n cs L):bf (XX P 342 L cs wm (aF xF n)):=bf.of (by left) rfl rfl
theorem Ky(P prog w os b N n cs L){X:bz}{Y:bz}{W:bz}{S:bz}(U:FK P prog w os b 226 X)(V:FK P prog w os b 313 Y)(T:FK P prog w os b 213 W)(R:FK P prog w os b 67 S):ah (TT P prog w os) b (XX P 342 L cs wm (aF xF n)) (cc P 342) (Cc  X Y W S N n):=by
 have Z:=Sk P n cs L;exact
 (ah.cons (ax.assign (aa.int 0) (aA.loc Z 2 rfl) (by left) (by left))
 (ah.cons (ax.assign (aa.list ak.nil) (aA.loc Z 3 rfl) (by left) (by left))
 (ah.cons (ax.for N (bR.val (aa.hcall (gk P) (by left) (by left) (by left) (aa.loc Z 0 rfl) ak.nil U (Cl P) (CG P))) (aA.loc Z 4 rfl) (ah.cons (ax.assign (aa.meth cr oB oM (aa.loc Z 4 rfl) ak.nil ip) (aA.loc Z 5 rfl) (by left) (by left))
 (ah.cons (ax.ite (bj.cmp (aa.loc Z 5 rfl) (aa.loc Z 3 rfl) Hv) (ah.cons (ax.expr (aa.meth ik ky kO (aa.loc Z 3 rfl) (ak.cons (aa.loc Z 5 rfl) ak.nil) dL) rfl)
 (ah.cons (ax.assign (aa.call (aa.glob Z 25 rfl (by left) rfl) (ak.cons (aa.loc Z 5 rfl) (ak.cons (aa.loc Z 1 rfl) ak.nil)) V (BC P) (Bc P)) (aA.loc Z 6 rfl) (by left) (by left))
 (ah.cons (ax.for N (bR.val (aa.hcall (gk P) (by left) (by left) (by left) (aa.loc Z 0 rfl) (ak.cons (aa.meth cr rx rA (aa.loc Z 5 rfl) ak.nil mj) ak.nil) T (ES P) (Iy P))) (aA.loc Z 7 rfl) (ah.cons (ax.augLoc Z 2 rfl (aa.binop (aa.binop (aa.binop (aa.call (aa.glob Z 5 rfl (by left) rfl) (ak.cons (aa.loc Z 7 rfl) ak.nil) R (Pj P) (Os P)) (aa.index (aa.loc Z 6 rfl) (aa.int 0)) dN) (aa.index (aa.loc Z 6 rfl) (aa.int 1)) dN) (aa.index (aa.loc Z 6 rfl) (aa.int 2)) dN) nV)
 ah.nil) ah.nil)
 ah.nil))) ah.nil)
 ah.nil)) ah.nil)
 (ah.cons (ax.ret (aa.loc Z 2 rfl))
 ah.nil))))
noncomputable def ir:List Str:=["script","points","ways","counts","laid","total","spans","other","less"]
noncomputable def iD:List Str:=["cells"]
noncomputable def xe:List Str:=["script"]
theorem RY(P n cs L):bf (XX P 354 L cs ir (aF iD n)):=bf.of (by left) rfl rfl
noncomputable def yx:List Str:=["starts","seed","pieces","waits","laid","plain","down","name","numeral","turn","asked","numerals","crossed","way"]
noncomputable def xP:List Str:=["word"]
noncomputable def Cq:List Str:=["starts","seed"]
noncomputable def yg(Z:bz)(Y:bz)(X:bz)(U:bz)(T:bz)(V:bz)(S:bz)(W:bz)(N n:Nat):SR:=
 (ar (am (bH (ae (ab (.str "")) (ae (ab (.str "\\)")) (ae (ab (.str "\"(\"")) (ae (ab (.str "\\\\")) (ae (ab (.str "\"\\\")\"")) al)))))) (ap 2))
 (ar (am (uP 274) (ap 3))
 (ar (am (uP 274) (ap 4))
 (ar (am (bH (ae (bT (ae (ai (ai (ac 0) (ab (.int 0)) aH) (ab (.int 0)) aH) (ae (ai (ai (ab (.str "0__")) (aQ sr (ae (ai (ai (ac 0) (ab (.int 0)) aH) (ab (.int 1)) aH) al)) bk) (ab (.str " ")) bk) al))) (ae (bT (ae (aD "str" (ai (ai (ac 0) (ab (.int 1)) aH) (ab (.int 0)) aH) al dG) (ae (ai (ai (ab (.str "0__")) (aQ sr (ae (ai (ai (ac 0) (ab (.int 1)) aH) (ab (.int 1)) aH) al)) bk) (ab (.str " ")) bk) al))) al))) (ap 5))
 (ar (am (bH al) (ap 6))
 (ar (er N (cy (ac 5)) (dk 2 (aU (ap 7) (aU (ap 8) cp))) (ar (dn (au (ai (bB 274 Z (ac 3) (ae (ac 7) (ae (ac 8) al))) (ab .none) dI)) (ar (bq (ab .none))
 aq) aq)
 aq) aq)
 (ar (er N (cy (aQ eC (ae (ab (.int 40)) al))) (ap 9) (ar (dn (kG (au (ai (bB 274 Y (ac 3) al) (ac 5) pA)) (kG (au (ai (bB 274 X (ac 3) al) (dq N 1 (cy (ac 5)) (ap 0) ff (ai (ac 0) (ab (.int 0)) aH)) pA)) (kG (au (ai (bB 274 Y (ac 4) al) (ac 6) pA)) lG))) (ar (bq (ab .none))
 aq) aq)
 (ar (dn (au (ai (ac 5) (bH al) fE)) (ar (bq (ac 4))
 aq) aq)
 (ar (ck (aD "list" (bB 274 Y (ac 3) al) (ae (bT (ae (ab (.str "abc")) (ae (ab (.str "")) al))) al) bu))
 (ar (am (ai (bB 274 X (ac 3) al) (ab (.int 0)) aH) (ap 7))
 (ar (am (aD "str" (ac 7) al cR) (dQ n))
 (ar (am (ga (au (ai (ac 7) (aI n) fE)) (aD "str" (aI n) al dG) (aI n)) (ap 10))
 (ar (am (bB 274 U (ac 3) (ae (ac 10) al)) (ap 11))
 (ar (dn (au (ai (ac 11) (dq N 1 (cy (ac 5)) (ap 0) (au (ai (aD "str" (ai (ac 0) (ab (.int 0)) aH) al cR) (aI n) fE)) (ai (ac 0) (ab (.int 1)) aH)) pA)) (ar (bq (ab .none))
 aq) aq)
 (ar (jl 274 T (ac 3) (ac 10))
 (ar (am (dq N 1 (cy (ac 5)) (ap 0) (au (ai (aD "str" (ai (ac 0) (ab (.int 0)) aH) al cR) (aI n) pA)) (ac 0)) (ap 5))
 (ar (am (aY V (ae (aI n) (ae (ai (ac 2) (ai (ai (ac 1) (ac 9) bk) (ab (.int 5)) dj) aH) al))) (ap 12))
 (ar (dn (au (ai (ac 12) (bH al) fE)) (ar (bq (ab .none))
 aq) aq)
 (ar (am (ai (ai (ab (.str "0__")) (aQ sr (ae (aQ Jd (ae (dq N 1 (cy (ac 11)) (ap 0) ff (aY S (ae (ac 0) al))) al)) al)) bk) (ab (.str " ")) bk) (ap 8))
 (ar (dn (au (ai (ab (.bool true)) (ac 12) Rf)) (ar (er N (cy (aY W (ae (aI n) (ae (ac 12) (ae (ai (ac 1) (ac 9) bk) al))))) (ap 13) (ar (ck (aD "list" (ac 5) (ae (bT (ae (ga (au (ai (ac 9) (ab (.int 2)) dj)) (aD "str" (ac 13) al dG) (ac 13)) (ae (ac 8) al))) al) bu))
 (ar (dn (au (ai (bB 274 Z (ac 3) (ae (ai (ai (ac 5) (ca (ab (.int 1)) eE) aH) (ab (.int 0)) aH) (ae (ac 8) al))) (ab .none) dI)) (ar (bq (ab .none))
 aq) aq)
 aq)) aq)
 aq) (ar (ck (aD "list" (ac 6) (ae (bT (ae (ga (au (ai (ac 9) (ab (.int 2)) dj)) (aD "str" (aI n) al dG) (aI n)) (ae (ac 8) al))) al) bu))
 (ar (dn (au (ai (bB 274 Z (ac 4) (ae (ai (ai (ac 6) (ca (ab (.int 1)) eE) aH) (ab (.int 0)) aH) (ae (ac 8) al))) (ab .none) dI)) (ar (bq (ab .none))
 aq) aq)
 aq)))
 aq)))))))))))))) aq)
 (ar (bq (ab .none))
 aq))))))))
theorem RA(P n cs L):bf (XX P 335 L cs yx (aF xP n)):=bf.of (by left) rfl rfl
theorem Nl(P prog w os b N n cs L){Q:bz}{O:bz}{M:bz}{J:bz}{I:bz}{R:bz}{C:bz}{S:bz}(W:FK P prog w os b 271 Q)(V:FK P prog w os b 238 O)(T:FK P prog w os b 226 M)(E:FK P prog w os b 213 J)(D:FK P prog w os b 194 I)(F:FK P prog w os b 325 R)(B:FK P prog w os b 67 C)(G:FK P prog w os b 330 S)(U:rG (TT P prog w os) b 274):ah (TT P prog w os) b (XX P 335 L cs yx (aF xP n)) (cc P 335) (yg  Q O M J I R C S N n):=by
 have Z:=RA P n cs L;exact
 (ah.cons (ax.assign (aa.list (ak.cons (aa.str "") (ak.cons (aa.str "\\)") (ak.cons (aa.str "\"(\"") (ak.cons (aa.str "\\\\") (ak.cons (aa.str "\"\\\")\"") ak.nil)))))) (aA.loc Z 2 rfl) (by left) (by left))
 (ah.cons (ax.assign (aa.newHdr U (by left) (aa.glob Z 20 rfl (by left) rfl)) (aA.loc Z 3 rfl) (by left) (by left))
 (ah.cons (ax.assign (aa.newHdr U (by left) (aa.glob Z 20 rfl (by left) rfl)) (aA.loc Z 4 rfl) (by left) (by left))
 (ah.cons (ax.assign (aa.list (ak.cons (aa.tup (ak.cons (aa.index (aa.index (aa.loc Z 0 rfl) (aa.int 0)) (aa.int 0)) (ak.cons (aa.binop (aa.binop (aa.str "0__") (aa.tcall (aa.blt Z 1 rfl (by left) rfl) (ak.cons (aa.index (aa.index (aa.loc Z 0 rfl) (aa.int 0)) (aa.int 1)) ak.nil) Fm) bG) (aa.str " ") bG) ak.nil))) (ak.cons (aa.tup (ak.cons (aa.meth cr rx rA (aa.index (aa.index (aa.loc Z 0 rfl) (aa.int 1)) (aa.int 0)) ak.nil mj) (ak.cons (aa.binop (aa.binop (aa.str "0__") (aa.tcall (aa.blt Z 1 rfl (by left) rfl) (ak.cons (aa.index (aa.index (aa.loc Z 0 rfl) (aa.int 1)) (aa.int 1)) ak.nil) Fm) bG) (aa.str " ") bG) ak.nil))) ak.nil))) (aA.loc Z 5 rfl) (by left) (by left))
 (ah.cons (ax.assign (aa.list ak.nil) (aA.loc Z 6 rfl) (by left) (by left))
 (ah.cons (ax.for N (bR.val (aa.loc Z 5 rfl)) (aA.tup (br.cons (aA.loc Z 7 rfl) (br.cons (aA.loc Z 8 rfl) br.nil))) (ah.cons (ax.ite (bj.cmp (aa.hcall (gk P) (by left) (by left) (by left) (aa.loc Z 3 rfl) (ak.cons (aa.loc Z 7 rfl) (ak.cons (aa.loc Z 8 rfl) ak.nil)) W (CP P) (Df P)) aa.none fW) (ah.cons (ax.ret aa.none)
 ah.nil) ah.nil)
 ah.nil) ah.nil)
 (ah.cons (ax.for N (bR.val (aa.tcall (aa.blt Z 7 rfl (by left) rfl) (ak.cons (aa.int 40) ak.nil) jk)) (aA.loc Z 9 rfl) (ah.cons (ax.ite (bj.bool (eI.or (bj.cmp (aa.hcall (gk P) (by left) (by left) (by left) (aa.loc Z 3 rfl) ak.nil V (Br P) (CU P)) (aa.loc Z 5 rfl) wF) (eI.or (bj.cmp (aa.hcall (gk P) (by left) (by left) (by left) (aa.loc Z 3 rfl) ak.nil T (Cl P) (CG P)) (aa.comp (vars:=[(Str.ofString "pair")]) (cvn:=[]) (js:=[]) N (bR.val (aa.loc Z 5 rfl)) (by left) (by left) (fun H X=>have Y:bf (cu _ _ [(Str.ofString "pair")] [] X H):=bf.of (by left) rfl rfl;⟨(aA.loc Y 0 rfl),dR.nil,(aa.index (aa.loc Y 0 rfl) (aa.int 0))⟩)) wF) (eI.or (bj.cmp (aa.hcall (gk P) (by left) (by left) (by left) (aa.loc Z 4 rfl) ak.nil V (Br P) (CU P)) (aa.loc Z 6 rfl) wF) eI.orNil)))) (ah.cons (ax.ret aa.none)
 ah.nil) ah.nil)
 (ah.cons (ax.ite (bj.cmp (aa.loc Z 5 rfl) (aa.list ak.nil) ij) (ah.cons (ax.ret (aa.loc Z 4 rfl))
 ah.nil) ah.nil)
 (ah.cons (ax.expr (aa.meth ik ky kO (aa.hcall (gk P) (by left) (by left) (by left) (aa.loc Z 3 rfl) ak.nil V (Br P) (CU P)) (ak.cons (aa.tup (ak.cons (aa.str "abc") (ak.cons (aa.str "") ak.nil))) ak.nil) dL) rfl)
 (ah.cons (ax.assign (aa.index (aa.hcall (gk P) (by left) (by left) (by left) (aa.loc Z 3 rfl) ak.nil T (Cl P) (CG P)) (aa.int 0)) (aA.loc Z 7 rfl) (by left) (by left))
 (ah.cons (ax.assign (aa.meth cr oB oM (aa.loc Z 7 rfl) ak.nil ip) (aA.cell Z 0 n rfl (by left)) (by left) (by left))
 (ah.cons (ax.assign (aa.ifexp (bj.cmp (aa.loc Z 7 rfl) (aa.cell Z 0 n rfl) ij) (aa.meth cr rx rA (aa.cell Z 0 n rfl) ak.nil mj) (aa.cell Z 0 n rfl)) (aA.loc Z 10 rfl) (by left) (by left))
 (ah.cons (ax.assign (aa.hcall (gk P) (by left) (by left) (by left) (aa.loc Z 3 rfl) (ak.cons (aa.loc Z 10 rfl) ak.nil) E (ES P) (Iy P)) (aA.loc Z 11 rfl) (by left) (by left))
 (ah.cons (ax.ite (bj.cmp (aa.loc Z 11 rfl) (aa.comp (vars:=[(Str.ofString "pair")]) (cvn:=[((Str.ofString "word"),n)]) (js:=[0]) N (bR.val (aa.loc Z 5 rfl)) (by left) (by left) (fun H X=>have Y:bf (cu _ _ [(Str.ofString "pair")] [((Str.ofString "word"),n)] X H):=bf.of (by left) rfl rfl;⟨(aA.loc Y 0 rfl),(dR.one (bj.cmp (aa.meth cr oB oM (aa.index (aa.loc Y 0 rfl) (aa.int 0)) ak.nil ip) (aa.cell Y 0 n rfl) ij)),(aa.index (aa.loc Y 0 rfl) (aa.int 1))⟩)) wF) (ah.cons (ax.ret aa.none)
 ah.nil) ah.nil)
 (ah.cons (ax.delHdr (gk P) (by left) (by left) (by left) (aa.loc Z 3 rfl) (aa.loc Z 10 rfl) D (Nz P) (No P))
 (ah.cons (ax.assignComp (vars:=[(Str.ofString "pair")]) (cvn:=[((Str.ofString "word"),n)]) (js:=[0]) N (bR.val (aa.loc Z 5 rfl)) (by left) (by left) (fun H X=>have Y:bf (cu _ _ [(Str.ofString "pair")] [((Str.ofString "word"),n)] X H):=bf.of (by left) rfl rfl;⟨(aA.loc Y 0 rfl),(dR.one (bj.cmp (aa.meth cr oB oM (aa.index (aa.loc Y 0 rfl) (aa.int 0)) ak.nil ip) (aa.cell Y 0 n rfl) wF)),(aa.loc Y 0 rfl)⟩) (aA.loc Z 5 rfl) (by left))
 (ah.cons (ax.assign (aa.call (aa.glob Z 27 rfl (by left) rfl) (ak.cons (aa.cell Z 0 n rfl) (ak.cons (aa.index (aa.loc Z 2 rfl) (aa.binop (aa.binop (aa.loc Z 1 rfl) (aa.loc Z 9 rfl) bG) (aa.int 5) gq)) ak.nil)) F (Ny P) (NX P)) (aA.loc Z 12 rfl) (by left) (by left))
 (ah.cons (ax.ite (bj.cmp (aa.loc Z 12 rfl) (aa.list ak.nil) ij) (ah.cons (ax.ret aa.none)
 ah.nil) ah.nil)
 (ah.cons (ax.assign (aa.binop (aa.binop (aa.str "0__") (aa.tcall (aa.blt Z 1 rfl (by left) rfl) (ak.cons (aa.bcall (aa.blt Z 8 rfl (by left) rfl) (ak.cons (aa.comp (vars:=[(Str.ofString "told")]) (cvn:=[]) (js:=[]) N (bR.val (aa.loc Z 11 rfl)) (by left) (by left) (fun H X=>have Y:bf (cu _ _ [(Str.ofString "told")] [] X H):=bf.of (by left) rfl rfl;⟨(aA.loc Y 0 rfl),dR.nil,(aa.call (aa.glob Y 5 rfl (by left) rfl) (ak.cons (aa.loc Y 0 rfl) ak.nil) B (Pj P) (Os P))⟩)) ak.nil) SB) ak.nil) Fm) bG) (aa.str " ") bG) (aA.loc Z 8 rfl) (by left) (by left))
 (ah.cons (ax.ite (bj.cmp (aa.bool true) (aa.loc Z 12 rfl) Uz) (ah.cons (ax.for N (bR.val (aa.call (aa.glob Z 28 rfl (by left) rfl) (ak.cons (aa.cell Z 0 n rfl) (ak.cons (aa.loc Z 12 rfl) (ak.cons (aa.binop (aa.loc Z 1 rfl) (aa.loc Z 9 rfl) bG) ak.nil))) G (Nn P) (ND P))) (aA.loc Z 13 rfl) (ah.cons (ax.expr (aa.meth ik ky kO (aa.loc Z 5 rfl) (ak.cons (aa.tup (ak.cons (aa.ifexp (bj.val (aa.binop (aa.loc Z 9 rfl) (aa.int 2) gq)) (aa.meth cr rx rA (aa.loc Z 13 rfl) ak.nil mj) (aa.loc Z 13 rfl)) (ak.cons (aa.loc Z 8 rfl) ak.nil))) ak.nil) dL) rfl)
 (ah.cons (ax.ite (bj.cmp (aa.hcall (gk P) (by left) (by left) (by left) (aa.loc Z 3 rfl) (ak.cons (aa.index (aa.index (aa.loc Z 5 rfl) (aa.unop (aa.int 1) kF)) (aa.int 0)) (ak.cons (aa.loc Z 8 rfl) ak.nil)) W (CP P) (Df P)) aa.none fW) (ah.cons (ax.ret aa.none)
 ah.nil) ah.nil)
 ah.nil)) ah.nil)
 ah.nil) (ah.cons (ax.expr (aa.meth ik ky kO (aa.loc Z 6 rfl) (ak.cons (aa.tup (ak.cons (aa.ifexp (bj.val (aa.binop (aa.loc Z 9 rfl) (aa.int 2) gq)) (aa.meth cr rx rA (aa.cell Z 0 n rfl) ak.nil mj) (aa.cell Z 0 n rfl)) (ak.cons (aa.loc Z 8 rfl) ak.nil))) ak.nil) dL) rfl)
 (ah.cons (ax.ite (bj.cmp (aa.hcall (gk P) (by left) (by left) (by left) (aa.loc Z 4 rfl) (ak.cons (aa.index (aa.index (aa.loc Z 6 rfl) (aa.unop (aa.int 1) kF)) (aa.int 0)) (ak.cons (aa.loc Z 8 rfl) ak.nil)) W (CP P) (Df P)) aa.none fW) (ah.cons (ax.ret aa.none)
 ah.nil) ah.nil)
 ah.nil)))
 ah.nil)))))))))))))) ah.nil)
 (ah.cons (ax.ret aa.none)
 ah.nil))))))))
noncomputable def gr:List Str:=["total","spans","count","seed","unit","lower","rest","sign","told"]
noncomputable def gy:List Str:=[]
noncomputable def oF:List Str:=["total","spans","count","seed"]
noncomputable def Cj(Z:bz)(N n:Nat):SR:=
 (ar (am (ai (ab (.int 3)) (ai (ab (.int 60)) (ai (ac 3) (ab (.int 2600)) dj) bk) sh) (ap 4))
 (ar (am (ai (ai (ai (ac 1) (ab (.int 0)) aH) (ai (ac 1) (ab (.int 1)) aH) cO) (ac 2) cO) (ap 5))
 (ar (dn (au (ai (ac 5) (ab (.int 0)) fE)) (ar kA
 (ar (bq (ab (.bool false)))
 aq)) aq)
 (ar (am (ga (au (ai (ac 5) (ab (.int 0)) OO)) (ai (ac 3) (ac 4) dj) (ca (ai (ac 3) (ac 4) dj) eE)) (ap 6))
 (ar (am (ga (au (ai (ac 3) (ab (.int 2)) dj)) (ca (ab (.int 1)) eE) (ab (.int 1))) (ap 7))
 (ar (am (aY Z (ae (ai (ac 7) (ai (ai (ai (ac 0) (ai (ai (ac 4) (ab (.int 2)) gu) (ac 5) cO) bk) (ac 4) cO) (ac 6) bk) cO) (ae (ai (ai (ac 7) (ac 5) cO) (ac 4) cO) al))) (ap 8))
 (ar (bq (ai (ac 8) (bT (ae (ai (ai (ac 1) (ab (.int 2)) aH) (ai (ac 4) (ab (.int 2)) gu) bk) (ae (ai (ac 7) (ac 6) cO) al))) fE))
 aq)))))))
theorem NP(P n cs L):bf (XX P 349 L cs gr (aF gy n)):=bf.of (by left) rfl rfl
theorem MZ(P prog w os b N n cs L){Y:bz}(X:FK P prog w os b 109 Y):ah (TT P prog w os) b (XX P 349 L cs gr (aF gy n)) (cc P 349) (Cj  Y N n):=by
 have Z:=NP P n cs L;exact
 (ah.cons (ax.assign (aa.binop (aa.int 3) (aa.binop (aa.int 60) (aa.binop (aa.loc Z 3 rfl) (aa.int 2600) gq) bG) Bt) (aA.loc Z 4 rfl) (by left) (by left))
 (ah.cons (ax.assign (aa.binop (aa.binop (aa.index (aa.loc Z 1 rfl) (aa.int 0)) (aa.index (aa.loc Z 1 rfl) (aa.int 1)) dN) (aa.loc Z 2 rfl) dN) (aA.loc Z 5 rfl) (by left) (by left))
 (ah.cons (ax.ite (bj.cmp (aa.loc Z 5 rfl) (aa.int 0) ij) (ah.cons ax.dead
 (ah.cons (ax.ret (aa.bool false))
 ah.nil)) ah.nil)
 (ah.cons (ax.assign (aa.ifexp (bj.cmp (aa.loc Z 5 rfl) (aa.int 0) Tf) (aa.binop (aa.loc Z 3 rfl) (aa.loc Z 4 rfl) gq) (aa.unop (aa.binop (aa.loc Z 3 rfl) (aa.loc Z 4 rfl) gq) kF)) (aA.loc Z 6 rfl) (by left) (by left))
 (ah.cons (ax.assign (aa.ifexp (bj.val (aa.binop (aa.loc Z 3 rfl) (aa.int 2) gq)) (aa.unop (aa.int 1) kF) (aa.int 1)) (aA.loc Z 7 rfl) (by left) (by left))
 (ah.cons (ax.assign (aa.call (aa.glob Z 12 rfl (by left) rfl) (ak.cons (aa.binop (aa.loc Z 7 rfl) (aa.binop (aa.binop (aa.binop (aa.loc Z 0 rfl) (aa.binop (aa.binop (aa.loc Z 4 rfl) (aa.int 2) ql) (aa.loc Z 5 rfl) dN) bG) (aa.loc Z 4 rfl) dN) (aa.loc Z 6 rfl) bG) dN) (ak.cons (aa.binop (aa.binop (aa.loc Z 7 rfl) (aa.loc Z 5 rfl) dN) (aa.loc Z 4 rfl) dN) ak.nil)) X (td P) (te P)) (aA.loc Z 8 rfl) (by left) (by left))
 (ah.cons (ax.ret (aa.cmp (aa.loc Z 8 rfl) (aa.tup (ak.cons (aa.binop (aa.index (aa.loc Z 1 rfl) (aa.int 2)) (aa.binop (aa.loc Z 4 rfl) (aa.int 2) ql) bG) (ak.cons (aa.binop (aa.loc Z 7 rfl) (aa.loc Z 6 rfl) dN) ak.nil))) ij))
 ah.nil)))))))
theorem HC(P)(Y Z:Value):bindArgs (cD P 194) ((fun X=>⟨X,[]⟩) [Y,Z])=pure (Cb.zip [Y,Z]):=by left
theorem Qr(P prog w os b N){Z:bz}(Y:fy (TT P prog w os) b (.ref 175) (pt (Str.ofString "name")) Z):FK P prog w os (b+1) 194 (bW Cb wU yi (fun _=>[]) [] (fun n=>yp  Z N n)):=
 mG (Nz P) (No P)
 (bp.eq fun T V=>by
  obtain⟨W,X,rfl⟩:=gA V;exact HC P W X)
 (fun n L U=>Mw P prog w os b N n U L  Y)
theorem Ht(P)(Z:Value):bindArgs (cD P 285) ((fun Y=>⟨Y,[]⟩) [Z])=pure (CL.zip [Z]):=by left
theorem Qz(P prog w os b N) :FK P prog w os (b+1) 285 (bW CL wn xh (fun _=>[]) [] (fun n=>By  N n)):=
 mG (NM P) (Nu P)
 (bp.eq fun W Y=>by
  obtain⟨Z,rfl⟩:=iS Y;exact Ht P Z)
 (fun n L X=>KB P prog w os b N n X L  )
theorem GO(P)(Z:Value):bindArgs (cD P 292) ((fun Y=>⟨Y,[]⟩) [Z])=pure (CM.zip [Z]):=by left
theorem OP(P prog w os b N) :FK P prog w os (b+1) 292 (bW CM xt yr (fun _=>[]) [] (fun n=>CK  N n)):=
 mG (HY P) (GB P)
 (bp.eq fun W Y=>by
  obtain⟨Z,rfl⟩:=iS Y;exact GO P Z)
 (fun n L X=>MR P prog w os b N n X L  )
theorem FO(P)(Z:Value):bindArgs (cD P 299) ((fun Y=>⟨Y,[]⟩) [Z])=pure (HM.zip [Z]):=by left
theorem Pu(P prog w os b N) :FK P prog w os (b+1) 299 (bW HM BW Dj (fun _=>[]) [] (fun n=>Fg  N n)):=
 mG (Bk P) (BZ P)
 (bp.eq fun W Y=>by
  obtain⟨Z,rfl⟩:=iS Y;exact FO P Z)
 (fun n L X=>Ll P prog w os b N n X L  )
theorem Ki(P)(Z:Value):bindArgs (cD P 306) ((fun Y=>⟨Y,[]⟩) [Z])=pure (xN.zip [Z]):=by left
theorem Qd(P prog w os b N){Z:bz}(Y:FK P prog w os b 299 Z):FK P prog w os (b+1) 306 (bW xN sR sI (fun _=>[]) [] (fun n=>Jj  Z N n)):=
 mG (FU P) (Fu P)
 (bp.eq fun U W=>by
  obtain⟨X,rfl⟩:=iS W;exact Ki P X)
 (fun n L V=>KY P prog w os b N n V L  Y)
theorem GJ(P)(Y Z:Value):bindArgs (cD P 313) ((fun X=>⟨X,[]⟩) [Y,Z])=pure (BL.zip [Y,Z]):=by left
theorem Od(P prog w os b N) :FK P prog w os (b+1) 313 (bW BL wL xy (fun _=>[]) [] (fun n=>Dm  N n)):=
 mG (BC P) (Bc P)
 (bp.eq fun V X=>by
  obtain⟨Y,Z,rfl⟩:=gA X;exact GJ P Y Z)
 (fun n L W=>LL P prog w os b N n W L  )
theorem FQ(P)(Z:Value):bindArgs (cD P 320) ((fun Y=>⟨Y,[]⟩) [Z])=pure (Il.zip [Z]):=by left
theorem PG(P prog w os b N){Z:bz}(Y:FK P prog w os b 45 Z):FK P prog w os (b+1) 320 (bW Il BK CC (fun _=>[]) [] (fun n=>Ga  Z N n)):=
 mG (FL P) (GG P)
 (bp.eq fun U W=>by
  obtain⟨X,rfl⟩:=iS W;exact FQ P X)
 (fun n L V=>Lc P prog w os b N n V L  Y)
theorem HW(P)(Y Z:Value):bindArgs (cD P 325) ((fun X=>⟨X,[]⟩) [Y,Z])=pure (Hy.zip [Y,Z]):=by left
theorem Of(P prog w os b N){Z:bz}{X:bz}(Y:FK P prog w os b 45 Z)(W:FK P prog w os b 130 X):FK P prog w os (b+1) 325 (bW Hy Di BM (fun _=>[]) [] (fun n=>HI  Z X N n)):=
 mG (Ny P) (NX P)
 (bp.eq fun R T=>by
  obtain⟨U,V,rfl⟩:=gA T;exact HW P U V)
 (fun n L S=>Mt P prog w os b N n S L  Y W)
theorem Jv(P)(X Y Z:Value):bindArgs (cD P 330) ((fun W=>⟨W,[]⟩) [X,Y,Z])=pure (Bn.zip [X,Y,Z]):=by left
theorem Op(P prog w os b N){Z:bz}(Y:FK P prog w os b 299 Z):FK P prog w os (b+1) 330 (bW Bn yD xW (fun _=>[]) [] (fun n=>Ip  Z N n)):=
 mG (Nn P) (ND P)
 (bp.eq fun S U=>by
  obtain⟨V,W,X,rfl⟩:=qu U;exact Jv P V W X)
 (fun n L T=>LO P prog w os b N n T L  Y)
theorem Gc(P)(Y Z:Value):bindArgs (cD P 335) ((fun X=>⟨X,[]⟩) [Y,Z])=pure (Cq.zip [Y,Z]):=by left
theorem Qg(P prog w os b N){X:bz}{W:bz}{V:bz}{U:bz}{T:bz}{Y:bz}{G:bz}{Z:bz}(O:FK P prog w os b 271 X)(M:FK P prog w os b 238 W)(J:FK P prog w os b 226 V)(I:FK P prog w os b 213 U)(H:FK P prog w os b 194 T)(Q:FK P prog w os b 325 Y)(F:FK P prog w os b 67 G)(R:FK P prog w os b 330 Z)(S:rG (TT P prog w os) b 274):FK P prog w os (b+1) 335 (bW Cq xP yx (fun _=>[]) [] (fun n=>yg  X W V U T Y G Z N n)):=
 mG (NK P) (NH P)
 (bp.eq fun A C=>by
  obtain⟨D,E,rfl⟩:=gA C;exact Gc P D E)
 (fun n L B=>Nl P prog w os b N n B L  O M J I H Q F R S)
theorem FD(P)(Y Z:Value):bindArgs (cD P 342) ((fun X=>⟨X,[]⟩) [Y,Z])=pure (Bu.zip [Y,Z]):=by left
theorem Qa(P prog w os b N){Y:bz}{Z:bz}{X:bz}{T:bz}(V:FK P prog w os b 226 Y)(W:FK P prog w os b 313 Z)(U:FK P prog w os b 213 X)(S:FK P prog w os b 67 T):FK P prog w os (b+1) 342 (bW Bu xF wm (fun _=>[]) [] (fun n=>Cc  Y Z X T N n)):=
 mG (NT P) (NB P)
 (bp.eq fun J O=>by
  obtain⟨Q,R,rfl⟩:=gA O;exact FD P Q R)
 (fun n L M=>Ky P prog w os b N n M L  V W U S)
theorem wC(P)(W X Y Z:Value):bindArgs (cD P 349) ((fun V=>⟨V,[]⟩) [W,X,Y,Z])=pure (oF.zip [W,X,Y,Z]):=by left
theorem Oz(P prog w os b N){Z:bz}(Y:FK P prog w os b 109 Z):FK P prog w os (b+1) 349 (bW oF gy gr (fun _=>[]) [] (fun n=>Cj  Z N n)):=
 mG (Hf P) (IJ P)
 (bp.eq fun R T=>by
  obtain⟨U,V,W,X,rfl⟩:=Kg T;exact wC P U V W X)
 (fun n L S=>MZ P prog w os b N n S L  Y)
theorem Ji(P)(Z:Value):bindArgs (cD P 354) ((fun Y=>⟨Y,[]⟩) [Z])=pure (xe.zip [Z]):=by left
theorem Ai{P:Params}{Z:Program}{w:World}{Y:OsState}{k:Nat}{pn cn vn:List Str}{mk:List Value->Args}{A:Around}{R:Fz}{W:Wd}{s:Shared}{U:Result->Shared->Prop}{J:List PV}{B:List Value}{os:List AO}(t:(TT P Z w Y).K.lookup k=some (bJ P k))(u:(bJ P k).data=.func (cD P k))
  (O:bp (TT P Z w Y) (cD P k) mk pn (fun _=>[]) []) (r:A.depth<recursionLimit) (H:J.length=pn.length) (I:aN W J B) (y:W.n=os.length) (c:eD (TT P Z w Y) R W (dY 0 os) s)
  (Q:∀L N V X,ci W s.heap V X.heap->bQ (TT P Z w Y) (XX P k L N vn (aF cn os.length)) R V (cH pn cn vn J os) X->wpAny (model Z w) (A.deeper (XX P k L N vn (aF cn os.length)).env) (execs (cc P k) (XX P k L N vn (aF cn os.length)).env) (fun f M=>U (.ok (.ret (match f with|.ret v=>v|_=>.none))) M)
   (fun e M=>wpAny (model Z w) (A.deeper (XX P k L N vn (aF cn os.length)).env) (leaving (XX P k L N vn (aF cn os.length)).env e) (fun _ S=>U (.error e) S) (fun b S=>U (.error b) S) M) X)
  (d:(cD P k).scope.isCoroutine=false:=by left) (h:(cD P k).scope.isGenerator=false:=by left) (i:(cD P k).body=.stmts (cc P k):=by left) (j:(cD P k).globals=mainGlobals:=by left) (l:(cD P k).builtins=builtinsNs:=by left) (m:(cD P k).closure=[]:=by left)
  (o:codeIn (TT P Z w Y).K (cD P k).code (cD P k).qualname=true:=by left) (p:(cD P k).scope.kind=.function:=by left) (q:df (cD P k).scope.names=cn:=by left) (C:iI cn=true:=by left)
  (D:pn.all (fun x=>decide ((cD P k).scope.names.lookup x=some .local)||(decide ((cD P k).scope.names.lookup x=some .cell)&&cn.contains x))=true:=by left) (E:cn.all (fun x=>!decide ((cD P k).scope.names.lookup x=some .local))=true:=by left)
  (F:vn.all (fun x=>decide ((cD P k).scope.names.lookup x=some .local))=true:=by left) (G:iI pn=true:=by left):codeAny (model Z w) A (.call (.ref k) (mk B)) U s:=
 oE (T:=TT P Z w Y) t u d h (body:=cc P k) i j l m (jB o) O p q (cQ C) (wA D) (sZ E) (iU F) (cQ G) r H I y c fun L N V X g z=>by
  rw [lw,lw]at z
  exact uB (Q L N V X g z)
theorem TY:isSubtype (.type "ZeroDivisionError") (.type "BaseException")=pure true:=isSubtype_of_subB (by decide +kernel)
theorem Ud:isSubtype (.type ((Manifest.find? "ZeroDivisionError").elim "type" fun x=>x.metatype)) (.type "tuple")=pure false:=isSubtype_of_subB (by decide +kernel)
theorem Ri:isSubtype (.type "ZeroDivisionError") (.type "ZeroDivisionError")=pure true:=isSubtype_of_subB (by decide +kernel)
theorem JK(a b:PV):cH tf jJ jI [a,b] []=⟨[some a,some b,none,none],[],0⟩:=by left
noncomputable def rQ(T:Tp)(F:Addr->Option Obj)(Z:List Env):Result->Shared->Prop:=fun r Y=>match r with|.ok _=>False|.error e=>lM T F Z "ZeroDivisionError" e Y
theorem Uu(P prog w os){A:Around}{R:Fz}{W:Wd}{s:Shared}{Z:List Env}{u:Int}{U:List Value}(E:fJ 4 A)(I:A.frames=some Z)(v:xa (TT P prog w os) R W Z)(D:eD (TT P prog w os) R W (dY 0 []) s)(t:W.n=0)(J:aN W [.int u,.int 0] U):
  codeAny (model prog w) A (.call (.ref 109) ⟨U,[]⟩) (rQ (TT P prog w os) W.F Z) s:=by
 refine Ai (os:=[]) (pn:=tf) (cn:=jJ) (vn:=jI) (mk:=fun U=>⟨U,[]⟩) (td P) (te P) (bp.eq fun U r=>by
  obtain⟨z,B,rfl⟩:=gA r;exact yA P z B) (by have:=E.dep;exact bD 0x8000084202040010421 rfl this) rfl J t D fun L V O T Q Y=>?_
 have H:=NW P 0 V L;have S:fJ 3 (A.deeper (XX P 109 L V jI (aF jJ 0)).env):=fJ.deeper E _;rw [JK]at Y
 have sp:cM (TT P prog w os) (XX P 109 L V jI (aF jJ 0)) (A.deeper (XX P 109 L V jI (aF jJ 0)).env) R W s.heap (cc P 109) (fun σ=>∃M,au (ai (ac 1) (ab (.int 0)) fE) σ=some (true,M)/\True) (fun f N=>False)
   (fun e N=>wpAny (model prog w) (A.deeper (XX P 109 L V jI (aF jJ 0)).env) (leaving (XX P 109 L V jI (aF jJ 0)).env e) (fun _ X=>rQ (TT P prog w os) W.F Z (.error e) X) (fun q X=>rQ (TT P prog w os) W.F Z (.error q) X) N):=
  cM.ite1 S (fun _ h=>h) (bj.cmp (aa.loc H 1 rfl) (aa.int 0) ij) (cM.raise S.hnd H 15 rfl (by left) rfl excClass_ZeroDivisionError Ri fun C σ G p e g x y=>zY H I rfl v D.hR g x y)
 exact bt (sp.go O _ T Q ⟨_,rfl,trivial⟩ Y) (fun f N h=>h.elim) fun e N h=>h
noncomputable def UR(Z:List PV)(_:AS):Prop:=∃u,Z=[.int u,.int 0]
noncomputable def Ab:AS->Prop:=gM (am (ai (ab (.int 3)) (ai (ab (.int 60)) (ai (ac 3) (ab (.int 2600)) dj) bk) sh) (ap 4)) (gM (am (ai (ai (ai (ac 1) (ab (.int 0)) aH) (ai (ac 1) (ab (.int 1)) aH) cO) (ac 2) cO) (ap 5))
 (fun σ=>∃Z,au (ai (ac 5) (ab (.int 0)) fE) σ=some (true,Z)/\∃Y σ₁,ae (ac 4) (ae (ac 5) al) Z=some (Y,σ₁)/\UR Y σ₁))
noncomputable def gG(T:Tp)(F:Addr->Option Obj):Result->Shared->Prop:=fun r Z=>r=.ok (.ret (.bool true))/\nz T F Z
theorem Qv(P prog w os){A:Around}{R:Fz}{W:Wd}{s:Shared}{Z:List Env}{t c V:Int}{y:AO}{Q:List Value}(p:fJ 6 A)(B:A.frames=some Z)(a:xa (TT P prog w os) R W Z)(o:eD (TT P prog w os) R W (dY 0 [y]) s)(hn:W.n=1)(M:aN W [.int t,.loc 0,.int c,.int V] Q)
  (b:Ab (cH oF gy gr [.int t,.loc 0,.int c,.int V] [y])):
  codeAny (model prog w) A (.call (.ref 349) ⟨Q,[]⟩) (gG (TT P prog w os) W.F) s:=by
 refine Ai (os:=[y]) (pn:=oF) (cn:=gy) (vn:=gr) (mk:=fun Q=>⟨Q,[]⟩) (Hf P) (IJ P) (bp.eq fun Q hl=>by
  obtain⟨j,k,l,m,rfl⟩:=Kg hl;exact wC P j k l m) (by have:=p.dep;exact bD 0x8000084203040010421 rfl this) rfl M hn o fun L T G I H J=>?_
 have X:=NP P 1 T L;have Y:fJ 5 (A.deeper (XX P 349 L T gr (aF gy 1)).env):=fJ.deeper p _;have U:(A.deeper (XX P 349 L T gr (aF gy 1)).env).frames=some ((XX P 349 L T gr (aF gy 1)).env::Z):=Around.frames_deeper B;have sp:cM (TT P prog w os) (XX P 349 L T gr (aF gy 1)) (A.deeper (XX P 349 L T gr (aF gy 1)).env) R W s.heap (cc P 349) Ab (fun f N=>f=.ret (.bool true)/\nz (TT P prog w os) W.F N)
   (fun e N=>wpAny (model prog w) (A.deeper (XX P 349 L T gr (aF gy 1)).env) (leaving (XX P 349 L T gr (aF gy 1)).env e) (fun _ O=>gG (TT P prog w os) W.F (.error e) O) (fun e' O=>gG (TT P prog w os) W.F (.error e') O) N):=
  cM.cons Y (ax.assign (aa.binop (aa.int 3) (aa.binop (aa.int 60) (aa.binop (aa.loc X 3 rfl) (aa.int 2600) gq) bG) Bt) (aA.loc X 4 rfl) (by left) (by left))
  (cM.cons Y (ax.assign (aa.binop (aa.binop (aa.index (aa.loc X 1 rfl) (aa.int 0)) (aa.index (aa.loc X 1 rfl) (aa.int 1)) dN) (aa.loc X 2 rfl) dN) (aA.loc X 5 rfl) (by left) (by left))
  (cM.ite1 Y (fun _ h=>by cases h.1) (bj.cmp (aa.loc X 5 rfl) (aa.int 0) ij)
  (cM.catch Y X U rfl (aa.glob X 12 rfl (by left) rfl) (ak.cons (aa.loc X 4 rfl) (ak.cons (aa.loc X 5 rfl) ak.nil)) (td P) (te P) 15 rfl (by left) rfl TY Ud Ri (fun S ps σ₁ Q x E g M v=>by
   obtain⟨u,rfl⟩:=E;have D:∀i∈bA [PV.int u,.int 0],i∈([]:List Nat):=fun i C=>C
   have d:aN (ne S []) [.int u,.int 0] Q:=M.ren (iZ S []) D;have z:=bQ.freeze v (ids:=[]) (os:=[]) on (fun i C=>by cases C) rfl;refine jP (Uu P prog w os (u:=u) ⟨by have:=Y.dep;exact bD 0x40408002084202840010421 rfl this,by have:=Y.uni;exact bD 0x100c84080800084108403210282000210421 rfl this,Y.hnd⟩ U (xa.push a o.hR g v X rfl []) z rfl d) fun r N q=>?_
   rcases r with e|r
   .exact lM.mono g.F q
   .exact q) (fun N h=>⟨rfl,h⟩) (by left) (by left))))
 refine bt (sp.go G _ I H b J) (fun f N h=>?_) fun e N h=>h
 obtain⟨rfl,h⟩:=h;exact⟨rfl,h⟩
inductive RW{t0:Type}{t1:Type}(p:t0->t1->Prop):Prop|mk (x0:t0) (x1:t1) (h:p x0 x1):RW p
inductive UJ{t0:Type}{t1:Type}{t2:Type}(p:t0->t1->t2->Prop):Prop|mk (x0:t0) (x1:t1) (x2:t2) (h:p x0 x1 x2):UJ p
inductive UG{t0:Type}{t1:Type}{t2:Type}{t3:Type}{t4:Type}(p:t0->t1->t2->t3->t4->Prop):Prop|mk (x0:t0) (x1:t1) (x2:t2) (x3:t3) (x4:t4) (h:p x0 x1 x2 x3 x4):UG p
inductive UL{t0:Type}{t1:Type}{t2:Type}{t3:Type}{t4:Type}{t5:Type}(p:t0->t1->t2->t3->t4->t5->Prop):Prop|mk (x0:t0) (x1:t1) (x2:t2) (x3:t3) (x4:t4) (x5:t5) (h:p x0 x1 x2 x3 x4 x5):UL p
inductive KO(p0 p1 p2:Prop):Prop|mk (h0:p0) (h1:p1) (h2:p2):KO p0 p1 p2
inductive Qt(p0 p1 p2 p3:Prop):Prop|mk (h0:p0) (h1:p1) (h2:p2) (h3:p3):Qt p0 p1 p2 p3
inductive Sn(p0 p1 p2 p3 p4:Prop):Prop|mk (h0:p0) (h1:p1) (h2:p2) (h3:p3) (h4:p4):Sn p0 p1 p2 p3 p4
inductive SH(p0 p1 p2 p3 p4 p5:Prop):Prop|mk (h0:p0) (h1:p1) (h2:p2) (h3:p3) (h4:p4) (h5:p5):SH p0 p1 p2 p3 p4 p5
noncomputable def jK(Y:TR)(f o:SR):List PV->SR
 |[]=>o
 |p::X=>fun σ=>match Y p σ with
  |some σ₁=>(match f σ₁ with
   |some (.next,Z)=>jK Y f o X Z
   |some (.cont,Z)=>jK Y f o X Z
   |some (.brk,Z)=>some (.next,Z)
   |some (.ret q,Z)=>some (.ret q,Z)
   |none=>none)
  |none=>none
noncomputable def sy:Int->Nat->List PV
 |_,0=>[]
 |x,n+1=>.int x::sy (x+1) n
theorem Tv(w1_):sy w1_ 0=([]):=rfl
theorem Ts(x n):sy x (n+1)=(.int x::sy (x+1) n):=rfl
theorem qb:∀(x:Int) (n:Nat),(sy x n).length=n
 |_,0=>rfl
 |x,n+1=>bw (·+1) (qb (x+1) n)
noncomputable def zS:IK->Option (List PV)
 |.rng x n=>some (sy x n)
 |.tup Z=>some Z
 |.sgn Y=>some (Y.map fun c=>.str ⟨#[c]⟩)
 |.its Z=>some Z
 |_=>none
theorem Nw{Z:Type}{G:Prop}{a b:Z}{l m:List Z}(h:a::l=b::m)(k:a=b->l=m->G):G:=k (qf h).1 (qf h).2
theorem rl{tg:TR}{f o:SR}:∀(Z:List PV) (k:IK) (n:Nat),zS k=some Z->Z.length<n->gU tg f o n k=jK tg f o Z
 |Z,k,0,_,h=>absurd h (fg _)
 |[],k,n+1,h,_=>by
  funext σ
  cases k with
  |rng x m=>cases m with
   |zero=>rfl
   |succ m=>exact EG (bc h)
  |tup Z=>rw [show Z=[]from bc h];rfl
  |sgn X=>cases X with
   |nil=>rfl
   |cons _ _=>exact EG (bc h)
  |its Z=>rw [show Z=[]from bc h];rfl
  |_=>exact aZ h
 |p::Z,k,n+1,h,S=>by
  have go:∀Y,(∀σ,jU σ k=some (some (p,Y)))->zS Y=some Z->gU tg f o (n+1) k=jK tg f o (p::Z):=fun Y Q R=>by
   funext σ
   have T:=rl (tg:=tg) (f:=f) (o:=o) Z Y n R (Fs S);show(match jU σ k with|some (some (p,Y))=>_|some none=>_|none=>_)=_;rw [Q];dsimp only;rw [T];rfl
  cases k with
  |rng x m=>cases m with
   |zero=>exact Ru (bc h)
   |succ m=>exact Nw (bc h) fun V W=>go (.rng (x+1) m) (fun _=>by rw [<-V];rfl) (bw some W)
  |tup U=>obtain rfl:=bc h;exact go (.tup Z) (fun _=>rfl) rfl
  |sgn X=>cases X with
   |nil=>exact Ru (bc h)
   |cons c X=>exact Nw (bc h) fun V W=>go (.sgn X) (fun _=>by rw [<-V];rfl) (bw some W)
  |its U=>obtain rfl:=bc h;exact go (.its Z) (fun _=>rfl) rfl
  |_=>exact aZ h
theorem gP{n:Nat}{Z:AS->Option (IK×AS)}{Y:TR}{f o:SR}{σ σ₁:AS}{k:IK}{ps:List PV}(h:Z σ=some (k,σ₁))(W:zS k=some ps)(X:ps.length<n):er n Z Y f o σ=jK Y f o ps σ₁:=by
 unfold er;rw [h];dsimp only;rw [rl ps k n W X]
theorem cm{st:List (Nat×AO)}{i:Nat}{Z:AO}:((i,Z)::st).lookup i=some Z:=by simp [List.lookup]
theorem dM{st:List (Nat×AO)}{i j:Nat}{Z:AO}(h:j≠i):((i,Z)::st).lookup j=st.lookup j:=by
 rw [dU];have:(j==i)=false:=by simp [h]
 rw [this]
theorem ba{st:List (Nat×AO)}{i:Nat}{Z:AO}:(aG st i Z).lookup i=some Z:=by rw [gc,aJ rfl]
theorem aL{st:List (Nat×AO)}{i j:Nat}{Z:AO}(h:j≠i):(aG st i Z).lookup j=st.lookup j:=by rw [gc,aO h]
theorem aj{f g:SR}{σ σ₁:AS}(h:f σ=some (.next,σ₁)):ar f g σ=g σ₁:=bi (g:=GM g) h
theorem aR{f g:SR}{σ σ₁:AS}{p:PV}(h:f σ=some (.ret p,σ₁)):ar f g σ=some (.ret p,σ₁):=bi (g:=GM g) h
theorem aC{f:ER}{g:LR}{σ σ₁ Z:AS}{p:PV}{ps:List PV}(X:f σ=some (p,σ₁))(Y:g σ₁=some (ps,Z)):ae f g σ=some (p::ps,Z):=by show eY f _ σ=_;rw [bi X,bi Y]
theorem eo{f:LR}{σ σ₁:AS}{ps:List PV}(h:f σ=some (ps,σ₁))(Z:ps.length<=2^20):bT f σ=some (.tup ps,σ₁):=by show eY f _ σ=_;rw [bi h,aJ Z]
theorem pW{f:LR}{σ σ₁:AS}{Z:List PV}(h:f σ=some (Z,σ₁))(Y:Z.length<=2^20):bH f σ=some (.loc σ₁.nx,{σ₁ with st:=(σ₁.nx,.list Z)::σ₁.st,nx:=σ₁.nx+1}):=by show eY f _ σ=_;rw [bi h,aJ Y]
theorem cP{f:ER}{σ σ₁:AS}{p:PV}(h:f σ=some (p,σ₁)):bq f σ=some (.ret p,σ₁):=bi (g:=fun p σ=>some (AF.ret p,σ)) h
theorem jA{f:ER}{σ σ₁:AS}{p:PV}(h:f σ=some (p,σ₁)):ck f σ=some (.next,σ₁):=bi (g:=fun _ σ=>some (AF.next,σ)) h
theorem aB{f:ER}{g:TR}{σ σ₁ σ₂:AS}{p:PV}(h:f σ=some (p,σ₁))(Z:g p σ₁=some σ₂):am f g σ=some (.next,σ₂):=by show eY f _ σ=_;rw [bi h,Z];rfl
theorem ce{g:GR}{Z:LR}{σ σ₁:AS}{ps:List PV}{r:Option (PV×AS)}(h:Z σ=some (ps,σ₁))(Y:g ps σ₁=r):aQ g Z σ=r:=(bi h).trans Y
theorem cf{Y:String}{f:ER}{Z:LR}{g:GR}{σ σ₁ σ₂:AS}{p:PV}{ps:List PV}{r:Option (PV×AS)}(h:f σ=some (p,σ₁))(X:HF σ₁.st Y p=true)(W:Z σ₁=some (ps,σ₂))(V:g (p::ps) σ₂=r):aD Y f Z g σ=r:=by
 show eY f _ σ=r;rw [bi h,aJ X];exact ce W V
theorem kI{f:ER}{g:PV->ER}{σ σ₁:AS}{p:PV}{r:Option (PV×AS)}(h:f σ=some (p,σ₁))(Z:g p σ₁=r):ca f g σ=r:=(bi h).trans Z
theorem av{Z f₂:ER}{g:PV->PV->ER}{σ σ₁ σ₂:AS}{p q:PV}{r:Option (PV×AS)}(W:Z σ=some (p,σ₁))(X:f₂ σ₁=some (q,σ₂))(Y:g p q σ₂=r):ai Z f₂ g σ=r:=(bi W).trans ((bi X).trans Y)
theorem cK{t:BR}{f g:SR}{σ σ₁:AS}(h:t σ=some (true,σ₁)):dn t f g σ=f σ₁:=bi (g:=fun c=>cond c f g) h
theorem bM{t:BR}{f g:SR}{σ σ₁:AS}(h:t σ=some (false,σ₁)):dn t f g σ=g σ₁:=bi (g:=fun c=>cond c f g) h
theorem lH{t:BR}{f g:ER}{σ σ₁:AS}(h:t σ=some (true,σ₁)):ga t f g σ=f σ₁:=bi (g:=fun c=>cond c f g) h
theorem lC{t:BR}{f g:ER}{σ σ₁:AS}(h:t σ=some (false,σ₁)):ga t f g σ=g σ₁:=bi (g:=fun c=>cond c f g) h
theorem aS{f:ER}{σ σ₁:AS}{p:PV}{c:Bool}(h:f σ=some (p,σ₁))(Z:ia σ₁.st p=some c):au f σ=some (c,σ₁):=by show eY f _ σ=_;rw [bi h,Z];rfl
theorem pN{st:List (Nat×AO)}{i:Nat}{Z:List PV}(h:st.lookup i=some (.list Z)):HF st "list" (.loc i)=true:=by
 show PH "list" (st.lookup i)=true;rw [h];rfl
theorem qW{st:List (Nat×AO)}{x:Str}:HF st "str" (.str x)=true:=rfl
theorem ka{σ:AS}{i:Nat}{p:PV}(h:fQ σ.loc i=some p):ac i σ=some (p,σ):=by unfold ac;rw [h];rfl
theorem xc{f g:BR}{σ σ₁:AS}(h:f σ=some (false,σ₁)):kG f g σ=g σ₁:=bi (g:=fun c=>cond c ff g) h
theorem ot{f e:ER}{g:PV->PV->ER}{t:TR}{σ σ₁ X Y Z:AS}{p q r:PV}(T:f σ=some (p,σ₁))(U:e σ₁=some (q,X))(V:g p q X=some (r,Y))(W:t r Y=some Z):fA f e g t σ=some (.next,Z):=by
 show eY f _ σ=_;rw [bi T,bi U,bi V,W];rfl
theorem mZ{f:ER}{l u:PR}{σ σ₁ Y Z:AS}{p:PV}{lo X:Option Int}{r:Option (PV×AS)}(T:f σ=some (p,σ₁))(U:l σ₁=some (lo,Y))(V:u Y=some (X,Z))(W:Ae p lo X Z=r):eb f l u σ=r:=(bi T).trans ((bi U).trans ((bi V).trans W))
theorem cZ{Y:TR}{f o:SR}{p:PV}{X:List PV}{σ σ₁ Z:AS}(h:Y p σ=some σ₁)(W:f σ₁=some (.next,Z)):jK Y f o (p::X) σ=jK Y f o X Z:=by
 show(match Y p σ with|some σ₁=>_|none=>_)=_;rw [h];dsimp only;rw [W]
theorem wv{Y:TR}{f o:SR}{p q:PV}{X:List PV}{σ σ₁ Z:AS}(h:Y p σ=some σ₁)(W:f σ₁=some (.ret q,Z)):jK Y f o (p::X) σ=some (.ret q,Z):=by
 show(match Y p σ with|some σ₁=>_|none=>_)=_;rw [h];dsimp only;rw [W]
theorem cF{k:Int->Int->Option Int}{a b c:Int}{σ:AS}(h:k a b=some c):gw k (.int a) (.int b) σ=some (.int c,σ):=by
 show(k a b).bind (fun c=>some (PV.int c,σ))=_;rw [h];rfl
theorem va{f:ER}{i j:Nat}{σ σ₁:AS}{p q:PV}(h:f σ=some (.tup [p,q],σ₁)):jd f i j σ=some (.next,{σ₁ with loc:=pu (pu σ₁.loc j q) i p}):=by
 show eY f _ σ=_;rw [bi h];rfl
theorem jt{a:Int}{n:Nat}(Z:n<=100000)(h:a.natAbs<2^n):fits a=true:=dO (eB h (kd (by decide) Z))
theorem nA{a:Int}{n:Nat}(Z:n<=8900)(h:a.natAbs<2^n):rM a=true:=dO (eB h (kd (by decide) Z))
theorem zc{a:Int}(h:a.natAbs<1073741824):rM a=true:=nA (n:=30) (by decide) h
theorem Tw(i:Int)(σ:AS):fU 0 (.int i) σ=some (.int i,[],[]):=rfl
theorem yC(i:Bool)(σ:AS):fU 0 (.bool i) σ=some (.bool i,[],[]):=rfl
theorem LA(i:Str)(σ:AS):fU 0 (.str i) σ=some (.str i,[],[]):=rfl
noncomputable def DT(l:List Int)(k:Int):Option Int:=if -(2^62)<=k/\k<2^62 then(seqIndex? k l.length).bind (l[·]?)else none
theorem pH{i:Nat}{l:List Int}{k v:Int}{σ:AS}(Y:σ.st.lookup i=some (.list (l.map .int)))(h:DT l k=some v):aH (.loc i) (.int k) σ=some (.int v,σ):=by
 unfold DT at h
 refine fO h fun X h=>cE h fun j W Z=>tY Y X (by rw [db];exact W) (by rw [kH,Z];rfl)
mutual
theorem vx(r:Nat->Nat):∀(p:PV),eZ p=[]->gt r p=p
 |.none,_=>rfl
 |.bool _,_=>rfl
 |.int _,_=>rfl
 |.str _,_=>rfl
 |.tup Z,h=>by show PV.tup (dH r Z)=_;rw [mC r Z h]
 |.loc i,h=>EG h
 |.val _,_=>rfl
 |.hdr _ l,h=>EG h
 |.rng _ _,_=>rfl
 |.fl _,_=>rfl
 |.clo a b c d e Y,h=>by
  have:Y=[]:=yK.mp h;subst this;rfl
theorem mC(r:Nat->Nat):∀(Z:List PV),bA Z=[]->dH r Z=Z
 |[],_=>rfl
 |p::Z,h=>by
  have Y:eZ p++bA Z=[]:=h;rw [Jk]at Y
  show gt r p::dH r Z=_;rw [vx r p Y.1,mC r Z Y.2]
end
theorem JB(r:Nat->Nat):∀(W:AO),dc W=[]->il r W=W
 |.list Y,h=>bw AO.list (mC r Y h)
 |.cell (some p),h=>bw (fun q=>AO.cell (some q)) (vx r p h)
 |.cell none,_=>rfl
 |.dict Z,h=>by
  show AO.dict (Z.map fun x=>(x.1,gt r x.2))=_
  congr 1
  have T:bA (Z.map (·.2))=[]:=h;clear h
  induction Z with
  |nil=>rfl
  |cons V Z U=>
   have X:eZ V.2++bA (Z.map (·.2))=[]:=T;rw [Jk]at X
   rw [eh,U X.2,vx r V.2 X.1]
 |.set Y,h=>bw AO.set (mC r Y h)
theorem bK{st:List (Nat×AO)}{Z:List Nat}{i:Nat}{X:List Nat}{Y:AO}{l:List AO}(h:st.lookup i=some Y)(W:dc Y=[])(V:iL st Z X=some l):iL st Z (i::X)=some (Y::l):=by
 dsimp only [qc,qa];rw [h,V];dsimp only;rw [W,aJ (show iu Z []=true from rfl),JB _ _ W]
theorem cY{k:Nat}{p:PV}{σ:AS}{ids:List Nat}{l:List AO}(Z:List.range k++ja ((eZ p).filter fun i=>decide (k<=i))=ids)(Y:iL σ.st ids ids=some l)(X:(dm.nodupB ids&&iu ids (eZ p))=true):
  fU k p σ=some (gt (fun i=>ids.idxOf i) p,l.take k,l.drop k):=by
 unfold fU;rw [Z];dsimp only;rw [Y];dsimp only;rw [aJ X]
theorem xD(l:List Int):bA (l.map .int)=[]:=by induction l with|nil=>rfl|cons x l Z=>exact Z
theorem FV(l:List Str):bA (l.map .str)=[]:=by induction l with|nil=>rfl|cons x l Z=>exact Z
theorem ie(l:List Int):dc (.list (l.map .int))=[]:=xD l
theorem wy{C:bz}{Y:List PV}{p:PV}{σ:AS}(Z:bA Y=[])(X:eZ p=[])(W:C Y []=some (p,[],[])):dm C [] Y σ=some (p,σ):=by
 unfold dm;simp only [qc,qa];rw [Z];rw [aJ (by rfl),mC _ _ Z,W];simp only;rw [aJ ⟨rfl,rfl,rfl⟩,vx _ _ X];rfl
theorem tC(st:List (Nat×AO)):∀n,eU st n []=[]
 |0=>rfl
 |n+1=>by dsimp only [Jz,FN];exact tC st n
theorem bF{C:bz}{Y:LR}{ps:List PV}{p:PV}{σ σ₁:AS}(h:Y σ=some (ps,σ₁))(Z:bA ps=[])(X:eZ p=[])(W:C ps []=some (p,[],[])):aY C Y σ=some (p,σ₁):=by
 unfold aY;rw [h];dsimp only;rw [Z,tC];exact wy Z X W
theorem iN{i:Nat}{Z:List PV}{p:PV}{σ:AS}(h:σ.st.lookup i=some (.list Z))(Y:Z.length<=2^20):bu [.loc i,p] σ=some (.none,{σ with st:=aG σ.st i (.list (Z++[p]))}):=by show Ew i _ σ=_;rw [rU h Y]
theorem bX{pn V W:List Str}{Z:Nat->List PV}{Y:List AO}{f:Nat->SR}{X:List PV}{os:List AO}{σ:AS}(U:X.length+(Z os.length).length=pn.length)(T:cH pn V W (X++Z os.length) (os++Y)=σ):bW pn V W Z Y f X os=fM os.length (f (os++Y).length σ):=by
 unfold bW;rw [aJ U,T]
theorem rR(a b:Nat):Int.fdiv (a:Int) (b:Int)=((a/b:Nat):Int):=by
 rw [Cm _ (sM _)];rfl
theorem rq(a b:Nat):Builtin.bitAnd (a:Int) (b:Int)=((a&&&b:Nat):Int):=by
 unfold Builtin.bitAnd;have Y:decide (0<=(a:Int))=true:=dO (sM _);have Z:decide (0<=(b:Int))=true:=dO (sM _);rw [Y,Z];rfl
theorem wR{l:List Int}{i:Nat}{v:Int}(h:l[i]?=some v)(X:l.length<=1000):DT l (i:Int)=some v:=by
 have Z:=(jQ.mp h).1;unfold DT;rw [aJ (by exact(⟨aW 0x9010000000000000000e96a020 rfl,bD 0x80000000000000007484094840008021fa08000022 rfl X Z⟩))];have:seqIndex? (i:Int) l.length=some i:=by
  unfold seqIndex?;simp only;rw [show(if(i:Int)<0 then(i:Int)+(l.length:Int)else(i:Int))=(i:Int)from aO (by exact(fun Y=>DL Y)),aJ (by simp;exact AA Z)];simp
 rw [this];exact h
noncomputable def bV(Z:List Nat):List PV:=Z.map fun n:Nat=>.int (n:Int)
theorem GF(a b:List Nat):bV (a++b)=bV a++bV b:=lx ..
theorem mq{k n:Nat}(h:k<n):seqIndex? (k:Int) n=some k:=by
 unfold seqIndex?;simp only;rw [show(if(k:Int)<0 then(k:Int)+(n:Int)else(k:Int))=(k:Int)from aO (by exact(fun Z=>DL Z)),aJ (by simp;exact AA h)];simp
theorem dF{a i:Nat}{e:ER}{σ σ₁:AS}{ps₀ ps:List PV}{p:PV}(X:fQ σ.loc a=some (.loc i))(V:σ.st.lookup i=some (.list ps₀))(Y:e σ=some (p,σ₁))(W:σ₁.st.lookup i=some (.list ps))(Z:ps.length<=1000000):
  ck (aD "list" (ac a) (ae e al) bu) σ=some (.next,{σ₁ with st:=aG σ₁.st i (.list (ps++[p]))}):=
 jA (cf (ka X) (pN V) (aC (g:=al) Y rfl) (iN W (bP Z (by decide))))
theorem Hd(l:List Nat):bV l=(l.map fun n:Nat=>(n:Int)).map .int:=by simp [bV]
noncomputable def aw(l:List Nat):Str:=⟨l.toArray⟩
theorem pG(x:Str):aw x.cps.toList=x:=by cases x;simp [aw]
theorem tu(g:Str)(U:g.cps=#[]):∀(Z:List Str),Builtin.Str.glued g Z=aw ((Z.map fun p=>p.cps.toList).flatten):=by
 have W:∀(X:List Str) (Y:Array Nat),X.foldl (fun Y p=>Y++g.cps++p.cps) Y=(Y.toList++(X.map fun p=>p.cps.toList).flatten).toArray:=by
  intro X
  induction X with
  |nil=>intro Y;simp
  |cons p X V=>intro Y;rw [Aj,V,U];simp
 intro Z;unfold Builtin.Str.glued aw;cases Z with
 |nil=>rfl
 |cons p X=>rw [W];rfl
theorem Fl(l:List (List Nat)):Txt.join (Str.ofString "") (l.map aw)=aw l.flatten:=by
 show Builtin.Str.glued _ _=_;rw [tu (Str.ofString "") rfl]
 congr 1
 induction l with
 |nil=>rfl
 |cons x l Z=>simp only [eh,qX,Z];dsimp only [aw]
theorem AV(l:List (List Nat))(h:l.flatten.length<=1000000):JoinOk (Str.ofString "") (l.map aw)=true:=by
 unfold JoinOk;have Z:∀(l:List (List Nat)) (n:Nat),(l.map aw).foldl (fun a x=>a+x.length+(Str.ofString "").length) n=n+l.flatten.length:=by
  intro l
  induction l with
  |nil=>intro n;rfl
  |cons x l X=>intro n;rw [eh,Aj,X,show(Str.ofString "").length=0 from rfl,qX,jL,show(aw x).length=x.length by rfl];exact bY (cq 0x400804000840004200004210020 rfl) (cq 0x400042000042108010080010020 rfl)
 rw [<-Array.foldl_toList];show(!Builtin.Str.tooLong (((l.map aw).foldl (fun a x=>a+x.length+(Str.ofString "").length) 0)))=true;rw [Z];unfold Builtin.Str.tooLong;rw [qQ,qx,uD];exact fun Y=>aW 0x220020000006087d0900a000022 rfl h Y
theorem rg:∀l:List Str,iJ (l.map .str)=some l
 |[]=>rfl
 |x::l=>by simp [DX,Du,rg l]
theorem Lv{i:Nat}{l:List (List Nat)}{σ:AS}(h:σ.st.lookup i=some (.list ((l.map aw).map .str)))(Z:l.flatten.length<=1000000):jY [.str "",.loc i] σ=some (.str (aw l.flatten),σ):=by
 rw [wr,nu h];show(iJ _).bind _=_;rw [rg];show(if _ then _ else _)=_;rw [AV l Z,aJ rfl,Fl]
noncomputable def gC:List Nat->List Nat->Bool
 |[],_=>true
 |_::_,[]=>false
 |x::Y,y::Z=>cond (Nat.beq x y) (gC Y Z) false
theorem pC(w1_):gC [] w1_=(true):=rfl
theorem pM(Z w2_):gC (Z::w2_) []=(false):=rfl
theorem pJ(x xs y ys):gC (x::xs) (y::ys)=(cond (Nat.beq x y) (gC xs ys) false):=rfl
noncomputable def fF(b:List Nat)(X W:Nat):Nat->List Nat->Nat->Nat->Nat->List Nat
 |0,_,_,_,_=>[]
 |n+1,s,i,Z,Y=>cond (cond (Nat.beq Y 0) false (cond (Nat.ble Z i) (cond (Nat.ble (i+X) W) (gC b s) false) false)) (i::fF b X W n s.tail (i+1) (i+X) (Y-1)) (fF b X W n s.tail (i+1) Z Y)
theorem pS(b bl hi w1_ w2_ w3_ w4_):fF b bl hi 0 w1_ w2_ w3_ w4_=([]):=rfl
theorem jw(b bl hi n s i free lim):fF b bl hi (n+1) s i free lim=(cond (cond (Nat.beq lim 0) false (cond (Nat.ble free i) (cond (Nat.ble (i+bl) hi) (gC b s) false) false)) (i::fF b bl hi n s.tail (i+1) (i+bl) (lim-1)) (fF b bl hi n s.tail (i+1) free lim)):=rfl
theorem my:∀(b s:List Nat),gC b s=true↔s.take b.length=b
 |[],s=>by simp [pC,pM,pJ]
 |x::Z,[]=>by simp [pC,pM,pJ]
 |x::Z,y::Y=>by
  have X:=my Z Y;dsimp only [pC,pM,pJ];cases h:Nat.beq x y
  .simp only [lD,ge,ID]
   have:x≠y:=fun e=>by rw [e,Nat.beq_refl]at h;exact absurd h (by decide)
   simp;intro e;exact absurd e.symm this
  .have:=tU h
   subst this;simp [X]
theorem ra(a b:List Nat)(i:Nat):Builtin.Str.subAt (aw a) (aw b) i=gC b (a.drop i):=by
 have h:(Builtin.Str.subAt (aw a) (aw b) i=true)↔gC b (a.drop i)=true:=by
  rw [my];unfold Builtin.Str.subAt aw Str.length;simp only [gL,List.extract_toArray,tW];constructor
  .intro e
   have:=bw Array.toList e
   simpa [Ac]using this
  .intro e
   simp [Ac,e]
 cases Y:Builtin.Str.subAt (aw a) (aw b) i<;>cases Z:gC b (a.drop i)<;>simp_all
theorem zH(a b:List Nat)(Y Z:Nat):∀(n i:Nat) (st:Array Nat×Nat),(forIn (m:=Id) (List.range' i n) st (StrLaws.occBody (aw a) (aw b) Y Z)).run.fst.toList=st.1.toList++fF b b.length Y n (a.drop i) i st.2 (Z-st.1.size)
 |0,i,st=>by simp [pS,jw]
 |n+1,i,st=>by
  have R:(aw b).length=b.length:=by rfl
  rw [List.range'_succ,rt];have Q:(a.drop i).tail=a.drop (i+1):=by rw [ub]
  unfold StrLaws.occBody;rw [R,ra];dsimp only [pS,jw];rw [Q]
  by_cases W:((st.fst.size<Z/\st.snd<=i)/\i+b.length<=Y)/\gC b (a.drop i)=true
  .rw [aJ W]
   obtain⟨⟨⟨X,U⟩,V⟩,S⟩:=W;have P:Nat.beq (Z-st.1.size) 0=false:=by
    cases h:Nat.beq (Z-st.1.size) 0
    .rfl
    .have:=tU h;exact(cq 0x200004010a20088020840000423 rfl X this (aV (ii X)):False).elim
   rw [P,lq U,lq V,S];have T:=zH a b Y Z n (i+1) (st.1.push i,i+b.length);simp only [jX,lD];show(forIn (m:=Id) (List.range' (i+1) n) (st.1.push i,i+b.length) (StrLaws.occBody (aw a) (aw b) Y Z)).run.fst.toList=_;rw [T];simp only [Iz,Array.size_push,nU,zm];rw [show Z-(st.1.size+1)=Z-st.1.size-1 by omega]
  .rw [aO W]
   have T:=zH a b Y Z n (i+1) (st.1,st.2);have e:(cond (Nat.beq (Z-st.1.size) 0) false (cond (Nat.ble st.2 i) (cond (Nat.ble (i+b.length) Y) (gC b (a.drop i)) false) false))=false:=by
    by_cases X:st.fst.size<Z
    .by_cases U:st.snd<=i
     .by_cases V:i+b.length<=Y
      .have S:gC b (a.drop i)=false:=by
        cases h:gC b (a.drop i)
        .rfl
        .exact absurd ⟨⟨⟨X,U⟩,V⟩,h⟩ W
       rw [S];cases Nat.beq (Z-st.1.size) 0<;>cases Nat.ble st.2 i<;>cases Nat.ble (i+b.length) Y<;>rfl
      .have:Nat.ble (i+b.length) Y=false:=by cases h:Nat.ble (i+b.length) Y;rfl;exact absurd (qz h) V
       rw [this];cases Nat.beq (Z-st.1.size) 0<;>cases Nat.ble st.2 i<;>rfl
     .have:Nat.ble st.2 i=false:=by cases h:Nat.ble st.2 i;rfl;exact absurd (qz h) U
      rw [this];cases Nat.beq (Z-st.1.size) 0<;>rfl
    .have:Z-st.1.size=0:=by exact bY (aW 0x80000802000821 rfl (tn (sB X))) (aW 0x8020 rfl)
     rw [this];rfl
   rw [e,lD];exact T
theorem qT(a b:List Nat)(lo Y Z:Nat):Builtin.Str.occurrences (aw a) (aw b) lo Y Z=fF b b.length Y (Y+1-lo) (a.drop lo) lo lo Z:=by
 rw [StrLaws.occ_eq,zH];rfl
theorem bE(l:List Nat):(aw l).length=l.length:=by rfl
theorem Ku{a b:List Nat}:aw a=aw b↔a=b:=by
 constructor
 .intro h;have:=bw (fun x:Str=>x.cps.toList) h;simpa [aw]using this
 .intro h;rw [h]
noncomputable def mO:List Nat->Bool|[]=>true|_::_=>false
noncomputable def jm(a b:List Nat):Bool:=cond (mO (fF b b.length a.length (a.length+1) a 0 0 1)) false true
theorem wi(a b:List Nat):CO (aw a) (aw b)=jm a b:=by
 unfold CO jm;rw [bE,qT];rw [uZ,lN];cases fF b b.length a.length (a.length+1) a 0 0 1<;>rfl
noncomputable def mo(a b:List Nat):Bool:=gC b a
theorem Ec(a b:List Nat):Txt.startswith (aw a) (aw b)=mo a b:=by
 unfold Txt.startswith mo;rw [ra,bE,bE,lN];cases h:gC b a
 .simp
 .have:=(my b a).mp h
  have:=bw List.length this;rw [qZ]at this
  simp;exact cq 0x80100022000000840000a22 rfl this (Nat.min_le_right (b.length) (a.length))
noncomputable def sX(a b:List Nat):Bool:=cond (Nat.ble b.length a.length) (gC b (a.drop (a.length-b.length))) false
theorem Lp(a b:List Nat):Txt.endswith (aw a) (aw b)=sX a b:=by
 unfold Txt.endswith sX;rw [ra,bE,bE,Nat.zero_add]
 by_cases h:b.length<=a.length
 .rw [lq h];simp [h]
 .have:Nat.ble b.length a.length=false:=by cases Z:Nat.ble b.length a.length;rfl;exact absurd (qz Z) h
  rw [this];simp [h]
noncomputable def RQ:List Nat->Option Nat|[]=>none|k::_=>some k
noncomputable def xQ(a b:List Nat)(lo Z:Nat):Option Nat:=RQ (fF b b.length Z (Z+1-lo) (a.drop lo) lo lo 1)
theorem KR(a b:List Nat){lo Z:Nat}(U:lo<=a.length)(X:Z<=a.length):sP (aw a) (aw b) lo Z=(match xQ a b lo Z with|some k=>(k:Int)|none=>-1):=by
 unfold sP xQ;have V:fromIndex (aw a).length (lo:Int)=lo:=by
  unfold fromIndex;rw [bE,aO (by exact(fun Y=>DL Y))];omega
 have W:min (fromIndex (aw a).length (Z:Int)) (aw a).length=Z:=by
  unfold fromIndex;rw [bE,aO (by exact(fun Y=>DL Y)),Int.max_eq_right (sM _),iV];exact mx X
 rw [W,V,qT];cases fF b b.length Z (Z+1-lo) (a.drop lo) lo lo 1<;>rfl
noncomputable def kL(a:List Nat)(w:Nat):Nat->List Nat->List (List Nat)
 |i,[]=>[(a.drop i)]
 |i,c::Z=>((a.drop i).take (c-i))::kL a w (c+w) Z
theorem nw(a w i):kL a w i []=([(a.drop i)]):=rfl
theorem nQ(a w i c cs):kL a w i (c::cs)=(((a.drop i).take (c-i))::kL a w (c+w) cs):=rfl
noncomputable def lV(a b:List Nat):List (List Nat):=kL a b.length 0 (fF b b.length a.length (a.length+1) a 0 0 (a.length+1))
theorem nl(a:List Nat)(i j:Nat):Builtin.Str.strSub (aw a) i j=aw ((a.drop i).take (j-i)):=by
 unfold Builtin.Str.strSub aw;simp [Ac]
theorem xx(a:List Nat)(w:Nat):∀(Z:List Nat) (i:Nat),((i::Z.map (·+w)).zip (Z++[a.length])).map (fun(i,j)=>Builtin.Str.strSub (aw a) i j)=(kL a w i Z).map aw
 |[],i=>by
  simp only [List.map_nil,IU,tL,List.zip_nil_right,eh,nw,nQ,nl];rw [yb (by simp)]
 |c::Z,i=>by
  have Y:=xx a w Z (c+w);simp only [eh,zB,tL,nw,nQ,nl]at Y ⊢
  rw [<-Y]
theorem qw(a:List Nat)(Z:List Nat)(w:Nat):Builtin.Str.partsBetween (aw a) Z w=(kL a w 0 Z).map aw:=by
 unfold Builtin.Str.partsBetween;rw [bE];exact xx a w Z 0
theorem rO(b:List Nat)(W:Nat):∀(n:Nat) (s:List Nat) (i Z Y:Nat),s.length<b.length->fF b b.length W n s i Z Y=[]
 |0,_,_,_,_,_=>rfl
 |n+1,s,i,Z,Y,h=>by
  have:gC b s=false:=by
   cases V:gC b s
   .rfl
   .have:=bw List.length ((my b s).mp V);rw [qZ]at this;exact(cq 0x200821008028840000423 rfl h this (Ka (ii h)):False).elim
  dsimp only [pS,jw];rw [this,rO b W n s.tail (i+1) Z Y (by simp;exact(nk (1) (s.length)).elim (fun X=>cq 0x201002100021100420840000422 rfl h (aV (Do X))) (fun X=>cq 0x40200420088020840000422 rfl h (tn (aW 0x1080000842000021 rfl X))))];cases Nat.beq Y 0<;>cases Nat.ble Z i<;>cases Nat.ble (i+b.length) W<;>rfl
theorem EY(a b:List Nat)(X:∀x∈b,x<256):Txt.split (aw a) (aw b)=(lV a b).map aw:=by
 unfold Txt.split lV;rw [bE,bE,qT];rw [uZ,lN];have Y:(Builtin.Str.strKind (aw a)<Builtin.Str.strKind (aw b))=False:=by
  have:Builtin.Str.strKind (aw b)=1:=by
   unfold Builtin.Str.strKind aw;rw [aJ]
   simpa using X
  rw [this];unfold Builtin.Str.strKind
  repeat' split
  all_goals simp
 simp only [Y,decide_false,Bool.or_false,je]
 by_cases Z:a.length<b.length
 .rw [aJ Z,rO _ _ _ _ _ _ _ Z]
  rfl
 .rw [aO Z]
  cases W:fF b b.length a.length (a.length+1) a 0 0 (a.length+1)with
  |nil=>rfl
  |cons c V=>rw [aO (by exact(fun h=>EJ h)),<-qw]
noncomputable abbrev nI:List Nat:=[46,46,46]
theorem JH:Str.ofString "..."=aw nI:=by left
noncomputable def bL(l:List (List Nat)):List PV:=(l.map aw).map .str
theorem gH(l:List (List Nat)):(bL l).length=l.length:=by simp [bL]
noncomputable def sO:List Nat->List Nat->Bool
 |[],[]=>true
 |x::Y,y::Z=>cond (Nat.beq x y) (sO Y Z) false
 |_,_=>false
theorem OQ:sO [] []=(true):=rfl
theorem PN(y:Nat)(Z:List Nat):sO [] (y::Z)=false:=rfl
theorem Ou(y:Nat)(Z:List Nat):sO (y::Z) []=false:=rfl
theorem OR(x xs y ys):sO (x::xs) (y::ys)=(cond (Nat.beq x y) (sO xs ys) false):=rfl
theorem pF:∀a b:List Nat,sO a b=true↔a=b
 |[],[]=>by trivial
 |[],_::_=>by simp [PN]
 |_::_,[]=>by simp [Ou]
 |x::Y,y::Z=>by
  have X:=pF Y Z;dsimp only [OQ,OR];cases h:Nat.beq x y
  .have:x≠y:=fun e=>by rw [e,Nat.beq_refl]at h;exact absurd h (by decide)
   simp [this]
  .have:=tU h
   subst this;simp [X]
theorem kK(a b:List Nat):(aw a==aw b)=sO a b:=by
 have X:(aw a==aw b)=true↔sO a b=true:=by rw [pF,gL,Ku]
 cases Y:(aw a==aw b)<;>cases Z:sO a b<;>simp_all
noncomputable def tP(Z:List Nat):List (List Nat)->Nat->Nat->Option Bool
 |[],_,_=>some true
 |w::Y,s,e=>match xQ Z w s e with
  |none=>some false
  |some k=>cond (Nat.ble (k+w.length) e) (tP Z Y (k+w.length) e) none
theorem IT(got w1_ w2_):tP got [] w1_ w2_=(some true):=rfl
theorem JM(got w ws s e):tP got (w::ws) s e=(match xQ got w s e with
  |none=>some false
  |some k=>cond (Nat.ble (k+w.length) e) (tP got ws (k+w.length) e) none):=rfl
noncomputable def ve(Z:List Nat)(Y:List (List Nat))(s e:Nat):Option Bool:=cond (Nat.ble s e) (tP Z Y s e) (some false)
noncomputable def pD(Z:List Nat)(Y:List (List Nat))(s:Nat):Option Bool:=
 match Y.getLast? with
 |none=>none
 |some w=>cond (mO w) (ve Z Y s Z.length) (cond (sX Z w) (ve Z Y.dropLast s (Z.length-w.length)) (some false))
noncomputable def PX(Z Y:List Nat):Option Bool:=
 cond (jm Z nI) (match lV Z nI with
  |w::v::X=>cond (Nat.ble X.length 90) (cond (mO w) (pD Y (w::v::X) 0) (cond (mo Y w) (pD Y (v::X) w.length) (some false))) none
  |_=>none) (some (sO Z Y))
noncomputable def Oi:bz:=bW Cg xp wt (fun _=>[]) [] (fun n=>ya 100 n)
theorem Kz(a b:PV):cH Cg xp wt ([a,b]++[]) ([]++[])=⟨[some a,some b,none,none,none,none],[],0⟩:=by left
theorem wG(st:List (Nat×AO)){a:List Nat}(h:a.length<=1000):ia st (.str (aw a))=some (!mO a):=by
 unfold ia;dsimp only;rw [bE,aJ (bP h (by decide))];cases a with
 |nil=>rfl
 |cons x Y=>simp [mO];exact fun Z=>aW 0xa4214800912821 rfl Z
noncomputable abbrev Cn:SR:=(ar (am (aD "str" (ac 1) (ae (ac 5) (ae (ac 3) (ae (ac 4) al))) Ba) (ap 3))
 (ar (dn (au (ai (ac 3) (ab (.int 0)) vJ)) (ar (bq (ab (.bool false))) aq) aq)
 (ar (fA (ac 3) (aQ dC (ae (ac 5) al)) gv (ap 3))
 aq)))
theorem vv{p:PV}{Z:List PV}{σ:AS}{i j:Nat}(Y:σ.st.lookup i=some (.list Z))(X:Z[j]?=some p):jU σ (.lst i j)=some (some (p,.lst i (j+1))):=by
 show(cN (σ.st.lookup i)).bind _=_;rw [Y];show some ((Z[j]?).map _)=_;rw [X];rfl
theorem yG{Z:List PV}{σ:AS}{i j:Nat}(Y:σ.st.lookup i=some (.list Z))(X:Z[j]?=none):jU σ (.lst i j)=some none:=by
 show(cN (σ.st.lookup i)).bind _=_;rw [Y];show some ((Z[j]?).map _)=_;rw [X];rfl
theorem gR{Y:TR}{f o:SR}{p:PV}{X rest:List PV}{σ σ₁ Z:AS}{n i j:Nat}(W:σ.st.lookup i=some (.list X))(U:X.drop j=p::rest)(h:Y p σ=some σ₁)(T:f σ₁=some (.next,Z)):gU Y f o (n+1) (.lst i j) σ=gU Y f o n (.lst i (j+1)) Z:=by
 have V:X[j]?=some p:=by
  have:=bw List.head? U
  rwa [nZ]at this
 show(match jU σ (.lst i j)with|some (some (p,S))=>_|some none=>_|none=>_)=_;rw [vv W V];dsimp only;rw [h];dsimp only;rw [T]
theorem Li{V:TR}{f o:SR}{p q:PV}{X Y:List PV}{σ σ₁ Z:AS}{n i j:Nat}(W:σ.st.lookup i=some (.list X))(T:X.drop j=p::Y)(h:V p σ=some σ₁)(S:f σ₁=some (.ret q,Z)):gU V f o (n+1) (.lst i j) σ=some (.ret q,Z):=by
 have U:X[j]?=some p:=by
  have:=bw List.head? T
  rwa [nZ]at this
 show(match jU σ (.lst i j)with|some (some (p,R))=>_|some none=>_|none=>_)=_;rw [vv W U];dsimp only;rw [h];dsimp only;rw [S]
theorem mI{X:TR}{f o:SR}{Z:List PV}{σ:AS}{n i j:Nat}(Y:σ.st.lookup i=some (.list Z))(V:Z.drop j=[]):gU X f o (n+1) (.lst i j) σ=o σ:=by
 have W:Z[j]?=none:=by
  have:=bw List.head? V
  rwa [nZ]at this
 show(match jU σ (.lst i j)with|some (some (p,U))=>_|some none=>_|none=>_)=_;rw [yG Y W]
theorem fe{Y:Type}{X Z:List Y}{j:Nat}{p:Y}(h:X.drop j=p::Z):X.drop (j+1)=Z:=by
 rw [<-ub,h];rfl
theorem iR{n:Nat}{e:ER}{tg:TR}{f o:SR}{σ σ₁:AS}{i:Nat}{ps:List PV}(h:e σ=some (.loc i,σ₁))(Z:σ₁.st.lookup i=some (.list ps)):er n (cy e) tg f o σ=gU tg f o n (.lst i 0) σ₁:=by
 have Y:cy e σ=some (.lst i 0,σ₁):=(bi h).trans (by show((cN (σ₁.st.lookup i)).bind _).bind _=_;rw [Z];rfl);unfold er;rw [Y]
theorem NZ{Z:List Nat}(D:Z.length<=1000){l0 l2:Option PV}{st:List (Nat×AO)}{nx:Nat}{e:Nat}(N:e<=Z.length){r:Bool}{i:Nat}{M:List PV}(X:st.lookup i=some (.list M)):∀(V:List (List Nat)) (s:Nat) (S:Option PV) (j n:Nat),M.drop j=bL V->V.length<n->(∀w∈V,w.length<=1000)->s<=e->tP Z V s e=some r->
  ∃W,gU (ap 5) Cn aq n (.lst i j) ⟨[l0,cS (aw Z),l2,cI (s:Int),cI (e:Int),S],st,nx⟩=some (if r then .next else .ret (.bool false),W)
 |_,s,S,j,0,_,R,_,_,h=>absurd R (fg _)
 |[],s,S,j,n+1,U,R,_,_,h=>by obtain rfl:=bc h;exact⟨_,mI (σ:=⟨_,st,nx⟩) X U⟩
 |w::V,s,S,j,n+1,U,R,J,F,h=>by
  have Q:=J w (.head _);have Y:am (aD "str" (ac 1) (ae (ac 5) (ae (ac 3) (ae (ac 4) al))) Ba) (ap 3) ⟨[l0,cS (aw Z),l2,cI (s:Int),cI (e:Int),cS (aw w)],st,nx⟩=some (.next,⟨[l0,cS (aw Z),l2,cI (sP (aw Z) (aw w) s e),cI (e:Int),cS (aw w)],st,nx⟩):=rfl;rw [KR Z w (bP F N) N]at Y
  dsimp only [IT,JM]at h
  cases I:xQ Z w s e with
  |none=>
   rw [I]at h Y
   obtain rfl:=bc h;exact⟨⟨[l0,cS (aw Z),l2,cI (-1),cI (e:Int),cS (aw w)],st,nx⟩,Li (σ:=⟨_,st,nx⟩) X U (σ₁:=⟨[l0,cS (aw Z),l2,cI (s:Int),cI (e:Int),cS (aw w)],st,nx⟩) rfl ((aj Y).trans rfl)⟩
  |some k=>
   rw [I]at h Y
   dsimp only at h Y
   by_cases O:k+w.length<=e
   .rw [lq O,jX]at h
    obtain⟨W,B⟩:=NZ D (l0:=l0) (l2:=l2) (st:=st) (nx:=nx) N X V (k+w.length) (some (.str (aw w))) (j+1) n (fe U) (Fs R) (fun v G=>J v (.tail _ G)) O h;refine⟨W,(gR (σ:=⟨_,st,nx⟩) X U (σ₁:=⟨[l0,cS (aw Z),l2,cI (s:Int),cI (e:Int),cS (aw w)],st,nx⟩) rfl ?_).trans B⟩;refine(aj Y).trans ?_
    have P:au (ai (ac 3) (ab (.int 0)) vJ) ⟨[l0,cS (aw Z),l2,cI (k:Int),cI (e:Int),cS (aw w)],st,nx⟩=some (false,⟨[l0,cS (aw Z),l2,cI (k:Int),cI (e:Int),cS (aw w)],st,nx⟩):=
     aS (av rfl rfl rfl) (by show some (decide ((k:Int)<0))=_;rw [ix (by exact(fun H=>DL H))])
    refine(aj (bM P)).trans ?_
    have E:dC [.str (aw w)] ⟨[l0,cS (aw Z),l2,cI (k:Int),cI (e:Int),cS (aw w)],st,nx⟩=some (.int (w.length:Int),⟨[l0,cS (aw Z),l2,cI (k:Int),cI (e:Int),cS (aw w)],st,nx⟩):=by
     show(if(aw w).length<=2^30 then some (PV.int ((aw w).length:Nat),_)else none)=_;rw [bE,aJ (bP Q (by decide))]
    have T:fA (ac 3) (aQ dC (ae (ac 5) al)) gv (ap 3) ⟨[l0,cS (aw Z),l2,cI (k:Int),cI (e:Int),cS (aw w)],st,nx⟩=some (.next,⟨[l0,cS (aw Z),l2,cI ((k+w.length:Nat):Int),cI (e:Int),cS (aw w)],st,nx⟩):=by
     exact ot rfl (ce (aC (g:=al) rfl rfl) E) rfl rfl
    exact aj T
   .have:Nat.ble (k+w.length) e=false:=by cases C:Nat.ble (k+w.length) e;rfl;exact absurd (qz C) O
    rw [this]at h;exact aZ h
theorem Io{a b:Nat}(h:¬a<=b):Nat.ble a b=false:=by cases Z:Nat.ble a b;rfl;exact absurd (qz Z) h
theorem ro{a:List Nat}{σ:AS}(h:a.length<=1000):dC [.str (aw a)] σ=some (.int (a.length:Int),σ):=by
 show(if(aw a).length<=2^30 then some (PV.int ((aw a).length:Nat),_)else none)=_;rw [bE,aJ (bP h (by decide))]
theorem uq{Z:List PV}{σ:AS}{i:Nat}(Y:σ.st.lookup i=some (.list Z))(h:Z.length<=1000):dC [.loc i] σ=some (.int (Z.length:Int),σ):=by
 show(IG (σ.st.lookup i)).bind _=_;rw [Y];exact aJ (bP h (by decide))
theorem lu{n:Nat}(h:0<n):seqIndex? (-1) n=some (n-1):=by
 unfold seqIndex?;have e:(if(-1:Int)<0 then(-1:Int)+n else -1)=-1+n:=aJ (by decide);simp only [e];have:(decide ((0:Int)<=-1+(n:Int))&&decide (-1+(n:Int)<(n:Int)))=true:=by simp;exact⟨aW 0x1210a5a2005280800008421 rfl h,aW 0x480090852d12420 rfl⟩
 rw [aJ this]
 congr 1;exact bY (cq 0x20000008401088021442048429688004a822 rfl (eO (aW 0x1210a5a2005280800008421 rfl h)) (aV (LD h))) (cq 0x200000084090852d10809544200840010822 rfl (aV (LD h)) (eO (aW 0x1210a5a2005280800008421 rfl h)))
theorem qJ{Z:List PV}{p:PV}{σ:AS}{i:Nat}(Y:σ.st.lookup i=some (.list Z))(h:Z.getLast?=some p):aH (.loc i) (.int (-1)) σ=some (p,σ):=by
 have X:0<Z.length:=by cases Z;exact aZ h;exact kc _
 exact tY Y (by decide) (lu X) (by rw [<-Ij];exact h)
theorem IN{Z:List PV}{σ:AS}{i:Nat}(Y:σ.st.lookup i=some (.list Z))(X:0<Z.length)(W:Z.length<=1000):mE (.loc i) (.int (-1)) σ=some (.none,{σ with st:=aG σ.st i (.list Z.dropLast)}):=by
 show Ew i _ σ=_;rw [rU Y (bP W (by decide)),aJ (by decide),lu X];show some _=_;rw [List.eraseIdx_eq_dropLast (by exact(bY (bD 0x40108002004200840010821 rfl (aV (LD X))) (bD 0x42000820004200840010a21 rfl (aV (LD X)))))]
theorem DO{p:PV}{ps:List PV}{σ:AS}{i:Nat}(Z:σ.st.lookup i=some (.list (p::ps)))(Y:ps.length<1000):mE (.loc i) (.int 0) σ=some (.none,{σ with st:=aG σ.st i (.list ps)}):=by
 show Ew i _ σ=_;rw [rU Z (bP (show(p::ps).length<=1000 from Y) (by decide)),aJ (by decide)];have:seqIndex? 0 (p::ps).length=some 0:=by
  unfold seqIndex?;simp only [ge];have:(decide ((0:Int)<=0)&&decide ((0:Int)<((ps.length+1:Nat):Int)))=true:=by simp;try omega
  simp [this];try omega
 rw [this];rfl
theorem Fe{fo X:ER}{σ σ₁ Y Z:AS}{p q:PV}(U:fo σ=some (p,σ₁))(V:X σ₁=some (q,Y))(W:mE p q Y=some (.none,Z)):jh fo X σ=some (.next,Z):=by
 show eY fo _ σ=_;rw [bi U,bi V,bi W]
noncomputable abbrev Nv:SR:=(ar (dn (au (ai (ac 3) (ac 4) OO)) (ar (bq (ab (.bool false)))
 aq) aq)
 (ar (er 100 (cy (ac 2)) (ap 5) Cn aq)
 (ar (bq (ab (.bool true)))
 aq)))
noncomputable abbrev Sv:SR:=(ar (am (ai (ac 2) (ca (ab (.int 1)) eE) aH) (ap 5))
 (ar (dn (au (ac 5)) (ar (dn (au (aD "str" (ac 1) (ae (ac 5) al) CX)) (ar (fA (ac 4) (aQ dC (ae (ac 5) al)) dB (ap 4))
 (ar (jh (ac 2) (ca (ab (.int 1)) eE))
 aq)) (ar (bq (ab (.bool false)))
 aq))
 aq) aq)
 Nv))
theorem Fo{Z:List Nat}{W:List (List Nat)}{s e:Nat}{r:Bool}{l0 l5:Option PV}{st:List (Nat×AO)}{nx:Nat}(P:Z.length<=1000)(O:e<=Z.length)(X:st.lookup 0=some (.list (bL W)))(R:∀w∈W,w.length<=1000)(Q:W.length<100)(h:ve Z W s e=some r):
  ∃Y,Nv ⟨[l0,cS (aw Z),cL 0,cI (s:Int),cI (e:Int),l5],st,nx⟩=some (.ret (.bool r),Y):=by
 unfold ve at h
 have V:au (ai (ac 3) (ac 4) OO) ⟨[l0,cS (aw Z),cL 0,cI (s:Int),cI (e:Int),l5],st,nx⟩=some (decide ((e:Int)<(s:Int)),⟨[l0,cS (aw Z),cL 0,cI (s:Int),cI (e:Int),l5],st,nx⟩):=aS (av rfl rfl rfl) rfl
 by_cases U:s<=e
 .rw [lq U,jX]at h
  rw [ix (by exact(fun S=>bD 0x9081290840000022 rfl U S))]at V
  obtain⟨Y,T⟩:=NZ P (l0:=l0) (l2:=some (.loc 0)) (nx:=nx) O X W s l5 0 100 rfl Q R U h;cases r with
  |true=>exact⟨Y,(aj (bM V)).trans ((aj ((iR (σ₁:=⟨_,st,nx⟩) rfl X).trans T)).trans rfl)⟩
  |false=>exact⟨Y,(aj (bM V)).trans (aR ((iR (σ₁:=⟨_,st,nx⟩) rfl X).trans T))⟩
 .rw [Io U]at h
  obtain rfl:=bc h;rw [dO (by exact(bD 0x9081290840000c21 rfl U))]at V
  exact⟨_,aR ((cK V).trans rfl)⟩
theorem AG{Z:List (List Nat)}{w:List Nat}(h:Z.getLast?=some w):(bL Z).getLast?=some (.str (aw w)):=by simp [bL,h]
theorem rk(Z:List (List Nat)):(bL Z).dropLast=bL Z.dropLast:=by simp [bL,List.map_dropLast]
theorem Cs{Z:List Nat}{W:List (List Nat)}{s:Nat}{r:Bool}{l0 l5:Option PV}{st:List (Nat×AO)}{nx:Nat}(I:Z.length<=1000)(V:st.lookup 0=some (.list (bL W)))(O:∀w∈W,w.length<=1000)(N:W.length<100)(h:pD Z W s=some r):
  ∃Y,Sv ⟨[l0,cS (aw Z),cL 0,cI (s:Int),cI (Z.length:Int),l5],st,nx⟩=some (.ret (.bool r),Y):=by
 unfold pD at h
 cases R:W.getLast? with
 |none=>rw [R]at h;exact aZ h
 |some w=>
  rw [R]at h
  dsimp only at h
  have U:=O w (List.mem_of_getLast? R);have G:0<W.length:=by cases W;exact aZ R;exact kc _
  have M:am (ai (ac 2) (ca (ab (.int 1)) eE) aH) (ap 5) ⟨[l0,cS (aw Z),cL 0,cI (s:Int),cI (Z.length:Int),l5],st,nx⟩=some (.next,⟨[l0,cS (aw Z),cL 0,cI (s:Int),cI (Z.length:Int),cS (aw w)],st,nx⟩):=
   aB (av rfl rfl (qJ (σ:=⟨_,st,nx⟩) V (AG R))) rfl
  have Q:au (ac 5) ⟨[l0,cS (aw Z),cL 0,cI (s:Int),cI (Z.length:Int),cS (aw w)],st,nx⟩=some (!mO w,⟨[l0,cS (aw Z),cL 0,cI (s:Int),cI (Z.length:Int),cS (aw w)],st,nx⟩):=aS rfl (wG st U);cases T:mO w with
  |true=>
   rw [T]at h Q
   obtain⟨Y,J⟩:=Fo (l0:=l0) (l5:=some (.str (aw w))) (nx:=nx) I (bU _) V O N h;exact⟨Y,(aj M).trans ((aj (bM Q)).trans J)⟩
  |false=>
   rw [T]at h Q
   have P:au (aD "str" (ac 1) (ae (ac 5) al) CX) ⟨[l0,cS (aw Z),cL 0,cI (s:Int),cI (Z.length:Int),cS (aw w)],st,nx⟩=some (sX Z w,⟨[l0,cS (aw Z),cL 0,cI (s:Int),cI (Z.length:Int),cS (aw w)],st,nx⟩):=by
    rw [<-Lp];exact aS (cf rfl qW rfl rfl) rfl
   cases X:sX Z w with
   |false=>
    rw [X]at h P
    obtain rfl:=bc h;exact⟨_,(aj M).trans (aR ((cK Q).trans (aR ((bM P).trans rfl))))⟩
   |true=>
    rw [X]at h P
    simp only [jX,lD]at h
    have S:w.length<=Z.length:=by
     unfold sX at X
     cases H:Nat.ble w.length Z.length
     .rw [H]at X;exact EJ X
     .exact qz H
    have F:fA (ac 4) (aQ dC (ae (ac 5) al)) dB (ap 4) ⟨[l0,cS (aw Z),cL 0,cI (s:Int),cI (Z.length:Int),cS (aw w)],st,nx⟩=some (.next,⟨[l0,cS (aw Z),cL 0,cI (s:Int),cI ((Z.length:Int)-(w.length:Int)),cS (aw w)],st,nx⟩):=
     ot rfl (ce rfl (ro U)) rfl rfl
    rw [show(Z.length:Int)-(w.length:Int)=((Z.length-w.length:Nat):Int)by exact cX (cq 0x484091012c404400800010a21 rfl (aV (kT S))) (cq 0x204880960009404400800010821 rfl (aV (kT S)))]at F
    have D:jh (ac 2) (ca (ab (.int 1)) eE) ⟨[l0,cS (aw Z),cL 0,cI (s:Int),cI ((Z.length-w.length:Nat):Int),cS (aw w)],st,nx⟩=some (.next,⟨[l0,cS (aw Z),cL 0,cI (s:Int),cI ((Z.length-w.length:Nat):Int),cS (aw w)],aG st 0 (.list (bL W.dropLast)),nx⟩):=by
     rw [<-rk];exact Fe rfl rfl (IN (σ:=⟨_,st,nx⟩) V (by rw [gH];exact G) (by rw [gH];exact aW 0x7d04000011908000421 rfl N))
    obtain⟨Y,J⟩:=Fo (l0:=l0) (l5:=some (.str (aw w))) (st:=aG st 0 (.list (bL W.dropLast))) (nx:=nx) I (Nat.sub_le _ _) ba (fun v E=>O v (List.dropLast_subset _ E)) (by rw [List.length_dropLast];exact bD 0x190810042000421008411908000422 rfl N (aV (LD G))) h;exact⟨Y,(aj M).trans ((aj ((cK Q).trans ((aj ((cK P).trans ((aj F).trans ((aj D).trans rfl)))).trans rfl))).trans J)⟩
theorem sS(a:List Nat)(w:Nat):∀(Y:List Nat) (i:Nat),∀v∈kL a w i Y,v.length<=a.length
 |[],i,v,h=>by rw [cJ.mp h,nW];exact(nk (i) (a.length)).elim (fun Z=>DP (aV (kT Z))) (fun Z=>bD 0x1000000802000821 rfl (tn (kT Z)))
 |c::Y,i,v,h=>by
  rcases cC.mp h with h|h
  .rw [h,qZ,nW];omega
  .exact sS a w Y (c+w) v h
theorem Pq{want got:List Nat}{r:Bool}(B:want.length<=1000)(H:got.length<=1000)(h:PX want got=some r):Oi [.str (aw want),.str (aw got)] []=some (.bool r,[],[]):=by
 unfold Oi;rw [bX (σ:=⟨[cS (aw want),cS (aw got),none,none,none,none],[],0⟩) rfl (Kz _ _)]
 suffices y:∃X,ya 100 ([]++([]:List AO)).length ⟨[cS (aw want),cS (aw got),none,none,none,none],[],0⟩=some (.ret (.bool r),X)by
  obtain⟨X,e⟩:=y;rw [e];exact yC r X
 unfold ya;rw [JH];unfold PX at h
 have Q:au (ai (ab (.str (aw nI))) (ac 0) mS) ⟨[cS (aw want),cS (aw got),none,none,none,none],[],0⟩=some (!jm want nI,⟨[cS (aw want),cS (aw got),none,none,none,none],[],0⟩):=by
  rw [<-wi];exact aS (av rfl rfl rfl) rfl
 cases R:jm want nI with
 |false=>
  rw [R]at h Q
  obtain rfl:=bc h;rw [<-kK];exact⟨_,aR ((cK Q).trans (aR (cP (av rfl rfl rfl))))⟩
 |true=>
  rw [R,jX]at h
  rw [R]at Q
  have Y:∀v∈lV want nI,v.length<=1000:=fun v A=>bP (sS _ _ _ _ v A) B
  have O:=EY want nI (by decide);cases T:lV want nI with
  |nil=>rw [T]at h;exact aZ h
  |cons w P=>
  cases P with
  |nil=>rw [T]at h;exact aZ h
  |cons v Z=>
  rw [T]at h Y O
  dsimp only at h
  by_cases W:Z.length<=90
  .rw [lq W,jX]at h
   have S:(Builtin.Str.partsBetween (aw want) (Builtin.Str.occurrences (aw want) (aw nI) 0 (aw want).length ((aw want).length+1)) (aw nI).length).length<=2^20:=by
    rw [qw,bE,bE,qT];have:(lV want nI).length<=2^20:=by rw [T];simp;exact aW 0x1ffffc5000011688000021 rfl W
    simpa [lV]using this
   have D:am (aD "str" (ac 0) (ae (ab (.str (aw nI))) al) zf) (ap 2) ⟨[cS (aw want),cS (aw got),none,none,none,none],[],0⟩=some (.next,⟨[cS (aw want),cS (aw got),cL 0,none,none,none],[(0,.list (bL (w::v::Z)))],1⟩):=by
    refine aB (σ₁:=⟨[cS (aw want),cS (aw got),none,none,none,none],[(0,.list (bL (w::v::Z)))],1⟩) (cf rfl qW rfl ?_) rfl;show(if _ then _ else _)=_;rw [aJ ⟨by rw [bE];rfl,by rw [bE];exact bP B (by decide),S⟩,O];rfl
   have U:([(0,AO.list (bL (w::v::Z)))]:List (Nat×AO)).lookup 0=some (.list (bL (w::v::Z))):=cm;have V:(bL (w::v::Z)).length=Z.length+2:=by rw [gH];rfl
   have E:vD (au (ai (aQ dC (ae (ac 2) al)) (ab (.int 2)) Qb)) ⟨[cS (aw want),cS (aw got),cL 0,none,none,none],[(0,.list (bL (w::v::Z)))],1⟩=some (.next,⟨[cS (aw want),cS (aw got),cL 0,none,none,none],[(0,.list (bL (w::v::Z)))],1⟩):=by
    have:au (ai (aQ dC (ae (ac 2) al)) (ab (.int 2)) Qb) ⟨[cS (aw want),cS (aw got),cL 0,none,none,none],[(0,.list (bL (w::v::Z)))],1⟩=some (true,⟨[cS (aw want),cS (aw got),cL 0,none,none,none],[(0,.list (bL (w::v::Z)))],1⟩):=by
     refine aS (p:=.bool true) (av (ce rfl (uq (σ:=⟨_,_,_⟩) U (by rw [V];exact aW 0x3e820820008011688000021 rfl W))) rfl ?_) rfl;rw [V];show some (PV.bool (decide ((2:Int)<=((Z.length+2:Nat):Int))),_)=_;rw [dO (by exact(aW 0x10400124414a020 rfl))]
    exact bi (g:=fun c σ=>cond c (some (AF.next,σ)) none) this
   have F:jd (bT (ae (ab (.int 0)) (ae (aQ dC (ae (ac 1) al)) al))) 3 4 ⟨[cS (aw want),cS (aw got),cL 0,none,none,none],[(0,.list (bL (w::v::Z)))],1⟩=some (.next,⟨[cS (aw want),cS (aw got),cL 0,cI ((0:Nat):Int),cI (got.length:Int),none],[(0,.list (bL (w::v::Z)))],1⟩):=by
    exact(va (eo (ps:=[.int 0,.int (got.length:Int)]) (aC (g:=ae (aQ dC (ae (ac 1) al)) al) rfl (aC (g:=al) (ce (aC (g:=al) rfl rfl) (ro H)) rfl)) (by show 2<=2^20;decide))).trans rfl
   have G:am (ai (ac 2) (ab (.int 0)) aH) (ap 5) ⟨[cS (aw want),cS (aw got),cL 0,cI ((0:Nat):Int),cI (got.length:Int),none],[(0,.list (bL (w::v::Z)))],1⟩=some (.next,⟨[cS (aw want),cS (aw got),cL 0,cI ((0:Nat):Int),cI (got.length:Int),cS (aw w)],[(0,.list (bL (w::v::Z)))],1⟩):=by
    refine aB (σ₁:=⟨[cS (aw want),cS (aw got),cL 0,cI ((0:Nat):Int),cI (got.length:Int),none],[(0,.list (bL (w::v::Z)))],1⟩) (p:=.str (aw w)) (av rfl rfl ?_) rfl;exact tY U (by decide) (mq (k:=0) (by rw [V];exact aW 0x410004008420 rfl)) rfl
   have J:au (ac 5) ⟨[cS (aw want),cS (aw got),cL 0,cI ((0:Nat):Int),cI (got.length:Int),cS (aw w)],[(0,.list (bL (w::v::Z)))],1⟩=some (!mO w,⟨[cS (aw want),cS (aw got),cL 0,cI ((0:Nat):Int),cI (got.length:Int),cS (aw w)],[(0,.list (bL (w::v::Z)))],1⟩):=aS rfl (wG _ (Y w (.head _)));cases M:mO w with
   |true=>
    rw [M]at h J
    obtain⟨X,C⟩:=Cs (l0:=some (.str (aw want))) (l5:=some (.str (aw w))) (nx:=1) H U Y (by simp;exact aW 0x32102108400108211688000021 rfl W) h;exact⟨X,(aj (bM Q)).trans ((aj D).trans ((aj E).trans ((aj F).trans ((aj G).trans ((aj (bM J)).trans C)))))⟩
   |false=>
    rw [M]at h J
    have I:au (aD "str" (ac 1) (ae (ac 5) al) vh) ⟨[cS (aw want),cS (aw got),cL 0,cI ((0:Nat):Int),cI (got.length:Int),cS (aw w)],[(0,.list (bL (w::v::Z)))],1⟩=some (mo got w,⟨[cS (aw want),cS (aw got),cL 0,cI ((0:Nat):Int),cI (got.length:Int),cS (aw w)],[(0,.list (bL (w::v::Z)))],1⟩):=by
     rw [<-Ec];exact aS (cf rfl qW rfl rfl) rfl
    cases N:mo got w with
    |false=>
     rw [N]at h I
     obtain rfl:=bc h;exact⟨_,(aj (bM Q)).trans ((aj D).trans ((aj E).trans ((aj F).trans ((aj G).trans (aR ((cK J).trans (aR ((bM I).trans rfl))))))))⟩
    |true=>
     rw [N]at h I
     simp only [jX,lD]at h
     have t:am (aQ dC (ae (ac 5) al)) (ap 3) ⟨[cS (aw want),cS (aw got),cL 0,cI ((0:Nat):Int),cI (got.length:Int),cS (aw w)],[(0,.list (bL (w::v::Z)))],1⟩=some (.next,⟨[cS (aw want),cS (aw got),cL 0,cI (w.length:Int),cI (got.length:Int),cS (aw w)],[(0,.list (bL (w::v::Z)))],1⟩):=
      aB (ce rfl (ro (Y w (.head _)))) rfl
     have x:jh (ac 2) (ab (.int 0)) ⟨[cS (aw want),cS (aw got),cL 0,cI (w.length:Int),cI (got.length:Int),cS (aw w)],[(0,.list (bL (w::v::Z)))],1⟩=some (.next,⟨[cS (aw want),cS (aw got),cL 0,cI (w.length:Int),cI (got.length:Int),cS (aw w)],aG [(0,.list (bL (w::v::Z)))] 0 (.list (bL (v::Z))),1⟩):=
      Fe rfl rfl (DO (σ:=⟨_,_,_⟩) (p:=.str (aw w)) (ps:=bL (v::Z)) U (by rw [gH];simp;exact aW 0x3e820420008211688000021 rfl W))
     obtain⟨X,C⟩:=Cs (l0:=some (.str (aw want))) (l5:=some (.str (aw w))) (st:=aG [(0,.list (bL (w::v::Z)))] 0 (.list (bL (v::Z)))) (nx:=1) H ba (fun u z=>Y u (.tail _ z)) (by simp;exact aW 0x6420420008211688000021 rfl W) h;exact⟨X,(aj (bM Q)).trans ((aj D).trans ((aj E).trans ((aj F).trans ((aj G).trans ((aj ((cK J).trans ((aj ((cK I).trans ((aj t).trans ((aj x).trans rfl)))).trans rfl))).trans C)))))⟩
  .rw [Io W]at h;exact aZ h
theorem xR(a:List Nat){i j:Nat}(Z:i<=j)(Y:j<=a.length):Txt.slice (aw a) (some (i:Int)) (some (j:Int))=aw ((a.drop i).take (j-i)):=by
 have:=slice_closesL (x:=aw a) (i:=(i:Int)) (j:=(j:Int)) (by exact(EC)) (by exact(bD 0x409001280840000021 rfl Z)) (by rw [bE];exact bD 0x409001280840000021 rfl Y);rw [gL]at this
 rw [this];unfold aw;rw [show((j:Int)-(i:Int)).toNat=j-i by exact bY (iF 0x18000004201006010a22024204b0004a822 rfl (eO (bD 0x90812c005280840000021 rfl Z)) (aV (kT Z))) (iF 0x18000004204880960c09544400800010822 rfl (aV (kT Z)) (eO (bD 0x90812c005280840000021 rfl Z))),iV]
theorem sD(a:List Nat){i:Nat}(Z:i<=a.length):Txt.slice (aw a) (some (i:Int)) none=aw (a.drop i):=by
 have:=slice_closes_fromL (x:=aw a) (i:=(i:Int)) (b:=(a.length:Int)) (by exact(EC)) (by rw [bE];exact bD 0x409001280840000021 rfl Z) (by rw [bE]);rw [gL]at this
 rw [this];unfold aw;have e:(⟨a.toArray⟩:Str).cps.toList=a:=rfl;rw [e,iV,yb (by rw [nW];exact iF 0x18000004204880960c09544400800010822 rfl (aV (kT Z)) (eO (bD 0x90812c005280840000021 rfl Z)))]
theorem Kl{Y:Type}(Z:List Y)(a n:Nat)(h:a+n<=Z.length):((List.range n).map (a+·)).filterMap (Z[·]?)=(Z.drop a).take n:=by
 induction n generalizing a Z with
 |zero=>rfl
 |succ n X=>
  rw [Hq,lx,List.filterMap_append,X Z a (by exact(cq 0x400800010022004210080010021 rfl h))];have:Z[a+n]?=some (Z[a+n]'(by exact(cq 0x400800010422004210080010021 rfl h))):=fh _
  simp only [eh,List.map_nil,lz,this,Hk];rw [FC,List.getElem?_drop,this];rfl
structure SM where
 acc:List Nat
 seg:List Nat
 op:Option (List Nat)
noncomputable def fS(m:SM)(c:Nat):SM:={m with seg:=m.seg++[c]}
noncomputable def iC(m:SM):SM:=match m.op with
 |none=>{m with seg:=m.seg++[34],op:=some m.seg}
 |some o=>⟨m.acc++o,[],none⟩
noncomputable def li:Bool->List Nat->SM->SM
 |_,[],m=>m
 |true,c::Z,m=>li false Z (fS m c)
 |false,c::Z,m=>if c=92 then li true Z (fS m 92)else if c=34 then li false Z (iC m)else li false Z (fS m c)
theorem pT(w1_ m):li w1_ [] m=(m):=rfl
theorem pP(c cs m):li true (c::cs) m=(li false cs (fS m c)):=rfl
theorem pK(c cs m):li false (c::cs) m=(if c=92 then li true cs (fS m 92)else if c=34 then li false cs (iC m)else li false cs (fS m c)):=rfl
noncomputable def cB(Z:List Nat):List Nat:=(li false Z ⟨[],[],none⟩).acc++(li false Z ⟨[],[],none⟩).seg
noncomputable abbrev qg:SR:=(ar (dn (au (ai (ac 5) (ab (.str (aw [34]))) fE)) (ar (dn (au (ai (ac 2) (ab .none) MW)) (ar (am (ac 4) (ap 2))
 aq) (ar (dn (au (ai (ac 1) (ac 2) pA)) (ar (ck (aD "list" (ac 3) (ae (eb (ac 0) (eV (ac 1)) (eV (ac 2))) al) bu))
 aq) aq)
 (ar (am (ai (ac 4) (ab (.int 1)) bk) (ap 1))
 (ar (am (ab .none) (ap 2))
 aq))))
 aq) aq)
 aq)
noncomputable abbrev Rp:TR:=(dk 2 (aU (ap 4) (aU (ap 5) cp)))
noncomputable def At:Option Nat->PV
 |none=>.none
 |some o=>.int (o:Int)
theorem kq{a:List Nat}{i s c:Nat}{V:List Nat}(h:a.drop i=c::V)(Y:s<=i):(a.take (i+1)).drop s=(a.take i).drop s++[c]:=by
 have X:i<a.length:=by
  have:=bw List.length h;simp at this;exact(nk (i) (a.length)).elim (fun Z=>iF 0x30080108c0200002104210804000a22 rfl this (aV (kT Z))) (fun Z=>(bD 0x400104210804000a22 rfl this (tn (kT Z)):False).elim)
 have W:a[i]?=some c:=by
  have:=bw List.head? h
  rwa [nZ]at this
 rw [FC,W];exact List.drop_append_of_le_length (by rw [qZ];exact cq 0x80000021008028840000022 rfl Y (mx (ii X)))
theorem Jh{a:List Nat}{s:Nat}{Z:Option Nat}{p:PV}{x:List Nat}{st:List (Nat×AO)}{Y:Nat}(h:sO x [34]=false):
  qg ⟨[cS (aw a),cI (s:Int),some (At Z),cL 0,some p,cS (aw x)],st,Y⟩=some (.next,⟨[cS (aw a),cI (s:Int),some (At Z),cL 0,some p,cS (aw x)],st,Y⟩):=by
 have X:au (ai (ac 5) (ab (.str (aw [34]))) fE) ⟨[cS (aw a),cI (s:Int),some (At Z),cL 0,some p,cS (aw x)],st,Y⟩=some (false,⟨[cS (aw a),cI (s:Int),some (At Z),cL 0,some p,cS (aw x)],st,Y⟩):=by
  rw [<-h,<-kK];exact aS (av rfl rfl rfl) rfl
 exact(aj (bM X)).trans rfl
theorem Oh{a:List Nat}{s i:Nat}{st:List (Nat×AO)}{Z:Nat}:
  qg ⟨[cS (aw a),cI (s:Int),some .none,cL 0,cI (i:Int),cS (aw [34])],st,Z⟩=some (.next,⟨[cS (aw a),cI (s:Int),cI (i:Int),cL 0,cI (i:Int),cS (aw [34])],st,Z⟩):=by
 have Y:au (ai (ac 5) (ab (.str (aw [34]))) fE) ⟨[cS (aw a),cI (s:Int),some .none,cL 0,cI (i:Int),cS (aw [34])],st,Z⟩=some (true,⟨[cS (aw a),cI (s:Int),some .none,cL 0,cI (i:Int),cS (aw [34])],st,Z⟩):=by
  rw [show true=sO [34] [34]from rfl,<-kK];exact aS (av rfl rfl rfl) rfl
 exact(aj ((cK Y).trans ((aj ((cK rfl).trans rfl)).trans rfl))).trans rfl
theorem zo{x:List Nat}{lo Z:Option Int}{σ:AS}(h:x.length<=1000):Ae (.str (aw x)) lo Z σ=some (.str (Txt.slice (aw x) lo Z),σ):=by
 show(if(aw x).length<=2^20 then some (PV.str (Txt.slice (aw x) lo Z),σ)else none)=_;rw [bE,aJ (bP h (by decide))]
theorem rL(l:List (List Nat))(w:List Nat):bL l++[.str (aw w)]=bL (l++[w]):=by simp [bL]
theorem MF{a:List Nat}{s o i:Nat}{segs:List (List Nat)}{st:List (Nat×AO)}{nx:Nat}(P:a.length<=1000)(U:s<=o)(Q:o<=a.length)(Y:st.lookup 0=some (.list (bL segs)))(T:segs.length<=1000):
  RW fun X Z=>Qt (qg ⟨[cS (aw a),cI (s:Int),cI (o:Int),cL 0,cI (i:Int),cS (aw [34])],st,nx⟩=some (.next,⟨[cS (aw a),cI ((i+1:Nat):Int),some .none,cL 0,cI (i:Int),cS (aw [34])],X,nx⟩)) (X.lookup 0=some (.list (bL Z))) (Z.flatten=segs.flatten++(a.take o).drop s) (Z.length<=segs.length+1):=by
 have R:au (ai (ac 5) (ab (.str (aw [34]))) fE) ⟨[cS (aw a),cI (s:Int),cI (o:Int),cL 0,cI (i:Int),cS (aw [34])],st,nx⟩=some (true,⟨[cS (aw a),cI (s:Int),cI (o:Int),cL 0,cI (i:Int),cS (aw [34])],st,nx⟩):=by
  rw [show true=sO [34] [34]from rfl,<-kK];exact aS (av rfl rfl rfl) rfl
 have W:au (ai (ac 1) (ac 2) pA) ⟨[cS (aw a),cI (s:Int),cI (o:Int),cL 0,cI (i:Int),cS (aw [34])],st,nx⟩=some ((s:Int) != (o:Int),⟨[cS (aw a),cI (s:Int),cI (o:Int),cL 0,cI (i:Int),cS (aw [34])],st,nx⟩):=aS (av rfl rfl rfl) rfl
 by_cases h:s=o
 .subst h
  rw [JI]at W
  refine⟨st,segs,(aj ((cK R).trans ((aj ((bM rfl).trans ((aj (bM W)).trans ((aj rfl).trans ((aj rfl).trans rfl))))).trans rfl))).trans rfl,Y,?_,by exact zb⟩;rw [Gz];simp
 .rw [show((s:Int) != (o:Int))=true by simp;exact fun S=>(eN h).elim (fun V=>bD 0x40000421024004aa22 rfl S V) (fun V=>bD 0x100421024004a822 rfl S V)]at W
  have O:ck (aD "list" (ac 3) (ae (eb (ac 0) (eV (ac 1)) (eV (ac 2))) al) bu) ⟨[cS (aw a),cI (s:Int),cI (o:Int),cL 0,cI (i:Int),cS (aw [34])],st,nx⟩=some (.next,⟨[cS (aw a),cI (s:Int),cI (o:Int),cL 0,cI (i:Int),cS (aw [34])],aG st 0 (.list (bL (segs++[(a.take o).drop s]))),nx⟩):=by
   rw [<-rL];refine dF (σ:=⟨_,st,nx⟩) (σ₁:=⟨_,st,nx⟩) rfl Y (mZ rfl rfl rfl ?_) Y (by rw [gH];exact aW 0x1e8480500001fa08000021 rfl T);rw [zo P,xR a U Q,Gz]
  exact⟨aG st 0 (.list (bL (segs++[(a.take o).drop s]))),segs++[(a.take o).drop s],(aj ((cK R).trans ((aj ((bM rfl).trans ((aj ((cK W).trans ((aj O).trans rfl))).trans ((aj rfl).trans ((aj rfl).trans rfl))))).trans rfl))).trans rfl,ba,by simp,by simp⟩
structure wB(a:List Nat)(i s:Nat)(op:Option Nat)(segs:List (List Nat))(m:SM):Prop where
 si:s<=i
 o1:∀o,op=some o->s<=o/\o<=i
 fl:segs.flatten.length<=s
 sl:segs.length<=i
 acc:m.acc=segs.flatten
 seg:m.seg=(a.take i).drop s
 op':m.op=op.map fun o=>(a.take o).drop s
theorem wB.take{a:List Nat}{i s c:Nat}{V:List Nat}{Y:Option Nat}{Z:List (List Nat)}{m:SM}(h:wB a i s Y Z m)(W:a.drop i=c::V):wB a (i+1) s Y Z (fS m c):=
 ⟨oa h.si,fun o X=>⟨(h.o1 o X).1,oa (h.o1 o X).2⟩,h.fl,oa h.sl,h.acc,by rw [kq W h.si,<-h.seg];rfl,h.op'⟩
theorem BJ{a:List Nat}{i c:Nat}{X:List Nat}(Y:a.drop i=c::X):i<a.length:=by
 have:=bw List.length Y;simp at this;exact(nk (i) (a.length)).elim (fun Z=>iF 0x30080108c0200002104210804000a22 rfl this (aV (kT Z))) (fun Z=>(bD 0x400104210804000a22 rfl this (tn (kT Z)):False).elim)
theorem og{a:List Nat}(H:a.length<=900):∀(M:List Nat) (i:Nat) (e:Bool) (s:Nat) (op:Option Nat) (Y:List (List Nat)) (st:List (Nat×AO)) (m:SM) (C D:Option PV),a.drop i=M->i<=a.length->st.lookup 0=some (.list (bL Y))->wB a i s op Y m->
  UL fun(N:Nat) (W:Option Nat) (Z:List (List Nat)) (X:List (Nat×AO)) (T:Option PV) (U:Option PV)=>KO (jK Rp qg aq (eQ i e M) ⟨[cS (aw a),cI (s:Int),some (At op),cL 0,C,D],st,1⟩=some (.next,⟨[cS (aw a),cI (N:Int),some (At W),cL 0,T,U],X,1⟩)) (X.lookup 0=some (.list (bL Z))) (wB a a.length N W Z (li e M m))
 |[],i,e,s,op,Y,st,m,C,D,Q,z,S,V=>by
  have:i=a.length:=by have:=bw List.length Q;simp at this;exact bY (kT z) (cq 0x201000110020000428802000822 rfl this (aV (kT z)))
  subst this;refine⟨s,op,Y,st,C,D,?_,S,?_⟩
  .cases e<;>rfl
  .cases e<;>exact V
 |c::M,i,true,s,op,Y,st,m,C,D,Q,z,S,V=>by
  obtain⟨N,W,Z,X,T,U,E,F,G⟩:=og H M (i+1) false s op Y st (fS m c) (some (.int (i:Int))) (some (.str (aw [92,c]))) (fe Q) (BJ Q) S (V.take Q);exact⟨N,W,Z,X,T,U,(cZ (σ₁:=⟨[cS (aw a),cI (s:Int),some (At op),cL 0,cI (i:Int),cS (aw [92,c])],st,1⟩) rfl (Jh rfl)).trans E,F,G⟩
 |c::M,i,false,s,op,Y,st,m,C,D,Q,z,S,V=>by
  have R:=BJ Q;dsimp only [kY,lb,lf];dsimp only [pT,pP,pK]
  by_cases O:c=92
  .rw [aJ O,aJ O]
   subst O;exact og H M (i+1) true s op Y st (fS m 92) C D (fe Q) R S (V.take Q)
  .rw [aO O,aO O]
   by_cases J:c=34
   .rw [aJ J]
    subst J;cases op with
    |none=>
     have u:m.op=none:=V.op';have w:iC m={m with seg:=m.seg++[34],op:=some m.seg}:=by unfold iC;rw [u]
     obtain⟨N,W,Z,X,T,U,E,F,G⟩:=og H M (i+1) false s (some i) Y st (iC m) (some (.int (i:Int))) (some (.str (aw [34]))) (fe Q) R S (by
      rw [w];exact⟨oa V.si,fun o v=>by obtain rfl:=bc v;exact⟨V.si,iG _⟩,V.fl,oa V.sl,V.acc,by rw [kq Q V.si,<-V.seg],by rw [V.seg];rfl⟩)
     exact⟨N,W,Z,X,T,U,(cZ (σ₁:=⟨[cS (aw a),cI (s:Int),some .none,cL 0,cI (i:Int),cS (aw [34])],st,1⟩) rfl Oh).trans E,F,G⟩
    |some o=>
     obtain⟨t,x⟩:=V.o1 o rfl;have B:=V.sl;have A:=V.fl;obtain⟨I,P,p,q,r,f4⟩:=MF (a:=a) (s:=s) (o:=o) (i:=i) (segs:=Y) (st:=st) (nx:=1) (by exact(aW 0x7d0400001e108000021 rfl H)) t (by exact(cq 0x40200020008000840000422 rfl R x)) S (by exact(cq 0x7d0410001080400040008021e108000023 rfl H R B));have u:m.op=some ((a.take o).drop s):=V.op';have w:iC m=⟨m.acc++(a.take o).drop s,[],none⟩:=by unfold iC;rw [u]
     obtain⟨N,W,Z,X,T,U,E,F,G⟩:=og H M (i+1) false (i+1) none P I (iC m) (some (.int (i:Int))) (some (.str (aw [34]))) (fe Q) R q (by
      rw [w];refine⟨bU _,fun o v=>(nomatch v),?_,by exact cq 0x1084021000108400108000840000022 rfl B f4,by rw [r,V.acc],?_,rfl⟩
      .rw [r,jL,nW,qZ];exact(nk (s) (min o a.length)).elim (fun y=>Gv 0x8420114020080120060280420800400023008000840000024 rfl x A (Ah (o) (a.length)) (aV (kT y))) (fun y=>su 0x1088022006010020090020800300022004000840000024 rfl t x A (tn (kT y)))
      .show([]:List Nat)=_
       rw [vI (by rw [qZ];exact bD 0x42100800004210804000821 rfl (mx (bD 0x8021000400840000421 rfl R)))])
     exact⟨N,W,Z,X,T,U,(cZ (σ₁:=⟨[cS (aw a),cI (s:Int),cI (o:Int),cL 0,cI (i:Int),cS (aw [34])],st,1⟩) rfl p).trans E,F,G⟩
   .rw [aO J]
    obtain⟨N,W,Z,X,T,U,E,F,G⟩:=og H M (i+1) false s op Y st (fS m c) (some (.int (i:Int))) (some (.str (aw [c]))) (fe Q) R S (V.take Q);refine⟨N,W,Z,X,T,U,(cZ (σ₁:=⟨[cS (aw a),cI (s:Int),some (At op),cL 0,cI (i:Int),cS (aw [c])],st,1⟩) rfl (Jh ?_)).trans E,F,G⟩;cases h:sO [c] [34]
    .rfl
    .have:=(pF _ _).mp h
     exact absurd (qf this).1 J
theorem jv:∀(Z:List Nat) (e:Bool) (m:SM),(∀c∈Z,c≠34)->m.op=none->(li e Z m).acc=m.acc/\(li e Z m).seg=m.seg++Z
 |[],e,m,_,_=>by cases e<;>simp [pT,pP,pK]
 |c::Z,true,m,h,U=>by
  obtain⟨V,W⟩:=jv Z false (fS m c) (fun x X=>h x (.tail _ X)) U;dsimp only [pT,pP,pK];exact⟨V,by rw [W];exact nU _ _ _⟩
 |c::Z,false,m,h,U=>by
  dsimp only [pT,pP,pK]
  by_cases Y:c=92
  .rw [aJ Y]
   subst Y;obtain⟨V,W⟩:=jv Z true (fS m 92) (fun x X=>h x (.tail _ X)) U;exact⟨V,by rw [W];exact nU _ _ _⟩
  .rw [aO Y,aO (h c (.head _))]
   obtain⟨V,W⟩:=jv Z false (fS m c) (fun x X=>h x (.tail _ X)) U;exact⟨V,by rw [W];exact nU _ _ _⟩
theorem xK(c X:Nat):∀(n:Nat) (s:List Nat) (i Z:Nat),Z<=i->i+s.length<=X->s.length<=n->fF [c] 1 X n s i Z 1=[]->∀x∈s,x≠c
 |n,[],_,_,_,_,_,_,x,W=>by cases W
 |0,y::s,_,_,_,_,h,_,_,_=>by trivial
 |n+1,y::s,i,Z,T,V,U,h,x,W=>by
  simp only [ge]at V U
  dsimp only [pS,jw]at h
  rw [lq T,lq (show i+1<=X by exact cq 0x400840010022004210080010021 rfl V)]at h
  simp only [jX,show Nat.beq 1 0=false from rfl,lD,List.tail_cons]at h
  cases Y:gC [c] (y::s)with
  |true=>rw [Y]at h;exact EG h
  |false=>
   rw [Y,lD]at h
   rcases cC.mp W with e|e
   .rintro rfl
    rw [e]at Y
    simp [pC,pM,pJ]at Y
   .exact xK c X n s (i+1) Z (by exact(bD 0x8420100000840000021 rfl T)) (by exact(cq 0x2004010800210022004210080010021 rfl V)) (by exact(KK U)) h x e
theorem AL{a:List Nat}{c:Nat}(h:jm a [c]=false):∀x∈a,x≠c:=by
 unfold jm at h
 refine xK c a.length (a.length+1) a 0 0 (bU _) (by exact(aW 0x110020 rfl)) (by exact(zb)) ?_
 show fF [c] [c].length a.length (a.length+1) a 0 0 1=[];cases Z:fF [c] [c].length a.length (a.length+1) a 0 0 1 with
 |nil=>rfl
 |cons x Y=>rw [Z]at h;cases h
noncomputable def QB:bz:=bW MK Ir JZ (fun _=>[]) [] (fun n=>JD 1000 n)
theorem Oy(a:PV):cH MK Ir JZ ([a]++[]) ([]++[])=⟨[some a,none,none,none,none,none],[],0⟩:=by left
theorem RR:Str.ofString "\""=aw [34]:=by left
theorem kP:∀(Z:List Nat) (i:Nat) (e:Bool),(eQ i e Z).length<=Z.length
 |[],i,e=>by cases e<;>exact bU _
 |c::Z,i,true=>JC (kP Z (i+1) false)
 |c::Z,i,false=>by
  dsimp only [kY,lb,lf]
  split
  .exact oa (kP Z (i+1) true)
  .exact JC (kP Z (i+1) false)
theorem SF{a:List Nat}(M:a.length<=900)(w:a.all (fun c=>decide (c<128))=true)(x:eH false a=false):QB [.str (aw a)] []=some (.str (aw (cB a)),[],[]):=by
 unfold QB;rw [bX (σ:=⟨[cS (aw a),none,none,none,none,none],[],0⟩) rfl (Oy _)]
 suffices A:∃O,JD 1000 ([]++([]:List AO)).length ⟨[cS (aw a),none,none,none,none,none],[],0⟩=some (.ret (.str (aw (cB a))),O)by
  obtain⟨O,e⟩:=A;rw [e];exact LA _ O
 unfold JD;rw [RR];have I:au (ai (ab (.str (aw [34]))) (ac 0) mS) ⟨[cS (aw a),none,none,none,none,none],[],0⟩=some (!jm a [34],⟨[cS (aw a),none,none,none,none,none],[],0⟩):=by
  rw [<-wi];exact aS (av rfl rfl rfl) rfl
 cases N:jm a [34]with
 |false=>
  rw [N]at I
  obtain⟨B,C⟩:=jv a false ⟨[],[],none⟩ (AL N) rfl;have:cB a=a:=by unfold cB;rw [B,C];simp
  rw [this];exact⟨_,aR ((cK I).trans (aR rfl))⟩
 |true=>
  rw [N]at I
  obtain⟨X,W,Z,Y,U,V,u,g1,g2⟩:=og M a 0 false 0 none [] [(0,.list [])] ⟨[],[],none⟩ none none rfl (ki _) rfl ⟨bU _,fun o z=>(nomatch z),bU _,bU _,rfl,rfl,rfl⟩;have R:er 1000 (qr (ae (ac 0) al)) Rp qg aq ⟨[cS (aw a),cI 0,some .none,cL 0,none,none],[(0,.list [])],1⟩=some (.next,⟨[cS (aw a),cI (X:Int),some (At W),cL 0,U,V],Y,1⟩):=by
   refine(gP (k:=.its (eQ 0 false a)) (ps:=eQ 0 false a) (σ₁:=⟨[cS (aw a),cI 0,some .none,cL 0,none,none],[(0,.list [])],1⟩) ?_ rfl (by have:=kP a 0 false;exact bD 0x1f410200840008001e108000022 rfl M this)).trans u;have:(uQ (aw a)&&!eH false (aw a).cps.toList)=true:=by
    show(a.all (fun c=>decide (c<128))&&!eH false a)=true;rw [w,x];rfl
   refine(bi (aC (g:=al) (p:=.str (aw a)) (ps:=[]) (σ₁:=⟨[cS (aw a),cI 0,some .none,cL 0,none,none],[(0,.list [])],1⟩) rfl rfl)).trans ?_
   exact(aJ this).trans rfl
  have H:au (ai (ac 1) (aQ dC (ae (ac 0) al)) vJ) ⟨[cS (aw a),cI (X:Int),some (At W),cL 0,U,V],Y,1⟩=some (decide ((X:Int)<(a.length:Int)),⟨[cS (aw a),cI (X:Int),some (At W),cL 0,U,V],Y,1⟩):=
   aS (av rfl (ce rfl (ro (by exact(aW 0x7d0400001e108000021 rfl M)))) rfl) rfl
  have F:=g2.sl;have J:=g2.fl;have E:=g2.si;have P:cB a=Z.flatten++a.drop X:=by
   unfold cB;rw [g2.acc,g2.seg,IP]
  have Q:∀(T:List (List Nat)) (st:List (Nat×AO)),T.flatten.length<=1000000->st.lookup 0=some (.list (bL T))->bq (aD "str" (ab (.str "")) (ae (ac 3) al) jY) ⟨[cS (aw a),cI (X:Int),some (At W),cL 0,U,V],st,1⟩=some (.ret (.str (aw T.flatten)),⟨[cS (aw a),cI (X:Int),some (At W),cL 0,U,V],st,1⟩):=fun T st y G=>
   cP (cf rfl qW rfl (Lv (σ:=⟨_,st,1⟩) G y))
  by_cases S:X<a.length
  .rw [dO (by exact(bD 0x409001290840000421 rfl S))]at H
   have v:ck (aD "list" (ac 3) (ae (eb (ac 0) (eV (ac 1)) gh) al) bu) ⟨[cS (aw a),cI (X:Int),some (At W),cL 0,U,V],Y,1⟩=some (.next,⟨[cS (aw a),cI (X:Int),some (At W),cL 0,U,V],aG Y 0 (.list (bL (Z++[a.drop X]))),1⟩):=by
    rw [<-rL];refine dF (σ:=⟨_,Y,1⟩) (σ₁:=⟨_,Y,1⟩) rfl g1 (mZ rfl rfl rfl ?_) g1 (by rw [gH];exact bD 0x7a12014200040008001e108000022 rfl M F);rw [zo (by exact(aW 0x7d0400001e108000021 rfl M)),sD a (by exact(ii S))]
   have:=Q (Z++[a.drop X]) (aG Y 0 (.list (bL (Z++[a.drop X])))) (by rw [List.flatten_append,jL,qX,List.flatten_nil,lw,nW];exact iF 0x7a1201460080400800200c021044008001e108000023 rfl M J (aV (ii S))) ba;rw [P,show Z.flatten++a.drop X=(Z++[a.drop X]).flatten by simp];exact⟨_,(aj (bM I)).trans ((aj rfl).trans ((aj rfl).trans ((aj rfl).trans ((aj R).trans ((aj ((cK H).trans ((aj v).trans rfl))).trans (aR this))))))⟩
  .rw [ix (by exact(fun D=>bD 0x409001290840001022 rfl S D))]at H
   have:=Q Z Y (by exact(cq 0x1e8480508001000400044008001e108000023 rfl M J E)) g1;rw [P,vI (by exact(sB S)),lw];exact⟨_,(aj (bM I)).trans ((aj rfl).trans ((aj rfl).trans ((aj rfl).trans ((aj R).trans ((aj (bM H)).trans (aR this))))))⟩
noncomputable def jR:Bool->Nat->List Nat->Option Nat
 |_,n,[]=>some n
 |true,n,c::Z=>jR false n Z
 |false,n,c::Z=>if c=92 then jR true n Z else if c=40 then jR false (n+1) Z else if c=41 then(match n with|0=>none|n+1=>jR false n Z)else jR false n Z
theorem MN(w1_ n):jR w1_ n []=(some n):=rfl
theorem LB(n c cs):jR true n (c::cs)=(jR false n cs):=rfl
theorem Mk(n c cs):jR false n (c::cs)=(if c=92 then jR true n cs else if c=40 then jR false (n+1) cs else if c=41 then(match n with|0=>none|n+1=>jR false n cs)else jR false n cs):=rfl
noncomputable def UA:Option Nat->Bool
 |some 0=>true
 |_=>false
noncomputable def Nb(a:List Nat):Bool:=UA (jR false 0 (cB a))
noncomputable abbrev nE:SR:=(ar (dn (au (ai (ac 3) (ab (.str (aw [40]))) fE)) (ar (fA (ac 1) (ab (.int 1)) gv (ap 1))
 aq) (ar (dn (au (ai (ac 3) (ab (.str (aw [41]))) fE)) (ar (fA (ac 1) (ab (.int 1)) dB (ap 1))
 (ar (dn (au (ai (ac 1) (ab (.int 0)) vJ)) (ar (bq (ab (.bool false)))
 aq) aq)
 aq)) aq)
 aq))
 aq)
noncomputable abbrev Su:TR:=(dk 2 (aU (ap 2) (aU (ap 3) cp)))
theorem Oc{a b:List Nat}(h:a≠b):sO a b=false:=by
 cases Z:sO a b
 .rfl
 .exact absurd ((pF _ _).mp Z) h
theorem Hn{Z:Option PV}{n:Nat}{p:PV}{x:List Nat}(V:x≠[40])(W:x≠[41]):
  nE ⟨[Z,cI (n:Int),some p,cS (aw x)],[],0⟩=some (.next,⟨[Z,cI (n:Int),some p,cS (aw x)],[],0⟩):=by
 have Y:∀y,x≠y->au (ai (ac 3) (ab (.str (aw y))) fE) ⟨[Z,cI (n:Int),some p,cS (aw x)],[],0⟩=some (false,⟨[Z,cI (n:Int),some p,cS (aw x)],[],0⟩):=fun y X=>by
  rw [<-Oc X,<-kK];exact aS (av rfl rfl rfl) rfl
 exact(aj ((bM (Y _ V)).trans ((aj (bM (Y _ W))).trans rfl))).trans rfl
theorem Qi{Z:Option PV}{n:Nat}{p:PV}:
  nE ⟨[Z,cI (n:Int),some p,cS (aw [40])],[],0⟩=some (.next,⟨[Z,cI ((n+1:Nat):Int),some p,cS (aw [40])],[],0⟩):=by
 have Y:au (ai (ac 3) (ab (.str (aw [40]))) fE) ⟨[Z,cI (n:Int),some p,cS (aw [40])],[],0⟩=some (true,⟨[Z,cI (n:Int),some p,cS (aw [40])],[],0⟩):=by
  rw [show true=sO [40] [40]from rfl,<-kK];exact aS (av rfl rfl rfl) rfl
 exact(aj ((cK Y).trans ((aj rfl).trans rfl))).trans rfl
theorem Ly{Z:Option PV}{n:Int}{p:PV}:au (ai (ac 3) (ab (.str (aw [40]))) fE) ⟨[Z,cI n,some p,cS (aw [41])],[],0⟩=some (false,⟨[Z,cI n,some p,cS (aw [41])],[],0⟩) /\
  au (ai (ac 3) (ab (.str (aw [41]))) fE) ⟨[Z,cI n,some p,cS (aw [41])],[],0⟩=some (true,⟨[Z,cI n,some p,cS (aw [41])],[],0⟩):=by
 constructor
 .rw [show false=sO [41] [40]from rfl,<-kK];exact aS (av rfl rfl rfl) rfl
 .rw [show true=sO [41] [41]from rfl,<-kK];exact aS (av rfl rfl rfl) rfl
theorem MC{Z:Option PV}{n:Nat}{p:PV}:
  nE ⟨[Z,cI ((n+1:Nat):Int),some p,cS (aw [41])],[],0⟩=some (.next,⟨[Z,cI (n:Int),some p,cS (aw [41])],[],0⟩):=by
 have W:fA (ac 1) (ab (.int 1)) dB (ap 1) ⟨[Z,cI ((n+1:Nat):Int),some p,cS (aw [41])],[],0⟩=some (.next,⟨[Z,cI (n:Int),some p,cS (aw [41])],[],0⟩):=by
  have:fA (ac 1) (ab (.int 1)) dB (ap 1) ⟨[Z,cI ((n+1:Nat):Int),some p,cS (aw [41])],[],0⟩=some (.next,⟨[Z,cI (((n+1:Nat):Int)-1),some p,cS (aw [41])],[],0⟩):=rfl;rw [this,show((n+1:Nat):Int)-1=(n:Int)by exact cX (Mb) (LP)]
 have X:au (ai (ac 1) (ab (.int 0)) vJ) ⟨[Z,cI (n:Int),some p,cS (aw [41])],[],0⟩=some (false,⟨[Z,cI (n:Int),some p,cS (aw [41])],[],0⟩):=by
  rw [show false=decide ((n:Int)<0)from(ix (by exact(fun Y=>DL Y))).symm];exact aS (av rfl rfl rfl) rfl
 exact(aj ((bM Ly.1).trans ((aj ((cK Ly.2).trans ((aj W).trans ((aj (bM X)).trans rfl)))).trans rfl))).trans rfl
theorem Qx{l0:Option PV}{p:PV}:∃Z,nE ⟨[l0,cI ((0:Nat):Int),some p,cS (aw [41])],[],0⟩=some (.ret (.bool false),Z):=
 ⟨_,aR ((bM Ly.1).trans (aR ((cK Ly.2).trans ((aj rfl).trans (aR ((cK rfl).trans (aR rfl)))))))⟩
theorem oq{l0:Option PV}:∀(Y:List Nat) (i:Nat) (e:Bool) (n:Nat) (W X:Option PV),
  ∃Z,jK Su nE aq (eQ i e Y) ⟨[l0,cI (n:Int),W,X],[],0⟩=(match jR e n Y with|none=>some (.ret (.bool false),Z)|some m=>some (.next,Z))/\∀m,jR e n Y=some m->RW fun W X=>Z=⟨[l0,cI (m:Int),W,X],[],0⟩
 |[],i,e,n,W,X=>⟨⟨[l0,cI (n:Int),W,X],[],0⟩,by cases e<;>rfl,fun m h=>⟨W,X,by cases e<;>(obtain rfl:=bc h;rfl)⟩⟩
 |c::Y,i,true,n,W,X=>by
  obtain⟨Z,S,h⟩:=oq (l0:=l0) Y (i+1) false n (some (.int (i:Int))) (some (.str (aw [92,c])));exact⟨Z,(cZ (σ₁:=⟨[l0,cI (n:Int),cI (i:Int),cS (aw [92,c])],[],0⟩) rfl (Hn (by simp) (by simp))).trans S,h⟩
 |c::Y,i,false,n,W,X=>by
  dsimp only [kY,lb,lf];dsimp only [MN,LB,Mk]
  by_cases V:c=92
  .rw [aJ V,aJ V]
   exact oq (l0:=l0) Y (i+1) true n W X
  .rw [aO V,aO V]
   by_cases T:c=40
   .rw [aJ T]
    subst T;obtain⟨Z,S,h⟩:=oq (l0:=l0) Y (i+1) false (n+1) (some (.int (i:Int))) (some (.str (aw [40])));exact⟨Z,(cZ (σ₁:=⟨[l0,cI (n:Int),cI (i:Int),cS (aw [40])],[],0⟩) rfl Qi).trans S,h⟩
   .rw [aO T]
    by_cases U:c=41
    .rw [aJ U]
     subst U;cases n with
     |zero=>
      obtain⟨Z,S⟩:=Qx (l0:=l0) (p:=.int (i:Int));exact⟨Z,wv (σ₁:=⟨[l0,cI ((0:Nat):Int),cI (i:Int),cS (aw [41])],[],0⟩) rfl S,fun m h=>(nomatch h)⟩
     |succ n=>
      obtain⟨Z,S,h⟩:=oq (l0:=l0) Y (i+1) false n (some (.int (i:Int))) (some (.str (aw [41])));exact⟨Z,(cZ (σ₁:=⟨[l0,cI ((n+1:Nat):Int),cI (i:Int),cS (aw [41])],[],0⟩) rfl MC).trans S,h⟩
    .rw [aO U]
     obtain⟨Z,S,h⟩:=oq (l0:=l0) Y (i+1) false n (some (.int (i:Int))) (some (.str (aw [c])));exact⟨Z,(cZ (σ₁:=⟨[l0,cI (n:Int),cI (i:Int),cS (aw [c])],[],0⟩) rfl (Hn (by simpa using T) (by simpa using U))).trans S,h⟩
noncomputable def Us:bz:=bW Ng Hl Gw (fun _=>[]) [] (fun n=>Jl QB 1000 n)
theorem OF(a:PV):cH Ng Hl Gw ([a]++[]) ([]++[])=⟨[some a,none,none,none],[],0⟩:=by left
theorem Pv:Str.ofString "("=aw [40]:=by left
theorem PF:Str.ofString ")"=aw [41]:=by left
structure Gd(a:List Nat):Prop where
 len:a.length<=900
 asc:a.all (fun c=>decide (c<128))=true
 fin:eH false a=false
theorem Te{a:List Nat}(V:Gd a)(W:Gd (cB a)):Us [.str (aw a)] []=some (.bool (Nb a),[],[]):=by
 unfold Us;rw [bX (σ:=⟨[cS (aw a),none,none,none],[],0⟩) rfl (OF _)]
 suffices Q:∃Y,Jl QB 1000 ([]++([]:List AO)).length ⟨[cS (aw a),none,none,none],[],0⟩=some (.ret (.bool (Nb a)),Y)by
  obtain⟨Y,e⟩:=Q;rw [e];exact yC _ Y
 unfold Jl;rw [Pv,PF];have S:am (aY QB (ae (ac 0) al)) (ap 0) ⟨[cS (aw a),none,none,none],[],0⟩=some (.next,⟨[cS (aw (cB a)),none,none,none],[],0⟩):=
  aB (bF (ps:=[.str (aw a)]) (σ₁:=⟨[cS (aw a),none,none,none],[],0⟩) rfl rfl rfl (SF V.len V.asc V.fin)) rfl
 obtain⟨Y,O,h⟩:=oq (l0:=some (.str (aw (cB a)))) (cB a) 0 false 0 none none;have Z:er 1000 (qr (ae (ac 0) al)) Su nE aq ⟨[cS (aw (cB a)),cI 0,none,none],[],0⟩=(match jR false 0 (cB a)with|none=>some (.ret (.bool false),Y)|some m=>some (.next,Y)):=by
  refine(gP (k:=.its (eQ 0 false (cB a))) (ps:=eQ 0 false (cB a)) (σ₁:=⟨[cS (aw (cB a)),cI 0,none,none],[],0⟩) ?_ rfl (by have:=kP (cB a) 0 false;have:=W.len;omega)).trans O;have:(uQ (aw (cB a))&&!eH false (aw (cB a)).cps.toList)=true:=by
   show((cB a).all (fun c=>decide (c<128))&&!eH false (cB a))=true;rw [W.asc,W.fin];rfl
  refine(bi (aC (g:=al) (p:=.str (aw (cB a))) (ps:=[]) (σ₁:=⟨[cS (aw (cB a)),cI 0,none,none],[],0⟩) rfl rfl)).trans ?_
  exact(aJ this).trans rfl
 unfold Nb;cases X:jR false 0 (cB a)with
 |none=>
  rw [X]at Z
  exact⟨_,(aj S).trans ((aj rfl).trans (aR Z))⟩
 |some m=>
  rw [X]at Z
  obtain⟨T,U,rfl⟩:=h m X;have P:bq (ai (ac 1) (ab (.int 0)) fE) ⟨[cS (aw (cB a)),cI (m:Int),T,U],[],0⟩=some (.ret (.bool (UA (some m))),⟨[cS (aw (cB a)),cI (m:Int),T,U],[],0⟩):=by
   refine cP (av rfl rfl ?_);show some (PV.bool ((m:Int)==0),_)=_;cases m with
   |zero=>rfl
   |succ m=>rw [show(((m+1:Nat):Int)==0)=false by simp;exact fun R=>aW 0xa4214800912821 rfl R];rfl
  exact⟨_,(aj S).trans ((aj rfl).trans ((aj Z).trans (aR P)))⟩
theorem jf{Y:List PV}{p:PV}{σ:AS}{i k:Nat}(X:σ.st.lookup i=some (.list Y))(h:Y[k]?=some p)(W:Y.length<=1000):aH (.loc i) (.int (k:Int)) σ=some (p,σ):=by
 have Z:k<Y.length:=(jQ.mp h).1;exact tY X ⟨by exact aW 0x9010000000000000000e96a020 rfl,by exact bD 0x80000000000000007484094840008021fa08000022 rfl W Z⟩ (mq Z) h
theorem add_str{x y:List Nat}{σ:AS}(h:x.length+y.length<=2000):bk (.str (aw x)) (.str (aw y)) σ=some (.str (aw (x++y)),σ):=by
 show Kh (aw x) (aw y) σ=_;unfold Kh;rw [bE,bE,aJ (bP h (by decide))];show some (PV.str ⟨x.toArray++y.toArray⟩,σ)=_;rw [List.append_toArray];rfl
section
variable {w:List Nat}{d:PV}{drL piece:List Nat}{l5 l6 l7:Option PV}
end
theorem gV{e:ER}{σ σ₁:AS}{p:PV}{k:IK}(h:e σ=some (p,σ₁))(Z:tm p σ₁=some k):cy e σ=some (k,σ₁):=by
 show eY e _ σ=_;rw [bi h,Z];rfl
theorem rp{u v:Int}{σ:AS}(h:-1000000<=u/\u<=1000000/\-1000000<=v/\v<=1000000):tm (.rng u v) σ=some (.rng u (v-u).toNat):=by
 unfold tm;dsimp only;rw [aJ ⟨by exact mh 0x400800000000000000074b501023d0900a96a021 rfl h.1,by exact mh 0x80000000000000007481090fa120152042021 rfl h.2.1,by exact mh 0x400800000000000000074b501023d0900a96a021 rfl h.2.2.1,by exact mh 0x80000000000000007481090fa120152042021 rfl h.2.2.2⟩]
section
variable {w:List Nat}{d:PV}{drL piece:List Nat}{l5 l6 l7:Option PV}
end
theorem mU(l:List Nat):dc (.list (bV l))=[]:=by rw [Hd];exact xD _
theorem sz{a n:Nat}{σ:AS}(Z:n<=50000)(Y:a<2^50000):fC (.int (a:Int)) (.int (n:Int)) σ=some (.int ((a*2^n:Nat):Int),σ):=by
 refine cF (k:=PC) ?_
 unfold PC;rw [aJ ⟨by exact EC,by exact aW 0x30d4054800940430d40a000021 rfl Z,jt (n:=50000) (by decide) (by simpa using Y)⟩,iV];rfl
theorem vt{a n:Nat}{σ:AS}:fq (.int (a:Int)) (.int (n:Int)) σ=some (.int ((a/2^n:Nat):Int),σ):=by
 refine cF (k:=Pr) ?_
 unfold Pr;rw [aJ (by exact(EC)),iV,show(2:Int)^n=((2^n:Nat):Int)by push_cast;rfl,rR]
theorem Lo{a h:Nat}{σ:AS}:lh (.int (a:Int)) (.int ((2^h-1:Nat):Int)) σ=some (.int ((a%2^h:Nat):Int),σ):=by
 refine cF (k:=OG) ?_
 unfold OG;rw [rq,Nat.and_two_pow_sub_one_eq_mod]
theorem tx(a b:Nat):Builtin.bitOr (a:Int) (b:Int)=((a|||b:Nat):Int):=by
 unfold Builtin.bitOr Builtin.bitAnd;have W:decide (0<=Builtin.bitNot (a:Int))=false:=ix (by unfold Builtin.bitNot;exact fun Z=>aW 0x21480096b0014a021 rfl Z);have X:decide (0<=Builtin.bitNot (b:Int))=false:=ix (by unfold Builtin.bitNot;exact fun Z=>aW 0x21480096b0014a021 rfl Z);rw [W,X];have Y:∀c:Int,Builtin.bitNot (Builtin.bitNot c)=c:=fun c=>by unfold Builtin.bitNot;exact cX (mh 0x40429085204358d62020 rfl) (mh 0x10a4214810d6358042020 rfl)
 simp only [Y,iV]
theorem UD{q r h:Nat}{σ:AS}(Z:r<2^h):Ot (.int ((q*2^h:Nat):Int)) (.int (r:Int)) σ=some (.int ((q*2^h+r:Nat):Int),σ):=by
 refine cF (k:=Uo) ?_
 unfold Uo;rw [tx,cz,<-II Z]
theorem Ug{x s:Nat}{σ:AS}:MD (.int (x:Int)) (.int ((x/2^s*2^s:Nat):Int)) σ=some (.int ((x%2^s:Nat):Int),σ):=by
 refine cF (k:=PJ) ?_
 unfold PJ Builtin.bitXor;rw [tx,rq];have X:x%2^s<2^s:=dT _ (iY s);have Y:x=2^s*(x/2^s)|||x%2^s:=by rw [<-II X,cU]
 have Z:=cU x (2^s);rw [cz (x/2^s)];generalize x/2^s=q at *
 generalize x%2^s=r at *
 generalize 2^s*q=y at *
 have V:x|||y=x:=by
  rw [Y];apply FR;intro i;simp only [FZ];cases y.testBit i<;>cases r.testBit i<;>rfl
 have W:x&&&y=y:=by
  rw [Y];apply FR;intro i;simp only [FZ,Nat.testBit_and];cases y.testBit i<;>cases r.testBit i<;>rfl
 rw [V,W];show some ((x:Int)-(y:Int))=_;rw [show(x:Int)-(y:Int)=(r:Int)by exact cX (cq 0x20480091012c404400800010a21 rfl Z) (cq 0x4880960409404400800010821 rfl Z)]
theorem Om{a b:Nat}{σ:AS}(Y:a<2^50000)(Z:b<2^50000):cO (.int (a:Int)) (.int (b:Int)) σ=some (.int ((a*b:Nat):Int),σ):=by
 refine cF (k:=oz) ?_
 unfold oz;rw [jt (n:=50000) (by decide) (by simpa using Y),jt (n:=50000) (by decide) (by simpa using Z)];rfl
theorem DG{a b:Nat}{σ:AS}(h:b<=a):dB (.int (a:Int)) (.int (b:Int)) σ=some (.int ((a-b:Nat):Int),σ):=by
 show some (PV.int ((a:Int)-(b:Int)),σ)=_;rw [show(a:Int)-(b:Int)=((a-b:Nat):Int)by exact cX (cq 0x484091012c404400800010a21 rfl (aV (kT h))) (cq 0x204880960009404400800010821 rfl (aV (kT h)))]
theorem TU{q r:Int}{A b:Nat}(Y:0<=r)(Z:r<b)(h:q*b+r=A):q=((A/b:Nat):Int)/\r=((A%b:Nat):Int):=by
 have W:(0:Int)<b:=by exact uV 0x9005290800902121020014a022 rfl Y Z
 have U:(A:Int)/b=q:=by
  rw [<-h,Int.add_comm,Int.add_mul_ediv_right _ _ (by exact(fun X=>aW 0xa4004a820024014a422 rfl W X)),Int.ediv_eq_zero_of_lt Y Z,Int.zero_add]
 have V:(A:Int)%b=r:=by
  rw [<-h,Int.add_comm,Int.add_mul_emod_self_right,Int.emod_eq_of_lt Y Z]
 exact⟨by rw [<-U];rfl,by rw [<-V];rfl⟩
noncomputable abbrev Sz:SR:=(ar (fA (ac 6) (ab (.int 1)) dB (ap 6))
 (ar (fA (ac 7) (ac 2) gv (ap 7))
 aq))
noncomputable abbrev Ps(V W X Y Z:Option PV)(b:Nat)(q r:Int):AS:=⟨[V,W,cI (b:Int),X,Y,Z,cI q,cI r],[],0⟩
theorem BP{l0 l1 l3 l4 l5:Option PV}{b:Nat}:∀(k N:Nat) (q r:Int),k<N->-((k*b:Nat):Int)<=r->r<b->
  RW fun W Y=>Qt (gp (au (ai (ac 7) (ab (.int 0)) vJ)) Sz aq N (Ps l0 l1 l3 l4 l5 b q r)=some (.next,Ps l0 l1 l3 l4 l5 b W Y)) (0<=Y) (Y<b) (W*b+Y=q*b+r)
 |_,0,_,_,h,_,_=>absurd h (fg _)
 |k,N+1,q,r,T,U,S=>by
  have V:au (ai (ac 7) (ab (.int 0)) vJ) (Ps l0 l1 l3 l4 l5 b q r)=some (decide (r<0),Ps l0 l1 l3 l4 l5 b q r):=aS (av rfl rfl rfl) rfl;dsimp only [tz,tD]
  by_cases X:r<0
  .rw [dO X]at V
   rw [V];dsimp only;have Z:Sz (Ps l0 l1 l3 l4 l5 b q r)=some (.next,Ps l0 l1 l3 l4 l5 b (q-1) (r+b)):=rfl;rw [Z];dsimp only;cases k with
   |zero=>simp at U;exact(mh 0x1000a5010052042422 rfl X U:False).elim
   |succ k=>
    rw [Nat.succ_mul]at U
    obtain⟨W,Y,e,g1,g2,R⟩:=BP (l0:=l0) (l1:=l1) (l3:=l3) (l4:=l4) (l5:=l5) (b:=b) k N (q-1) (r+b) (by exact(JU T)) (by exact(Kq 0x8120408004b50102020000496a021 rfl U)) (by exact(uV 0x900120409210052042421 rfl X));exact⟨W,Y,e,g1,g2,by rw [R,Int.sub_mul];exact cX (QF 0x5004080048502001211810c12020 rfl) (QF 0x90a04002423021820a00812020 rfl)⟩
  .rw [ix X]at V
   rw [V];exact⟨q,r,rfl,by exact mh 0x1000a5010052043021 rfl X,S,rfl⟩
noncomputable def LS(Z:bz):bz:=bW Lq Kk IW (fun _=>[]) [] (fun n=>Lb Z 100 n)
noncomputable def BH(Z:bz):bz:=bW He DJ Eg (fun _=>[]) [] (fun n=>ED Z 100 n)
theorem Pn(a b c d e f:PV):cH Lq Kk IW ([a,b,c,d,e,f]++[]) ([]++[])=⟨[some a,some b,some c,some d,some e,some f,none,none],[],0⟩:=by left
theorem Ig(a b c:PV):cH He DJ Eg ([a,b,c]++[]) ([]++[])=⟨[some a,some b,some c,none,none,none,none,none,none,none,none],[],0⟩:=by left
theorem fY(q r:Int)(σ:AS):fM ([]:List AO).length (some (.ret (.tup [.int q,.int r]),σ))=some (.tup [.int q,.int r],[],[]):=rfl
noncomputable def Sm(k a:Nat):Prop:=a<2^k
theorem Sm.lt{k a:Nat}(h:Sm k a):a<2^k:=h
theorem Sm.mono{k m a:Nat}(h:Sm k a)(Z:k<=m):Sm m a:=eB h (kd (by decide) Z)
theorem Sm.le{k a b:Nat}(h:Sm k a)(Z:b<=a):Sm k b:=jO Z h
theorem Sm.mul{k m a b:Nat}(h:Sm k a)(Z:Sm m b):Sm (k+m) (a*b):=by
 unfold Sm at *
 rw [iE];exact Nat.mul_lt_mul_of_lt_of_le h (kr Z) (jO (ki _) Z)
theorem Sm.add{k a b:Nat}(h:Sm k a)(Z:Sm k b):Sm (k+1) (a+b):=by
 unfold Sm at *
 rw [kp];exact iF 0x6010000104210086300a21008010840000423 rfl h Z (cz _ 2)
theorem Sm.pow{k h:Nat}(Z:h<k):Sm k (2^h):=Nat.pow_lt_pow_right (by decide) Z
theorem JF{Y:bz}{a b n:Nat}(h:Builtin.Int.intBits (a:Int)<=n+4000)(X:0<b)(Z:b<2^8900):BH Y [.int (a:Int),.int (b:Int),.int (n:Int)] []=some (.tup [.int ((a/b:Nat):Int),.int ((a%b:Nat):Int)],[],[]):=by
 unfold BH;rw [bX (σ:=⟨[cI (a:Int),cI (b:Int),cI (n:Int),none,none,none,none,none,none,none,none],[],0⟩) rfl (Ig _ _ _)];unfold ED;have U:au (ai (ai (aD "int" (ac 0) al gD) (ac 2) dB) (ab (.int 4000)) PZ) ⟨[cI (a:Int),cI (b:Int),cI (n:Int),none,none,none,none,none,none,none,none],[],0⟩=some (true,⟨[cI (a:Int),cI (b:Int),cI (n:Int),none,none,none,none,none,none,none,none],[],0⟩):=by
  rw [show true=decide (((Builtin.Int.intBits (a:Int):Nat):Int)-(n:Int)<=4000)from(dO (by exact(bD 0xfa02a42048009620201f4050804000021 rfl h))).symm];exact aS (av (av (cf rfl rfl rfl rfl) rfl rfl) rfl rfl) rfl
 have V:bq (aQ vc (ae (ac 0) (ae (ac 1) al))) ⟨[cI (a:Int),cI (b:Int),cI (n:Int),none,none,none,none,none,none,none,none],[],0⟩=some (.ret (.tup [.int ((a/b:Nat):Int),.int ((a%b:Nat):Int)]),⟨[cI (a:Int),cI (b:Int),cI (n:Int),none,none,none,none,none,none,none,none],[],0⟩):=by
  refine cP (ce (ps:=[.int (a:Int),.int (b:Int)]) rfl ?_);show(if _ then _ else _)=_;rw [aJ ⟨by exact fun W=>aW 0x290012a0800008422 rfl X W,nA (n:=8900) (by decide) (by simpa using Z)⟩,rR,Bd _ (by exact(aW 0x9005280800008421 rfl X))];rfl
 rw [aR ((cK U).trans (aR V))];exact fY _ _ _
theorem SG{C88:bz}{a12 a3 b1 b2 h:Nat}(l:a12<b1*2^h->C88 [.int (a12:Int),.int (b1:Int),.int (h:Int)] []=some (.tup [.int ((a12/b1:Nat):Int),.int ((a12%b1:Nat):Int)],[],[]))
  (M:1<=h/\h<=4000) (C:a3<2^h) (V:b2<2^h) (O:b1<2^h) (w:2^h<=2*b1) (D:a12<b1*2^h+b2):
  LS C88 [.int (a12:Int),.int (a3:Int),.int ((b1*2^h+b2:Nat):Int),.int (b1:Int),.int (b2:Int),.int (h:Int)] []=some (.tup [.int (((a12*2^h+a3)/(b1*2^h+b2):Nat):Int),.int (((a12*2^h+a3)%(b1*2^h+b2):Nat):Int)],[],[]):=by
 have W:0<2^h:=iY h;have N:0<b1:=by exact bD 0x2108002184000840000422 rfl O w
 have Y:Sm 4001 (2^h):=Sm.pow (by exact(aW 0x7d0940008403e80a000021 rfl M.2));have X:Sm 4001 b1:=Y.le (by exact(ii O));have T:Sm 4001 b2:=Y.le (by exact(ii V));have z:Sm 9000 a12:=((X.mul Y).add ((T.mono (by decide)))).mono (by decide) |>.le (by exact(cq 0x80100800004400804000421 rfl D))
 unfold LS;rw [bX (σ:=⟨[cI (a12:Int),cI (a3:Int),cI ((b1*2^h+b2:Nat):Int),cI (b1:Int),cI (b2:Int),cI (h:Int),none,none],[],0⟩) rfl (Pn _ _ _ _ _ _)];unfold Lb;have S:fC (.int 1) (.int (h:Int))=fun σ=>some (.int ((2^h:Nat):Int),σ):=by
  funext σ
  have:=sz (a:=1) (n:=h) (σ:=σ) (by exact(Fv M.2)) (Fd (by decide));rw [gT]at this
  exact this
 have I:au (ai (ai (ac 0) (ac 5) fq) (ac 3) fE) ⟨[cI (a12:Int),cI (a3:Int),cI ((b1*2^h+b2:Nat):Int),cI (b1:Int),cI (b2:Int),cI (h:Int),none,none],[],0⟩=some (((a12/2^h:Nat):Int)==(b1:Int),⟨[cI (a12:Int),cI (a3:Int),cI ((b1*2^h+b2:Nat):Int),cI (b1:Int),cI (b2:Int),cI (h:Int),none,none],[],0⟩):=
  aS (av (av rfl rfl vt) rfl rfl) rfl
 have U:RW fun(q:Nat) (r:Nat)=>Sn ((dn (au (ai (ai (ac 0) (ac 5) fq) (ac 3) fE)) (ar (jd (bT (ae (ai (ai (ab (.int 1)) (ac 5) fC) (ab (.int 1)) dB) (ae (ai (ai (ac 0) (ai (ac 3) (ac 5) fC) dB) (ac 3) bk) al))) 6 7)
 aq) (ar (am (aY C88 (ae (ac 0) (ae (ac 3) (ae (ac 5) al)))) (dk 2 (aU (ap 6) (aU (ap 7) cp))))
 aq)) ⟨[cI (a12:Int),cI (a3:Int),cI ((b1*2^h+b2:Nat):Int),cI (b1:Int),cI (b2:Int),cI (h:Int),none,none],[],0⟩=some (.next,⟨[cI (a12:Int),cI (a3:Int),cI ((b1*2^h+b2:Nat):Int),cI (b1:Int),cI (b2:Int),cI (h:Int),cI (q:Int),cI (r:Int)],[],0⟩)) (a12=q*b1+r) (q<2^h) (r*2^h+a3<q*b2+(b1*2^h+b2)) (Sm 20000 r):=by
  by_cases J:a12/2^h=b1
  .have Z:=cU a12 (2^h)
   have v:=dT a12 W;rw [J]at Z
   generalize a12%2^h=lo at *
   rw [cz (2^h)]at Z
   have E:b1*2^h<=a12:=by exact DP Z
   refine⟨2^h-1,a12-b1*2^h+b1,?_,?_,by exact bD 0x8000084200840010821 rfl (aV (LD W)),?_,(((z.le (Nat.sub_le _ _)).add (X.mono (by decide))).mono (by decide))⟩
   .rw [show(((a12/2^h:Nat):Int)==(b1:Int))=true by simp [J]]at I
    refine(cK I).trans ((aj ?_).trans rfl);exact(va (eo (ps:=[.int ((2^h-1:Nat):Int),.int ((a12-b1*2^h+b1:Nat):Int)]) (aC (g:=ae (ai (ai (ac 0) (ai (ac 3) (ac 5) fC) dB) (ac 3) bk) al)
     (av (av rfl rfl (by rw [S])) rfl (DG (b:=1) (by exact(LD W))))
     (aC (g:=al) (av (av rfl (av rfl rfl (sz (by exact(Fv M.2)) (X.mono (by decide)).lt)) (DG E)) rfl rfl) rfl)) (by show 2<=2^20;decide))).trans rfl
   .rw [Nat.sub_mul,gT,cz (2^h)]
    have:b1<=b1*2^h:=vr _ W;exact bY (su 0x40300800110000900200c02144400800010a22 rfl (aV (kT this)) (aV (DP Z))) (su 0x100100c02000400900200c02104400800010822 rfl (aV (kT this)) (aV (DP Z)))
   .have B:a12-b1*2^h=lo:=by exact bY (iF 0x100c000880000c02104400800010a22 rfl Z (aV (DP Z))) (iF 0x3004000880000c02144400800010822 rfl Z (aV (DP Z)))
    rw [B,Nat.sub_mul,gT,gz];have Q:(lo+1)*2^h<=b2*2^h:=lp _ (by exact(iF 0x10021180400800300402104400804000422 rfl D Z));rw [gz,gT]at Q
    rw [cz (2^h) b2];have:b2<=b2*2^h:=vr _ W;exact Tr 0x140600880100060080210423014040085118020100400840000423 rfl C Q (aV (kT this))
  .have R:a12<b1*2^h:=by
    have k:a12/2^h<b1+1:=by
     rw [ml W,gz,gT];exact iF 0x100c021002100060108010840000422 rfl V D
    have:a12/2^h<b1:=by exact(eN J).elim (fun G=>AA G) (fun G=>(Kd k G:False).elim)
    rwa [ml W]at this
   have Z:=cU a12 b1;have v:=dT a12 N;have m:a12/b1<2^h:=by rw [ml N,cz];exact R
   refine⟨a12/b1,a12%b1,?_,by rw [cz];exact bY (cq 0x40000840004400800010a21 rfl Z) (cq 0x80100002004400800010821 rfl Z),m,?_,(z.le (Nat.mod_le _ _)).mono (by decide)⟩
   .rw [show(((a12/2^h:Nat):Int)==(b1:Int))=false from lj.mpr (fun e=>J (Int.natCast_inj.mp e))]at I
    exact(bM I).trans ((aj (aB (bF (ps:=[.int (a12:Int),.int (b1:Int),.int (h:Int)]) rfl rfl rfl (l R)) rfl)).trans rfl)
   .have:(a12%b1+1)*2^h<=b1*2^h:=lp _ v
    rw [gz,gT]at this
    exact Gv 0x140300880100020082118020100400840000422 rfl C this
 obtain⟨q,r,B,g1,g2,j,g4⟩:=U;have f:am (ai (ai (ai (ac 7) (ac 5) fC) (ac 1) Ot) (ai (ac 6) (ac 4) cO) dB) (ap 7) ⟨[cI (a12:Int),cI (a3:Int),cI ((b1*2^h+b2:Nat):Int),cI (b1:Int),cI (b2:Int),cI (h:Int),cI (q:Int),cI (r:Int)],[],0⟩
   = some (.next,Ps (some (.int (a12:Int))) (some (.int (a3:Int))) (some (.int (b1:Int))) (some (.int (b2:Int))) (some (.int (h:Int))) (b1*2^h+b2) q (((r*2^h+a3:Nat):Int)-((q*b2:Nat):Int))):=
  aB (av (av (av rfl rfl (sz (by exact(Fv M.2)) (g4.mono (by decide)).lt)) rfl (UD C)) (av rfl rfl (Om ((Y.le (by exact(ii g2))).mono (by decide)).lt (T.mono (by decide)).lt)) rfl) rfl
 have F:q*b2<=2*(b1*2^h+b2):=by
  have A:q*b2<=2^h*2^h:=nM (by exact(ii g2)) (by exact(ii V));have H:2^h*2^h<=2*b1*2^h:=lp _ w;rw [oy]at H
  exact iF 0x60100421800008802184000840000022 rfl A H
 obtain⟨x,y,i,o,p,s⟩:=BP (l0:=some (.int (a12:Int))) (l1:=some (.int (a3:Int))) (l3:=some (.int (b1:Int))) (l4:=some (.int (b2:Int))) (l5:=some (.int (h:Int))) (b:=b1*2^h+b2) 2 100 q (((r*2^h+a3:Nat):Int)-((q*b2:Nat):Int)) (by decide) (by exact(su 0x24801804960801008434b501100201086000021 rfl F)) (by exact(su 0x801804910121000024b12120060108020800010421 rfl j));have P:x*((b1*2^h+b2:Nat):Int)+y=((a12*2^h+a3:Nat):Int):=by
  rw [s];have A:(q:Int)*((b1*2^h+b2:Nat):Int)=((q*b1*2^h+q*b2:Nat):Int):=by
   rw [<-zE,vg,oy]
  have H:a12*2^h=q*b1*2^h+r*2^h:=by rw [g1,gz]
  rw [A,H];exact cX (iF 0x3008000084908123008024b0200004912020 rfl) (iF 0x3024400804960c000092210020000424a020 rfl)
 obtain⟨t,u⟩:=TU o p P;rw [aj B,aj f,aj i,aR (cP (eo (ps:=[.int x,.int y]) rfl (by show 2<=2^20;decide))),t,u];exact fY _ _ _
theorem xz(h:Nat):2^(2*h)=2^h*2^h:=by rw [Nat.two_mul,iE]
theorem yH(a h:Nat):a/2^(2*h)=a/2^h/2^h:=by rw [xz,EQ]
theorem Qy{a b h W Z X Y:Nat}(U:0<b)(I:W=a/2^h/b)(P:Z=a/2^h%b)(Q:X=(Z*2^h+a%2^h)/b)(R:Y=(Z*2^h+a%2^h)%b):X<2^h/\W*2^h+X=a/b/\Y=a%b:=by
 have O:0<2^h:=iY h;have T:Z<b:=by rw [P];exact dT _ U
 have N:a%2^h<2^h:=dT _ O;have V:Y<b:=by rw [R];exact dT _ U
 have F:W*b+Z=a/2^h:=by rw [I,P,cz];exact cU _ _
 have G:X*b+Y=Z*2^h+a%2^h:=by rw [Q,R,cz];exact cU _ _
 have H:a/2^h*2^h+a%2^h=a:=by rw [cz];exact cU _ _
 have S:Z*2^h+a%2^h<2^h*b:=by
  have:(Z+1)*2^h<=b*2^h:=lp _ T;rw [gz,gT]at this
  rw [cz (2^h) b];exact iF 0x3000020082118020100400840000422 rfl N this
 refine⟨?_,?_⟩
 .rw [Q,ml U];exact S
 .have:(W*2^h+X)*b+Y=a:=by
   rw [gz,Nat.add_assoc,G,IB,<-Nat.add_assoc,<-gz,F,H]
  have u:(W*2^h+X)*b+Y=(a/b)*b+a%b:=by rw [this,cz (a/b)];exact(cU _ _).symm
  have J:a/b=W*2^h+X:=by
   rw [<-this,cz,Ke U,zy V,Nat.add_zero]
  have M:a%b=Y:=by
   rw [<-this,cz,Ik,AP V]
  exact⟨J.symm,M.symm⟩
noncomputable abbrev Ar(Z:bz):SR:=(ar (am (ai (ac 2) (ab (.int 1)) fq) (ap 4))
 (ar (am (ai (ai (ab (.int 1)) (ac 4) fC) (ab (.int 1)) dB) (ap 5))
 (ar (jd (bT (ae (ai (ac 1) (ac 4) fq) (ae (ai (ac 1) (ac 5) lh) al))) 6 7)
 (ar (am (aY Z (ae (ai (ac 0) (ac 2) fq) (ae (ai (ai (ac 0) (ac 4) fq) (ac 5) lh) (ae (ac 1) (ae (ac 6) (ae (ac 7) (ae (ac 4) al))))))) (dk 2 (aU (ap 8) (aU (ap 9) cp))))
 (ar (am (aY Z (ae (ac 9) (ae (ai (ac 0) (ac 5) lh) (ae (ac 1) (ae (ac 6) (ae (ac 7) (ae (ac 4) al))))))) (dk 2 (aU (ap 10) (aU (ap 9) cp))))
 (ar (dn (au (ac 3)) (ar (fA (ac 9) (ab (.int 1)) fq (ap 9))
 aq) aq)
 (ar (bq (bT (ae (ai (ai (ac 8) (ac 4) fC) (ac 10) Ot) (ae (ac 9) al))))
 aq)))))))
noncomputable abbrev rY(a b n X h m V W Y r Z:Option PV):AS:=⟨[a,b,n,X,h,m,V,W,Y,r,Z],[],0⟩
theorem FP{C95:bz}{a b h pd:Nat}(E:∀Z T:Nat,Z<b->T<2^h->C95 [.int (Z:Int),.int (T:Int),.int (b:Int),.int ((b/2^h:Nat):Int),.int ((b%2^h:Nat):Int),.int (h:Int)] []=some (.tup [.int (((Z*2^h+T)/b:Nat):Int),.int (((Z*2^h+T)%b:Nat):Int)],[],[]))
  (M:h<=4000) (F:0<b) (J:Sm 8001 b) (D:a<b*2^(2*h)) (O:pd<2):
  ∃S,Ar C95 (rY (some (.int (a:Int))) (some (.int (b:Int))) (some (.int ((2*h:Nat):Int))) (some (.int (pd:Int))) none none none none none none none)=some (.ret (.tup [.int ((a/b:Nat):Int),.int (((if pd=0 then a%b else a%b/2):Nat):Int)]),S):=by
 have N:0<2^h:=iY h;have m:a%2^h<2^h:=dT _ N;have u:Sm 20000 a:=((J.mul (Sm.pow (k:=8001) (h:=2*h) (by exact(aW 0x3e8250004308403e80a000041 rfl M)))).mono (by decide)).le (kr D);have V:a/2^(2*h)<b:=by rw [ml (iY _)];exact D
 have I:a/2^(2*h)*2^h+a/2^h%2^h=a/2^h:=by rw [yH,cz];exact cU _ _
 have v:=E (a/2^(2*h)) (a/2^h%2^h) V (dT _ N);rw [I]at v
 have j:=E (a/2^h%b) (a%2^h) (dT _ F) m;obtain⟨s,t,H⟩:=Qy (a:=a) (b:=b) (h:=h) F rfl rfl rfl rfl;generalize P:a/2^h/b=Y at *
 generalize p:a/2^h%b=U at *
 generalize o:(U*2^h+a%2^h)/b=W at *
 generalize q:(U*2^h+a%2^h)%b=X at *
 have Q:Sm 20000 Y:=by rw [<-P];exact u.le (bP (rD _ _) (rD _ _))
 have w:am (ai (ac 2) (ab (.int 1)) fq) (ap 4) (rY (some (.int (a:Int))) (some (.int (b:Int))) (some (.int ((2*h:Nat):Int))) (some (.int (pd:Int))) none none none none none none none)=some (.next,(rY (some (.int (a:Int))) (some (.int (b:Int))) (some (.int ((2*h:Nat):Int))) (some (.int (pd:Int))) (some (.int (h:Int))) none none none none none none)):=by
  refine aB (av rfl rfl (vt (a:=2*h) (n:=1))) ?_
  rw [show 2*h/2^1=h by exact bY (cq 0x100000084010c200004310821 rfl (cU _ 2)) (cq 0x10002104200844010c200004310a22 rfl (cU _ 2) (dT _ (y:=2) (by decide)))];rfl
 have x:am (ai (ai (ab (.int 1)) (ac 4) fC) (ab (.int 1)) dB) (ap 5) (rY (some (.int (a:Int))) (some (.int (b:Int))) (some (.int ((2*h:Nat):Int))) (some (.int (pd:Int))) (some (.int (h:Int))) none none none none none none)=some (.next,rY (some (.int (a:Int))) (some (.int (b:Int))) (some (.int ((2*h:Nat):Int))) (some (.int (pd:Int))) (some (.int (h:Int))) (some (.int ((2^h-1:Nat):Int))) none none none none none):=by
  refine aB (av (av rfl rfl (sz (a:=1) (n:=h) (by exact(Fv M)) (Fd (by decide)))) rfl (DG (b:=1) (by rw [gT];exact N))) ?_
  rw [gT];rfl
 have z:jd (bT (ae (ai (ac 1) (ac 4) fq) (ae (ai (ac 1) (ac 5) lh) al))) 6 7 (rY (some (.int (a:Int))) (some (.int (b:Int))) (some (.int ((2*h:Nat):Int))) (some (.int (pd:Int))) (some (.int (h:Int))) (some (.int ((2^h-1:Nat):Int))) none none none none none)=some (.next,rY (some (.int (a:Int))) (some (.int (b:Int))) (some (.int ((2*h:Nat):Int))) (some (.int (pd:Int))) (some (.int (h:Int))) (some (.int ((2^h-1:Nat):Int))) (some (.int ((b/2^h:Nat):Int))) (some (.int ((b%2^h:Nat):Int))) none none none):=by
  exact(va (eo (ps:=[.int ((b/2^h:Nat):Int),.int ((b%2^h:Nat):Int)]) (aC (g:=ae (ai (ac 1) (ac 5) lh) al) (av rfl rfl vt) (aC (g:=al) (av rfl rfl Lo) rfl)) (by show 2<=2^20;decide))).trans rfl
 have A:am (aY C95 (ae (ai (ac 0) (ac 2) fq) (ae (ai (ai (ac 0) (ac 4) fq) (ac 5) lh) (ae (ac 1) (ae (ac 6) (ae (ac 7) (ae (ac 4) al))))))) (dk 2 (aU (ap 8) (aU (ap 9) cp))) (rY (some (.int (a:Int))) (some (.int (b:Int))) (some (.int ((2*h:Nat):Int))) (some (.int (pd:Int))) (some (.int (h:Int))) (some (.int ((2^h-1:Nat):Int))) (some (.int ((b/2^h:Nat):Int))) (some (.int ((b%2^h:Nat):Int))) none none none)=some (.next,rY (some (.int (a:Int))) (some (.int (b:Int))) (some (.int ((2*h:Nat):Int))) (some (.int (pd:Int))) (some (.int (h:Int))) (some (.int ((2^h-1:Nat):Int))) (some (.int ((b/2^h:Nat):Int))) (some (.int ((b%2^h:Nat):Int))) (some (.int (Y:Int))) (some (.int (U:Int))) none):=
  aB (bF (aC (g:=ae (ai (ai (ac 0) (ac 4) fq) (ac 5) lh) (ae (ac 1) (ae (ac 6) (ae (ac 7) (ae (ac 4) al))))) (av rfl rfl vt) (aC (g:=ae (ac 1) (ae (ac 6) (ae (ac 7) (ae (ac 4) al)))) (av (av rfl rfl vt) rfl Lo) rfl)) rfl rfl v) rfl
 have B:am (aY C95 (ae (ac 9) (ae (ai (ac 0) (ac 5) lh) (ae (ac 1) (ae (ac 6) (ae (ac 7) (ae (ac 4) al))))))) (dk 2 (aU (ap 10) (aU (ap 9) cp))) (rY (some (.int (a:Int))) (some (.int (b:Int))) (some (.int ((2*h:Nat):Int))) (some (.int (pd:Int))) (some (.int (h:Int))) (some (.int ((2^h-1:Nat):Int))) (some (.int ((b/2^h:Nat):Int))) (some (.int ((b%2^h:Nat):Int))) (some (.int (Y:Int))) (some (.int (U:Int))) none)=some (.next,rY (some (.int (a:Int))) (some (.int (b:Int))) (some (.int ((2*h:Nat):Int))) (some (.int (pd:Int))) (some (.int (h:Int))) (some (.int ((2^h-1:Nat):Int))) (some (.int ((b/2^h:Nat):Int))) (some (.int ((b%2^h:Nat):Int))) (some (.int (Y:Int))) (some (.int (X:Int))) (some (.int (W:Int)))):=
  aB (bF (aC (g:=ae (ai (ac 0) (ac 5) lh) (ae (ac 1) (ae (ac 6) (ae (ac 7) (ae (ac 4) al))))) rfl (aC (g:=ae (ac 1) (ae (ac 6) (ae (ac 7) (ae (ac 4) al)))) (av rfl rfl Lo) rfl)) rfl rfl j) rfl
 have C:∀r:Nat,bq (bT (ae (ai (ai (ac 8) (ac 4) fC) (ac 10) Ot) (ae (ac 9) al))) (rY (some (.int (a:Int))) (some (.int (b:Int))) (some (.int ((2*h:Nat):Int))) (some (.int (pd:Int))) (some (.int (h:Int))) (some (.int ((2^h-1:Nat):Int))) (some (.int ((b/2^h:Nat):Int))) (some (.int ((b%2^h:Nat):Int))) (some (.int (Y:Int))) (some (.int (r:Int))) (some (.int (W:Int))))=some (.ret (.tup [.int ((a/b:Nat):Int),.int (r:Int)]),rY (some (.int (a:Int))) (some (.int (b:Int))) (some (.int ((2*h:Nat):Int))) (some (.int (pd:Int))) (some (.int (h:Int))) (some (.int ((2^h-1:Nat):Int))) (some (.int ((b/2^h:Nat):Int))) (some (.int ((b%2^h:Nat):Int))) (some (.int (Y:Int))) (some (.int (r:Int))) (some (.int (W:Int)))):=fun r=>by
  rw [<-t];exact cP (eo (aC (g:=ae (ac 9) al) (av (av rfl rfl (sz (by exact(Fv M)) (Q.mono (by decide)).lt)) rfl (UD s)) rfl) (by show 2<=2^20;decide))
 by_cases G:pd=0
 .subst G
  rw [aJ rfl,<-H];exact⟨_,(aj w).trans ((aj x).trans ((aj z).trans ((aj A).trans ((aj B).trans ((aj (bM rfl)).trans (aR (C X)))))))⟩
 .have:pd=1:=by exact bY (aW 0x1080000882000421 rfl O) ((eN G).elim (fun R=>(aW 0x2000421 rfl R:False).elim) (fun R=>LD R))
  subst this;rw [aO (by decide),<-H];have l:fA (ac 9) (ab (.int 1)) fq (ap 9) (rY (some (.int (a:Int))) (some (.int (b:Int))) (some (.int ((2*h:Nat):Int))) (some (.int ((1:Nat):Int))) (some (.int (h:Int))) (some (.int ((2^h-1:Nat):Int))) (some (.int ((b/2^h:Nat):Int))) (some (.int ((b%2^h:Nat):Int))) (some (.int (Y:Int))) (some (.int (X:Int))) (some (.int (W:Int))))=some (.next,rY (some (.int (a:Int))) (some (.int (b:Int))) (some (.int ((2*h:Nat):Int))) (some (.int ((1:Nat):Int))) (some (.int (h:Int))) (some (.int ((2^h-1:Nat):Int))) (some (.int ((b/2^h:Nat):Int))) (some (.int ((b%2^h:Nat):Int))) (some (.int (Y:Int))) (some (.int ((X/2:Nat):Int))) (some (.int (W:Int)))):=
   ot rfl rfl (vt (n:=1)) rfl
  exact⟨_,(aj w).trans ((aj x).trans ((aj z).trans ((aj A).trans ((aj B).trans ((aj ((cK rfl).trans ((aj l).trans rfl))).trans (aR (C (X/2))))))))⟩
noncomputable def zv:bz:=fun _ _=>none
noncomputable def QI:bz:=BH (LS (BH zv))
theorem HL{b h:Nat}(W:1<=h/\h<=4000)(R:2^(2*h)<=2*b)(U:b<2^(2*h))(Z X:Nat)(Q:Z<b)(O:X<2^h):
  LS (BH zv) [.int (Z:Int),.int (X:Int),.int (b:Int),.int ((b/2^h:Nat):Int),.int ((b%2^h:Nat):Int),.int (h:Int)] []=some (.tup [.int (((Z*2^h+X)/b:Nat):Int),.int (((Z*2^h+X)%b:Nat):Int)],[],[]):=by
 have T:0<2^h:=iY h;have e:b/2^h*2^h+b%2^h=b:=by rw [cz];exact cU _ _
 have Y:b/2^h<2^h:=by rw [ml T,<-xz];exact U
 have V:2^h<=2*(b/2^h):=by
  obtain⟨k,rfl⟩:∃k,h=k+1:=⟨h-1,by exact bY (bD 0x42000820004200840010a21 rfl (aV (Do W.1))) (bD 0x40108002004200840010821 rfl (aV (Do W.1)))⟩;have:2^k<=b/2^(k+1):=by
   rw [Nat.le_div_iff_mul_le T,<-iE];have:2^(2*(k+1))=2*2^(k+(k+1)):=by rw [show 2*(k+1)=k+(k+1)+1 by exact bY (aW 0x10842000800108210004218020 rfl) (aW 0x10800210c21084001000210020 rfl),kp,cz]
   exact cq 0x402000420086000a210086000022 rfl R this
  generalize b/2^(k+1)=q at *
  rw [kp];exact cq 0x4021880008002188020840000042 rfl this (cz _ 2)
 have S:0<b/2^h:=by exact bD 0x2108002184000840000422 rfl Y V
 have:=SG (C88:=BH zv) (a12:=Z) (a3:=X) (b1:=b/2^h) (b2:=b%2^h) (h:=h) (fun N=>by
  refine JF ?_ S ?_
  .have P:Z<2^(2*h):=ow Q U
   have:=(mH (m:=2*h) (x:=(Z:Int))).mpr (by simpa using P);exact bD 0x3e80a0008200040010c2000403e80a000022 rfl W.2 this
  .exact eB Y (kd (by decide) (by exact(aW 0x1162140000403e80a000021 rfl W.2)))) W O (dT _ T) Y V (by rw [e];exact Q)
 rw [e]at this
 exact this
theorem Na (Z:bz):BH Z=bW He DJ Eg (fun _=>[]) [] (fun n=>ED Z 100 n):=rfl
theorem Rn{a b n:Nat}(X:1<=n/\n<=7000)(V:2^n<=2*b)(Y:b<2^n)(O:a<b*2^n):QI [.int (a:Int),.int (b:Int),.int (n:Int)] []=some (.tup [.int ((a/b:Nat):Int),.int ((a%b:Nat):Int)],[],[]):=by
 have B:0<2^n:=iY n;have I:0<b:=by exact bD 0x10002108001004210086000022 rfl V Y
 have S:Sm 7000 b:=Sm.mono (k:=n) Y X.2;have D:Sm 20000 a:=((S.mul (Sm.pow (k:=7001) (h:=n) (by exact(aW 0xdac940008406d60a000021 rfl X.2)))).mono (by decide)).le (kr O)
 by_cases P:Builtin.Int.intBits (a:Int)<=n+4000
 .exact JF P I (S.mono (by decide)).lt
 .have J:n>4000/\True:=by
   refine⟨?_,trivial⟩;rcases Nat.lt_or_ge 4000 n with h|h
   .exact h
   .exfalso;apply P
    have:a<2^(n+n):=by rw [iE];exact eB O (lp _ (by exact(ii Y)))
    have:=(mH (m:=n+n) (x:=(a:Int))).mpr (by simpa using this);exact(bD 0x4010080000403e80a1000201f4050804000c23 rfl P h this:False).elim
  rw [show QI=BH (LS (BH zv))from rfl,Na (LS (BH zv)),bX (σ:=rY (some (.int (a:Int))) (some (.int (b:Int))) (some (.int (n:Int))) none none none none none none none none) rfl (Ig _ _ _)];unfold ED;have E:au (ai (ai (aD "int" (ac 0) al gD) (ac 2) dB) (ab (.int 4000)) PZ) (rY (some (.int (a:Int))) (some (.int (b:Int))) (some (.int (n:Int))) none none none none none none none none)=some (false,rY (some (.int (a:Int))) (some (.int (b:Int))) (some (.int (n:Int))) none none none none none none none none):=by
   rw [show false=decide (((Builtin.Int.intBits (a:Int):Nat):Int)-(n:Int)<=4000)from(ix (by exact(fun T=>bD 0xfa02a42048009620201f4050804000c22 rfl P T))).symm];exact aS (av (av (cf rfl rfl rfl rfl) rfl rfl) rfl rfl) rfl
  have N:am (ai (ac 2) (ab (.int 1)) lh) (ap 3) (rY (some (.int (a:Int))) (some (.int (b:Int))) (some (.int (n:Int))) none none none none none none none none)=some (.next,rY (some (.int (a:Int))) (some (.int (b:Int))) (some (.int (n:Int))) (some (.int ((n%2:Nat):Int))) none none none none none none none):=
   aB (av rfl rfl (Lo (a:=n) (h:=1))) rfl
  by_cases Q:n%2=0
  .rw [Q]at N
   obtain⟨h,rfl⟩:∃h,n=2*h:=⟨n/2,by exact bY (cq 0x2010c40004400002010c428802000822 rfl Q (cU _ 2)) (cq 0x4008043004400002010c420802000a22 rfl Q (cU _ 2))⟩;obtain⟨M,e⟩:=FP (C95:=LS (BH zv)) (a:=a) (b:=b) (h:=h) (pd:=0) (fun U F G H=>HL (by exact(⟨aW 0x1080400086108021 rfl X.1,aW 0x1f4050000201b582800218021 rfl X.2⟩)) V Y U F G H) (by exact(aW 0x1f4050000201b582800218021 rfl X.2)) I (S.mono (by decide)) O (by decide);rw [aJ rfl]at e
   unfold Ar at e
   rw [aj (bM E),aj N,aj (bM rfl),e];exact fY _ _ _
  .have W:n%2=1:=by exact bY (aW 0x1080000882000421 rfl (dT _ (y:=2) (by decide))) ((eN Q).elim (fun T=>(aW 0x2000421 rfl T:False).elim) (fun T=>LD T))
   rw [W]at N
   obtain⟨h,R⟩:∃h,n+1=2*h:=⟨n/2+1,by exact bY (cq 0x84201086108802004400002010c428842000822 rfl W (cU _ 2)) (cq 0x84401042100843004400002010c420842000a22 rfl W (cU _ 2))⟩;have Z:2^(2*h)=2*2^n:=by rw [<-R,kp,cz]
   obtain⟨M,e⟩:=FP (C95:=LS (BH zv)) (a:=a*2) (b:=b*2) (h:=h) (pd:=1) (fun U F G H=>HL (by exact(⟨bD 0x80210082010c21000420800108022 rfl X.1 R,bD 0x3e80a100041008610800214406d60a000022 rfl X.2 R⟩)) (by exact(iF 0x300862000210086300a4000862008210086000043 rfl V Z (cz _ 2))) (by exact(iF 0x200c010800218c0208402188028840000443 rfl Y Z (cz _ 2))) U F G H) (by exact(bD 0x3e80a100041008610800214406d60a000022 rfl X.2 R)) (by exact(bD 0x10002108002184028800008442 rfl I (cz _ 2))) (((S.mul (Sm.pow (k:=2) (h:=1) (by decide))).mono (by decide))) (by
    rw [Z];have:b*2*(2*2^n)=b*2^n*4:=by rw [show b*2*(2*2^n)=b*2*2*2^n by rw [oy (b*2)],oy b 2 2,IB]
    exact su 0x8040042000864008210106300a23008028840000444 rfl O this (cz _ 4) (cz _ 2)) (by decide)
   rw [aO (by decide),Nat.mul_div_mul_right _ _ (by decide),Nat.mul_mod_mul_right,Nat.mul_div_cancel _ (by decide)]at e
   unfold Ar at e
   have C:dn (au (ac 3)) (ar (fA (ac 0) (ab (.int 1)) fC (ap 0))
 (ar (fA (ac 1) (ab (.int 1)) fC (ap 1))
 (ar (fA (ac 2) (ab (.int 1)) gv (ap 2))
 aq))) aq (rY (some (.int (a:Int))) (some (.int (b:Int))) (some (.int (n:Int))) (some (.int ((1:Nat):Int))) none none none none none none none)=some (.next,rY (some (.int ((a*2:Nat):Int))) (some (.int ((b*2:Nat):Int))) (some (.int ((2*h:Nat):Int))) (some (.int ((1:Nat):Int))) none none none none none none none):=by
    rw [<-R];refine(cK rfl).trans ((aj (ot rfl rfl (sz (n:=1) (by decide) (D.mono (by decide)).lt) rfl)).trans ((aj (ot rfl rfl (sz (n:=1) (by decide) (S.mono (by decide)).lt) rfl)).trans ((aj rfl).trans rfl)))
   rw [aj (bM E),aj N,aj C,e];exact fY _ _ _
noncomputable def dg(n:Nat):Nat->Nat->List Nat
 |0,_=>[]
 |m+1,x=>x%2^n::dg n m (x/2^n)
theorem wu(n w1_):dg n 0 w1_=([]):=rfl
theorem yj(n m x):dg n (m+1) x=(x%2^n::dg n m (x/2^n)):=rfl
noncomputable def vl(n:Nat):List Nat->Nat
 |[]=>0
 |d::Z=>d+2^n*vl n Z
theorem kE(n:Nat):∀m x,(dg n m x).length=m
 |0,_=>rfl
 |m+1,x=>bw (·+1) (kE n m _)
theorem NL(n:Nat):∀m x,∀d∈dg n m x,d<2^n
 |0,_,d,h=>by cases h
 |m+1,x,d,h=>by
  rcases cC.mp h with h|h
  .rw [h];exact dT _ (iY n)
  .exact NL n m _ d h
theorem yq(n:Nat):∀m k x,dg n (m+k) x=dg n m (x%2^(m*n))++dg n k (x/2^(m*n))
 |0,k,x=>by simp [wu,yj]
 |m+1,k,x=>by
  rw [show m+1+k=(m+k)+1 by exact bY (bD 0x42100002104010800210020 rfl) (bD 0x40108002104210000210020 rfl)];have Y:=yq n m k (x/2^n);have Z:2^((m+1)*n)=2^n*2^(m*n):=by rw [gz,gT,lS,iE]
  dsimp only [wu,yj];rw [Y,zB]
  congr 1
  .rw [Z,Nat.mod_mul_right_mod]
  .congr 1
   .rw [Z,Nat.mod_mul_right_div_self]
   .rw [Z,EQ]
theorem NA(n:Nat):∀m x,x<2^(m*n)->vl n (dg n m x)=x
 |0,x,h=>by simp at h;simp [wu,yj,vl,h]
 |m+1,x,h=>by
  have Z:2^((m+1)*n)=2^n*2^(m*n):=by rw [gz,gT,lS,iE]
  dsimp only [wu,yj];unfold vl;rw [NA n m (x/2^n) (by rw [ml (iY n),cz,<-Z];exact h)];rw [lS];exact cU _ _
theorem GN(n:Nat):∀a b,vl n (a++b)=vl n a+2^(a.length*n)*vl n b
 |[],b=>by simp [vl]
 |d::a,b=>by
  rw [zB];show d+2^n*vl n (a++b)=d+2^n*vl n a+2^((d::a).length*n)*vl n b;rw [GN n a b,ge,gz a.length,gT,lS (a.length*n),iE,vg,oy];exact bY (cq 0x80100002108010080010020 rfl) (cq 0x80100800108010000210020 rfl)
theorem Ob(n:Nat):∀Z:List Nat,(∀d∈Z,d<2^n)->vl n Z<2^(Z.length*n)
 |[],_=>by simp [vl]
 |d::Z,h=>by
  have W:=h d (.head _);have X:=Ob n Z (fun x Y=>h x (.tail _ Y));unfold vl;rw [ge,gz,gT,lS (Z.length*n),iE];have:2^n*(vl n Z+1)<=2^n*2^(Z.length*n):=qF _ X;rw [vg,Nat.mul_one]at this
  exact iF 0x3008000082118020100400840000422 rfl W this
theorem lF{Y q:PV}{F:CF}{T:ER}{U:LR}{σ σ₁ Z:AS}{V:List PV}{X:List (Nat×AO)}{W:Nat}(Q:T σ=some (Y,σ₁))(R:U σ₁=some (V,Z))(S:F V Z.st Z.nx=some (q,X,W)):lU Y F T U σ=some (q,⟨Z.loc,X,W⟩):=by
 unfold lU;rw [Q];dsimp only;rw [R];dsimp only;rw [aJ rfl,S]
theorem bS{σ:AS}{i:Nat}{p:PV}(h:σ.st.lookup i=some (.cell (some p))):aI i σ=some (p,σ):=by unfold aI;rw [h];rfl
theorem HR{fo Y:ER}{p o k:PV}{σ σ₁ Z:AS}{r:Option AS}(V:fo σ=some (o,σ₁))(W:Y σ₁=some (k,Z))(X:dA o k p Z=r):wT fo Y p σ=r:=(bi V).trans ((bi W).trans X)
theorem EA{Z:Type}(l:List Z)(i:Nat)(x:Z)(h:i<l.length):l.set i x=l.take i++[x]++l.drop (i+1):=by
 rw [List.set_eq_take_append_cons_drop,aJ h];simp
theorem Hw(l:List Nat)(i x:Nat):(bV l).set i (.int (x:Int))=bV (l.set i x):=by
 unfold bV;rw [List.map_set]
theorem eK(l:List Nat):(bV l).length=l.length:=by exact db _
theorem Ok{σ:AS}{i L x:Nat}{Z:List Nat}(h:σ.st.lookup i=some (.list (bV Z)))(X:L<Z.length)(Y:Z.length<=1000):dA (.loc i) (.int (L:Int)) (.int (x:Int)) σ=some {σ with st:=aG σ.st i (.list (bV (Z.set L x)))}:=by
 show yo i _ _ σ=_;unfold yo;rw [h];dsimp only;rw [eK,aJ ⟨by exact EC,by exact bD 0x409001290840000421 rfl X,bP Y (by decide)⟩,iV,Hw]
theorem vN(a b c:PV):qq.map (fun x=>(kN.zip [a,b,c]).lookup x)=[some a,some b,some c,none,none,none,none]:=by left
theorem yF:kN.length=3:=by left
theorem xm{pn Y:List Str}{f:SR}{Z:List PV}{st:List (Nat×AO)}{X:Nat}{loc:List (Option PV)}{σ':AS}(W:Z.length=pn.length)(V:Y.map (fun x=>(pn.zip Z).lookup x)=loc)(h:f ⟨loc,st,X⟩=some (.next,σ')):fm pn Y f Z st X=some (.none,σ'.st,σ'.nx):=by
 unfold fm;rw [aJ W,V,h]
theorem jG{pn Y:List Str}{f:SR}{Z:List PV}{st:List (Nat×AO)}{X:Nat}{loc:List (Option PV)}{σ':AS}{p:PV}(W:Z.length=pn.length)(V:Y.map (fun x=>(pn.zip Z).lookup x)=loc)(h:f ⟨loc,st,X⟩=some (.ret p,σ')):fm pn Y f Z st X=some (p,σ'.st,σ'.nx):=by
 unfold fm;rw [aJ W,V,h]
noncomputable def Pm(P:Params)(N n k:Nat):Prop:=∀(x L R:Nat) (Y:List Nat) (st:List (Nat×AO)) (X:Nat),L<R->R-L<=2^k->R<=Y.length->Y.length<=1000->(R-L)*n<=40000->x<2^((R-L)*n)->
  st.lookup 0=some (.cell (some (.int (n:Int))))->st.lookup 1=some (.cell (some (.loc 4)))->st.lookup 2=some (.cell (some (dr P 0)))->st.lookup 4=some (.list (bV Y))->
  ∃Z,KO (fu P N 0 (k+1) [.int (x:Int),.int (L:Int),.int (R:Int)] st X=some (.none,Z,X)) (Z.lookup 4=some (.list (bV (Y.take L++dg n (R-L) x++Y.drop R)))) (∀i,i≠4->Z.lookup i=st.lookup i)
theorem pQ{L R M k:Nat}(Y:M=(L+R)/2)(Z:L<R)(X:R-L<=2^(k+1)):M-L<=2^k/\R-M<=2^k:=by
 rw [kp]at X
 have h:=cU (L+R) 2;have d:=dT (L+R) (y:=2) (by decide);rw [<-Y]at h
 exact⟨by exact rV [_,_,_,_,_,_,_,_,_] [] 0x1c080004001408008423804318041300a01004289805008800804310823008000840000846 rfl Y X (cU _ 2) (aV (ii Z)) (cz _ 2) (aV (su 0x2000420900108c02008800804310a23008010840000a44 rfl Y Z (cU _ 2) (dT _ (y:=2) (by decide)))),by exact rV [_,_,_,_,_,_,_,_,_] [] 0x7020001180002002108e010c60104c02804010a220900109805008800804310a23008000840000a47 rfl Y X (cU _ 2) (dT _ (y:=2) (by decide)) (aV (ii Z)) (cz _ 2) (aV (su 0x30000010c02008800804310823008010840000843 rfl Y Z (cU _ 2)))⟩
theorem CE(P:Params)(N:Nat){n:Nat}(hn:1<=n)(k:Nat)(g:∀j,k=j+1->Pm P N n j):Pm P N n k:=by
  intro x L R O st W Z D T B G J p q w e;have z:∀h l m o:Option PV,au (ai (ai (ac 1) (ab (.int 1)) bk) (ac 2) fE) ⟨[cI (x:Int),cI (L:Int),cI (R:Int),h,l,m,o],st,W⟩=some (((L:Int)+1)==(R:Int),⟨[cI (x:Int),cI (L:Int),cI (R:Int),h,l,m,o],st,W⟩):=fun _ _ _ _=>aS (av (av rfl rfl rfl) rfl rfl) rfl
  by_cases A:L+1=R
  .subst A
   rw [show(((L:Int)+1)==((L+1:Nat):Int))=true by exact aJ rfl]at z
   rw [show L+1-L=1 by exact bY (bD 0x42000021084020800010821 rfl (aV (zb))) (bD 0x108021084020800010a21 rfl (aV (zb)))]at J ⊢
   rw [gT]at J
   have H:=Ok (σ:=⟨[cI (x:Int),cI (L:Int),cI ((L+1:Nat):Int),none,none,none,none],st,W⟩) (L:=L) (x:=x) e (by exact(wz T)) B;refine⟨aG st 4 (.list (bV (O.set L x))),?_,?_,fun i C=>aL C⟩
   .rw (occs:=.all) [show fu P N 0 (k+1)=fm kN qq (nq P (fu P N 0 k) N 0)from rfl]
    unfold nq;refine jG (σ':=⟨[cI (x:Int),cI (L:Int),cI ((L+1:Nat):Int),none,none,none,none],aG st 4 (.list (bV (O.set L x))),W⟩) (by rw (occs:=.all) [yF];rfl) (vN _ _ _) ?_
    refine aR ((cK (z _ _ _ _)).trans ((aj (aB rfl (HR (bS (σ:=⟨_,st,W⟩) q) rfl H))).trans (aR rfl)))
   rw (occs:=.all) [ba,EA _ _ _ (by exact(wz T))];dsimp only [wu,yj];rw (occs:=.all) [AP J]
  .cases k with
   |zero=>simp at D;exact((eN A).elim (fun S=>(bD 0x108402084200844000022 rfl D S:False).elim) (fun S=>(Mv Z S:False).elim):False).elim
   |succ k=>
    rw [show(((L:Int)+1)==(R:Int))=false from lj.mpr (by exact(fun S=>(eN A).elim (fun v=>bD 0x200840010421024214800912a22 rfl S v) (fun v=>bD 0x210004100421024214800912822 rfl S v)))]at z
    obtain⟨M,Q⟩:∃M,M=(L+R)/2:=⟨_,rfl⟩;have X:L<M:=by exact(eN A).elim (fun S=>su 0x10022104800846010044004021885118021100410840000a44 rfl Q S (cU _ 2) (dT _ (y:=2) (by decide))) (fun S=>(Mv Z S:False).elim)
    have Y:M<R:=by exact su 0x10080110400008801804310823008021040000423 rfl Z Q (cU _ 2)
    have z0:2^(k+1)=2^k*2:=kp ..;have F:(M-L)*n<=(R-L)*n:=lp _ (by exact(su 0x10020002100c040085100060100420840000423 rfl Y (aV (ii X)) (aV (ii Z))));have s:(R-M)*n<=(R-L)*n:=lp _ (by exact(su 0x100200023000040085118020100420840000423 rfl X (aV (ii Y)) (aV (ii Z))));have I:(R-L)*n=(M-L)*n+(R-M)*n:=by rw (occs:=.all) [<-gz];congr 1;exact bY (PM (aV (ii Z)) (aV (ii X)) (aV (ii Y))) (Ql (aV (ii X)) (aV (ii Y)) (aV (ii Z)))
    have u:x/2^((M-L)*n)<2^((R-M)*n):=by
     rw (occs:=.all) [ml (iY _),<-iE,lS,<-I];exact J
    have d:Sm 40001 x:=Sm.mono (k:=(R-L)*n) J (by exact(aW 0x4e20940000427100a000021 rfl G));obtain⟨V,f1,g4,go⟩:=g k rfl (x%2^((M-L)*n)) L M O st W X (pQ Q Z D).1 (by exact(JP T Y)) B (by exact(Kr G F)) (dT _ (iY _)) p q w e;obtain⟨U,f2,b,c⟩:=g k rfl (x/2^((M-L)*n)) M R (O.take L++dg n (M-L) (x%2^((M-L)*n))++O.drop M) V W Y (pQ Q Z D).2 (by simp [kE];exact Tr 0x180400840100000840501802144a01808010a23008028840000024 rfl T (mx (Ks Z T)) (aV (ii X)) (aV (JP T Y))) (by simp [kE];exact Gv 0x1f410a0180410080100080280420900200c021044008041fa08000024 rfl B (mx (Ks Z T)) (aV (ii X)) (aV (JP T Y))) (by exact(Kr G s)) u (by rw (occs:=.all) [go 0 (by decide)];exact p) (by rw (occs:=.all) [go 1 (by decide)];exact q) (by rw (occs:=.all) [go 2 (by decide)];exact w) g4;refine⟨U,?_,?_,fun i C=>(c i C).trans (go i C)⟩
    .rw (occs:=.all) [show fu P N 0 (k+1+1)=fm kN qq (nq P (fu P N 0 (k+1)) N 0)from rfl]
     unfold nq;refine xm (σ':=⟨[cI (x:Int),cI (L:Int),cI (R:Int),cI (M:Int),cI (((M-L)*n:Nat):Int),cI ((x/2^((M-L)*n):Nat):Int),cI ((x%2^((M-L)*n):Nat):Int)],U,W⟩) (by rw (occs:=.all) [yF];rfl) (vN _ _ _) ?_
     have a1:am (ai (ai (ac 1) (ac 2) bk) (ab (.int 1)) fq) (ap 3) ⟨[cI (x:Int),cI (L:Int),cI (R:Int),none,none,none,none],st,W⟩=some (.next,⟨[cI (x:Int),cI (L:Int),cI (R:Int),cI (M:Int),none,none,none],st,W⟩):=by
      rw (occs:=.all) [Q];exact aB (av (av rfl rfl rfl) rfl (vt (a:=L+R) (n:=1))) rfl
     have a2:am (ai (ai (ac 3) (ac 1) dB) (aI 0) cO) (ap 4) ⟨[cI (x:Int),cI (L:Int),cI (R:Int),cI (M:Int),none,none,none],st,W⟩=some (.next,⟨[cI (x:Int),cI (L:Int),cI (R:Int),cI (M:Int),cI (((M-L)*n:Nat):Int),none,none],st,W⟩):=by
      have f:∀y:Nat,y<=50000->y<2^50000:=fun y hy=>jO hy Ax
      have t:n<=40000:=bP (zP n (by exact(cq 0x400042108000100428840000422 rfl Z (aV (ii Z))))) G;exact aB (av (av rfl rfl (DG (by exact(ii X)))) (bS (σ:=⟨_,st,W⟩) p) (Om (f _ (by exact(Tr 0xc350298000880501802104002804400c02188411804010be8204000840000025 rfl T B Q (cU _ 2) (aV (ii X))))) (f _ (by exact(aW 0x61a8140000427100a000021 rfl t))))) rfl
     have a3:am (ai (ac 0) (ac 4) fq) (ap 5) ⟨[cI (x:Int),cI (L:Int),cI (R:Int),cI (M:Int),cI (((M-L)*n:Nat):Int),none,none],st,W⟩=some (.next,⟨[cI (x:Int),cI (L:Int),cI (R:Int),cI (M:Int),cI (((M-L)*n:Nat):Int),cI ((x/2^((M-L)*n):Nat):Int),none],st,W⟩):=
      aB (av rfl rfl vt) rfl
     have a4:am (ai (ac 0) (ai (ac 5) (ac 4) fC) MD) (ap 6) ⟨[cI (x:Int),cI (L:Int),cI (R:Int),cI (M:Int),cI (((M-L)*n:Nat):Int),cI ((x/2^((M-L)*n):Nat):Int),none],st,W⟩=some (.next,⟨[cI (x:Int),cI (L:Int),cI (R:Int),cI (M:Int),cI (((M-L)*n:Nat):Int),cI ((x/2^((M-L)*n):Nat):Int),cI ((x%2^((M-L)*n):Nat):Int)],st,W⟩):=
      aB (av rfl (av rfl rfl (sz (by exact(bD 0x186a05080010002000427100a000022 rfl G F)) ((d.le (rD _ _)).mono (by decide)).lt)) Ug) rfl
     exact(aj (bM (z _ _ _ _))).trans ((aj a1).trans ((aj a2).trans ((aj a3).trans ((aj a4).trans ((aj (jA (lF (bS (σ:=⟨_,st,W⟩) w) rfl f1))).trans ((aj (jA (lF (bS (σ:=⟨_,V,W⟩) (by show V.lookup 2=_;rw (occs:=.all) [go 2 (by decide)];exact w)) rfl f2))).trans rfl))))))
    .rw (occs:=.all) [b]
     congr 3
     have r:dg n (R-L) x=dg n (M-L) (x%2^((M-L)*n))++dg n (R-M) (x/2^((M-L)*n)):=by
      rw (occs:=.all) [<-yq];congr 1;exact bY (PM (aV (ii Z)) (aV (ii X)) (aV (ii Y))) (Ql (aV (ii X)) (aV (ii Y)) (aV (ii Z)))
     have E:(O.take L++dg n (M-L) (x%2^((M-L)*n))).length=M:=by simp [kE];exact bY (iF 0x3008000080118020100420840000822 rfl (mx (Ks Z T)) (aV (ii X))) (iF 0x2000021800118020100428840000a22 rfl (mx (Ks Z T)) (aV (ii X)))
     rw (occs:=.all) [r,Fy (by exact(bD 0x4000840000a21 rfl E)),yb (by exact(bD 0x1000000840000821 rfl E)),List.drop_append,E,vI (by exact(cq 0x40200020008020840000422 rfl Y E)),JT,IU,show M+(R-M)=R by exact bY (KW (aV (ii Y))) (Nf (aV (ii Y)))];simp
theorem wJ(P:Params)(N:Nat){n:Nat}(Z:1<=n):∀k,Pm P N n k
 |0=>CE P N Z 0 (fun _ e=>nomatch e)
 |k+1=>CE P N Z _ (fun j e=>by cases e;exact wJ P N Z k)
noncomputable def Kf(P:Params):bz:=bW BA rT rC (fun _=>[]) [] (fun n=>sW P 10 100 n)
noncomputable def Gu(P:Params):bz:=bW CD qy rr (fun _=>[]) [] (fun n=>tN P 10 100 n)
theorem LX(a b:PV):cH BA rT rC ([a,b]++[]) ([]++[])=⟨[some a],[(0,.cell (some b)),(1,.cell none),(2,.cell none)],3⟩:=by left
theorem Kv(o:AO)(b:PV):cH CD qy rr ([.loc 0,b]++[]) ([o]++[])=⟨[],[(0,o),(1,.cell (some (.loc 0))),(2,.cell (some b)),(3,.cell none)],4⟩:=by left
theorem Iv(m:Nat):wj [.int 0] m=bV (List.replicate m 0):=by
 unfold wj bV
 induction m with
 |zero=>rfl
 |succ m Z=>rw [tb,qX,Z,tb];rfl
theorem Nr{a b:Nat}{σ:AS}(X:0<b)(Y:b<2^8900):gu (.int (a:Int)) (.int (b:Int)) σ=some (.int ((a/b:Nat):Int),σ):=by
 refine cF (k:=wa) ?_
 unfold wa;rw [aJ ⟨by exact fun Z=>aW 0x290012a0800008422 rfl X Z,nA (n:=8900) (by decide) (by simpa using Y)⟩,rR]
theorem iP{σ:AS}{i:Nat}{p:PV}{o:Option PV}(h:σ.st.lookup i=some (.cell o)):dQ i p σ=some {σ with st:=aG σ.st i (.cell (some p))}:=by unfold dQ;rw [h];rfl
theorem AC{σ:AS}{i:Nat}{p:PV}{o:Option PV}(h:σ.st.lookup i=some (.cell o)):sE i p σ=some (.next,{σ with st:=aG σ.st i (.cell (some p))}):=by unfold sE;rw [h]
theorem PL(P:Params){a n m:Nat}(U:1<=n/\n<=7000)(I:m=(Builtin.Int.intBits (a:Int)+n-1)/n)(W:m<=60)(J:m*n<=40000):Kf P [.int (a:Int),.int (n:Int)] []=some (.loc 0,[],[.list (bV (dg n m a))]):=by
 unfold Kf;rw [bX (σ:=⟨[cI (a:Int)],[(0,.cell (some (.int (n:Int)))),(1,.cell none),(2,.cell none)],3⟩) rfl (LX _ _)]
 suffices v:∃V,sW P 10 100 ([]++([]:List AO)).length ⟨[cI (a:Int)],[(0,.cell (some (.int (n:Int)))),(1,.cell none),(2,.cell none)],3⟩=some (.ret (.loc 4),V)/\V.st.lookup 4=some (.list (bV (dg n m a)))by
  obtain⟨V,e,g⟩:=v;rw [e];exact cY (ids:=[4]) rfl (bK g (mU _) rfl) rfl
 show ∃V,sW P 10 100 0 _=_/\_;unfold sW;have Z:a<2^(m*n):=by
  have s:Builtin.Int.intBits (a:Int)<=m*n:=by
   have C:=cU (Builtin.Int.intBits (a:Int)+n-1) n;have D:=dT (Builtin.Int.intBits (a:Int)+n-1) (show n>0 by exact aW 0x210800108021 rfl U.1);rw [<-I,cz]at C
   exact su 0x2000118080104220085118020084400800010a23 rfl C D (aV (cq 0x8040104200840000421 rfl D))
  simpa using mH.mp s
 have G:am (ai (bH (ae (ab (.int 0)) al)) (ai (ai (ai (aD "int" (ac 0) al gD) (aI 0) bk) (ab (.int 1)) dB) (aI 0) gu) Bp) (dQ (0+1)) ⟨[cI (a:Int)],[(0,.cell (some (.int (n:Int)))),(1,.cell none),(2,.cell none)],3⟩
   = some (.next,⟨[cI (a:Int)],aG [(4,.list (bV (List.replicate m 0))),(3,.list [.int 0]),(0,.cell (some (.int (n:Int)))),(1,.cell none),(2,.cell none)] 1 (.cell (some (.loc 4))),5⟩):=by
  have u:bH (ae (ab (.int 0)) al) ⟨[cI (a:Int)],[(0,.cell (some (.int (n:Int)))),(1,.cell none),(2,.cell none)],3⟩=some (.loc 3,⟨[cI (a:Int)],[(3,.list [.int 0]),(0,.cell (some (.int (n:Int)))),(1,.cell none),(2,.cell none)],4⟩):=rfl;have t:ai (ai (ai (aD "int" (ac 0) al gD) (aI 0) bk) (ab (.int 1)) dB) (aI 0) gu ⟨[cI (a:Int)],[(3,.list [.int 0]),(0,.cell (some (.int (n:Int)))),(1,.cell none),(2,.cell none)],4⟩=some (.int (m:Int),⟨[cI (a:Int)],[(3,.list [.int 0]),(0,.cell (some (.int (n:Int)))),(1,.cell none),(2,.cell none)],4⟩):=by
   rw [I];refine av (av (av (cf rfl rfl rfl rfl) rfl rfl) rfl (DG (a:=Builtin.Int.intBits (a:Int)+n) (b:=1) (by exact(bD 0x20104200800108021 rfl U.1)))) rfl (Nr (by exact(aW 0x210800108021 rfl U.1)) ?_);exact jO U.2 (eB Ax (kd (by decide) (by decide)))
  have T:Bp (.loc 3) (.int (m:Int)) ⟨[cI (a:Int)],[(3,.list [.int 0]),(0,.cell (some (.int (n:Int)))),(1,.cell none),(2,.cell none)],4⟩=some (.loc 4,⟨[cI (a:Int)],[(4,.list (bV (List.replicate m 0))),(3,.list [.int 0]),(0,.cell (some (.int (n:Int)))),(1,.cell none),(2,.cell none)],5⟩):=by
   show Ew 3 _ _=_;rw [rU (show([(3,AO.list [.int 0]),(0,.cell (some (.int (n:Int)))),(1,.cell none),(2,.cell none)]:List (Nat×AO)).lookup 3=some (.list [.int 0])from rfl) (by decide),aJ ⟨by exact EC,by exact aW 0x800001920025210f08000021 rfl W,by simp;exact aW 0x2000006000010f08000021 rfl W⟩,iV,Iv]
  exact aB (av u t T) (iP (o:=none) rfl)
 generalize Y:aG [(4,AO.list (bV (List.replicate m 0))),(3,.list [.int 0]),(0,.cell (some (.int (n:Int)))),(1,.cell none),(2,.cell none)] 1 (.cell (some (.loc 4)))=st1 at G
 have w:st1.lookup 0=some (.cell (some (.int (n:Int)))):=by rw [<-Y,aL (by decide)];rfl
 have x:st1.lookup 1=some (.cell (some (.loc 4))):=by rw [<-Y,ba]
 have y:st1.lookup 2=some (.cell none):=by rw [<-Y,aL (by decide)];rfl
 have z:st1.lookup 4=some (.list (bV (List.replicate m 0))):=by rw [<-Y,aL (by decide)];rfl
 have B:sE (0+2) (dr P 0) ⟨[cI (a:Int)],st1,5⟩=some (.next,⟨[cI (a:Int)],aG st1 2 (.cell (some (dr P 0))),5⟩):=AC (σ:=⟨_,st1,5⟩) y;have A:(aG st1 2 (.cell (some (dr P 0)))).lookup 0=some (.cell (some (.int (n:Int)))):=by rw [aL (by decide)];exact w
 have Q:(aG st1 2 (.cell (some (dr P 0)))).lookup 1=some (.cell (some (.loc 4))):=by rw [aL (by decide)];exact x
 have E:(aG st1 2 (.cell (some (dr P 0)))).lookup 2=some (.cell (some (dr P 0))):=ba;have N:(aG st1 2 (.cell (some (dr P 0)))).lookup 4=some (.list (bV (List.replicate m 0))):=by rw [aL (by decide)];exact z
 generalize aG st1 2 (.cell (some (dr P 0)))=st2 at *
 have H:au (ac 0) ⟨[cI (a:Int)],st2,5⟩=some ((a:Int) != 0,⟨[cI (a:Int)],st2,5⟩):=rfl
 by_cases M:a=0
 .subst M
  have:m=0:=by
   rw [I,show Builtin.Int.intBits ((0:Nat):Int)=0 from rfl,Nat.zero_add];exact zy (by exact(bD 0x8000084200840010821 rfl (aV (Do U.1))))
  subst this;exact⟨⟨_,st2,5⟩,(aj G).trans ((aj B).trans ((aj (bM H)).trans (aR (cP (bS (σ:=⟨_,st2,5⟩) Q))))),N⟩
 .rw [show((a:Int) != 0)=true by simp;exact fun F=>(eN M).elim (fun O=>aW 0x80010802000a22 rfl F O) (fun O=>aW 0x210802000822 rfl F O)]at H
  have S:0<m:=by
   rcases AU m with h|h
   .rw [h]at Z;simp at Z;exact absurd Z M
   .exact h
  obtain⟨X,r,g4,go⟩:=wJ P 100 U.1 9 a 0 m (List.replicate m 0) st2 5 S (by exact(bD 0x800810002000021008410f08000022 rfl W (aV (aW 0x200800008421 rfl S)))) (by simp) (by simp;exact yO W) (by simpa using J) (by simpa using Z) A Q E N;have R:dC [.loc 4] ⟨[cI (a:Int)],st2,5⟩=some (.int (m:Int),⟨[cI (a:Int)],st2,5⟩):=by
   have:=uq (σ:=⟨[cI (a:Int)],st2,5⟩) N (by rw [eK,Gf];exact yO W);rw [eK,Gf]at this
   exact this
  have q:ck (lU (dr P 0) (fu P 100 0 10) (aI (0+2)) (ae (ac 0) (ae (ab (.int 0)) (ae (aQ dC (ae (aI (0+1)) al)) al)))) ⟨[cI (a:Int)],st2,5⟩=some (.next,⟨[cI (a:Int)],X,5⟩):=
   jA (lF (bS (σ:=⟨_,st2,5⟩) E) (aC (g:=ae (ab (.int 0)) (ae (aQ dC (ae (aI (0+1)) al)) al)) rfl (aC (g:=ae (aQ dC (ae (aI (0+1)) al)) al) rfl (aC (g:=al) (ce (aC (g:=al) (bS (σ:=⟨_,st2,5⟩) Q) rfl) R) rfl))) r)
  refine⟨⟨_,X,5⟩,(aj G).trans ((aj B).trans ((aj ((cK H).trans ((aj q).trans rfl))).trans (aR (cP (bS (σ:=⟨_,X,5⟩) (by show X.lookup 1=_;rw [go 1 (by decide)];exact Q)))))),?_⟩;rw [show(⟨_,X,5⟩:AS).st.lookup 4=X.lookup 4 from rfl,g4];simp
theorem wO(a b:PV):ur.map (fun x=>(lO.zip [a,b]).lookup x)=[some a,some b,none,none]:=by left
theorem yf:lO.length=2:=by left
noncomputable def xI(Z:List Nat)(L R:Nat):List Nat:=(Z.drop L).take (R-L)
theorem Ma(X:List Nat){L M R:Nat}(Z:L<=M)(Y:M<=R):xI X L R=xI X L M++xI X M R:=by
 unfold xI;rw [show R-L=(M-L)+(R-M)by exact bY (PM (aV (cq 0x80000022004000840000022 rfl Z Y)) (aV (kT Z)) (aV (kT Y))) (Ql (aV (kT Z)) (aV (kT Y)) (aV (cq 0x80000022004000840000022 rfl Z Y))),List.take_add,JT,show L+(M-L)=M by exact bY (KW (aV (kT Z))) (Nf (aV (kT Z)))]
theorem CQ(Z:List Nat){L R:Nat}(h:R<=Z.length):(xI Z L R).length=R-L:=by
 unfold xI;rw [qZ,nW];omega
theorem MI(Z:List Nat)(L R:Nat):∀d∈xI Z L R,d∈Z:=fun d h=>List.mem_of_mem_drop (List.mem_of_mem_take h)
theorem Dk{Z:List Nat}{k:Nat}(h:k<Z.length):(bV Z)[k]?=some (.int ((Z[k]:Nat):Int)):=by
 unfold bV;rw [kH,fh h];rfl
noncomputable def OY(P:Params)(N n:Nat)(Y:List Nat)(st:List (Nat×AO))(Z k:Nat):Prop:=∀(L R:Nat),L<R->R-L<=2^k->R<=Y.length->(R-L)*n<=40000->
  iQ P N 1 (k+1) [.int (L:Int),.int (R:Int)] st Z=some (.int ((vl n (xI Y L R):Nat):Int),st,Z)
theorem Ca(P:Params)(N:Nat){n:Nat}(u:1<=n){Y:List Nat}(s:Y.length<=1000)(B:∀d∈Y,d<2^n){st:List (Nat×AO)}{X:Nat}(m:st.lookup 0=some (.list (bV Y)))(o:st.lookup 1=some (.cell (some (.loc 0))))(p:st.lookup 2=some (.cell (some (.int (n:Int)))))(x:st.lookup 3=some (.cell (some (dt P 1))))(k:Nat)(A:∀j,k=j+1->OY P N n Y st X j):OY P N n Y st X k:=by
  intro L R Z H Q S;have F:au (ai (ai (ac 0) (ab (.int 1)) bk) (ac 1) fE) ⟨[cI (L:Int),cI (R:Int),none,none],st,X⟩=some (((L:Int)+1)==(R:Int),⟨[cI (L:Int),cI (R:Int),none,none],st,X⟩):=aS (av (av rfl rfl rfl) rfl rfl) rfl;rw (occs:=.all) [show iQ P N 1 (k+1)=fm lO ur (ux P (iQ P N 1 k) N 1)from rfl];unfold ux
  by_cases G:L+1=R
  .subst G
   rw [show(((L:Int)+1)==((L+1:Nat):Int))=true by exact aJ rfl]at F
   have D:vl n (xI Y L (L+1))=Y[L]:=by
    unfold xI;rw (occs:=.all) [show L+1-L=1 by exact bY (bD 0x42000021084020800010821 rfl (aV (zb))) (bD 0x108021084020800010a21 rfl (aV (zb))),HA (show L<Y.length by exact wz Q),ID,List.take_zero];simp [vl]
   rw (occs:=.all) [D];exact jG (σ':=⟨[cI (L:Int),cI ((L+1:Nat):Int),none,none],st,X⟩) (by rw (occs:=.all) [yf];rfl) (wO _ _) (aR ((cK F).trans (aR (cP (av (bS (σ:=⟨_,st,X⟩) o) rfl (jf (σ:=⟨_,st,X⟩) m (Dk (by exact(wz Q))) (by rw (occs:=.all) [eK];exact aW 0x7d0400001fa08000021 rfl s)))))))
  .cases k with
   |zero=>simp at H;exact((eN G).elim (fun U=>(bD 0x108402084200844000022 rfl H U:False).elim) (fun U=>(Mv Z U:False).elim):False).elim
   |succ k=>
    rw [show(((L:Int)+1)==(R:Int))=false from lj.mpr (by exact(fun U=>(eN G).elim (fun E=>bD 0x200840010421024214800912a22 rfl U E) (fun E=>bD 0x210004100421024214800912822 rfl U E)))]at F
    obtain⟨M,I⟩:∃M,M=(L+R)/2:=⟨_,rfl⟩;have V:L<M:=by exact(eN G).elim (fun U=>su 0x10022104800846010044004021885118021100410840000a44 rfl I U (cU _ 2) (dT _ (y:=2) (by decide))) (fun U=>(Mv Z U:False).elim)
    have W:M<R:=by exact su 0x10080110400008801804310823008021040000423 rfl Z I (cU _ 2)
    have t:2^(k+1)=2^k*2:=kp ..;have T:(M-L)*n<=(R-L)*n:=lp _ (by exact(su 0x10020002100c040085100060100420840000423 rfl W (aV (ii V)) (aV (ii Z))));have O:(R-M)*n<=(R-L)*n:=lp _ (by exact(su 0x100200023000040085118020100420840000423 rfl V (aV (ii W)) (aV (ii Z))));have q:=A k rfl L M V (pQ I Z H).1 (by exact(JP Q W)) (by exact(Kr S T));have r:=A k rfl M R W (pQ I Z H).2 (by exact(kT Q)) (by exact(Kr S O));have w:Sm 40001 (vl n (xI Y M R)):=by
     have:=Ob n (xI Y M R) (fun d h=>B d (MI _ _ _ d h));rw [CQ Y Q]at this
     exact Sm.mono this (by exact(bD 0x138825080010002000427100a000022 rfl S O))
    have z:∀y:Nat,y<=50000->y<2^50000:=fun y v=>jO v Ax
    have C:n<=40000:=bP (zP n (by exact(cq 0x400042108000100428840000422 rfl Z (aV (ii Z))))) S;have i:am (ai (ai (ac 0) (ac 1) bk) (ab (.int 1)) fq) (ap 2) ⟨[cI (L:Int),cI (R:Int),none,none],st,X⟩=some (.next,⟨[cI (L:Int),cI (R:Int),cI (M:Int),none],st,X⟩):=by
     rw (occs:=.all) [I];exact aB (av (av rfl rfl rfl) rfl (vt (a:=L+R) (n:=1))) rfl
    have J:(M-L)<=40000:=bP (vr _ u) (bP T S);have l:am (ai (ai (ac 2) (ac 0) dB) (aI (1+1)) cO) (ap 3) ⟨[cI (L:Int),cI (R:Int),cI (M:Int),none],st,X⟩=some (.next,⟨[cI (L:Int),cI (R:Int),cI (M:Int),cI (((M-L)*n:Nat):Int)],st,X⟩):=
     aB (av (av rfl rfl (DG (by exact(ii V)))) (bS (σ:=⟨_,st,X⟩) p) (Om (z _ (by exact(aW 0x61a8140000427100a000021 rfl J))) (z _ (by exact(aW 0x61a8140000427100a000021 rfl C))))) rfl
    have D:vl n (xI Y L R)=vl n (xI Y M R)*2^((M-L)*n)+vl n (xI Y L M):=by
     rw (occs:=.all) [Ma Y (kr V) (kr W),GN,CQ Y (by exact(JP Q W)),cz,lS]
    rw (occs:=.all) [D];exact jG (σ':=⟨[cI (L:Int),cI (R:Int),cI (M:Int),cI (((M-L)*n:Nat):Int)],st,X⟩) (by rw (occs:=.all) [yf];rfl) (wO _ _) ((aj (bM F)).trans ((aj i).trans ((aj l).trans (aR (cP (av (av (lF (bS (σ:=⟨_,st,X⟩) x) rfl r) rfl (sz (by exact(bD 0x186a05080010002000427100a000022 rfl S T)) (w.mono (by decide)).lt)) (lF (bS (σ:=⟨_,st,X⟩) x) rfl q) rfl))))))
theorem xJ(P:Params)(N:Nat){n:Nat}(X:1<=n){Y:List Nat}(W:Y.length<=1000)(Z:∀d∈Y,d<2^n){st:List (Nat×AO)}{nx:Nat}(S:st.lookup 0=some (.list (bV Y)))(T:st.lookup 1=some (.cell (some (.loc 0))))(U:st.lookup 2=some (.cell (some (.int (n:Int)))))(V:st.lookup 3=some (.cell (some (dt P 1)))):∀k,OY P N n Y st nx k
 |0=>Ca P N X W Z S T U V 0 (fun _ e=>nomatch e)
 |k+1=>Ca P N X W Z S T U V _ (fun j e=>by cases e;exact xJ P N X W Z S T U V k)
theorem OC(P:Params){n:Nat}{ds:List Nat}(H:1<=n)(U:ds.length<=60)(Q:∀d∈ds,d<2^n)(R:ds.length*n<=40000):Gu P [.loc 0,.int (n:Int)] [.list (bV ds)]=some (.int ((vl n ds:Nat):Int),[.list (bV ds)],[]):=by
 unfold Gu;rw [bX (σ:=⟨[],[(0,.list (bV ds)),(1,.cell (some (.loc 0))),(2,.cell (some (.int (n:Int)))),(3,.cell none)],4⟩) rfl (Kv _ _)]
 suffices R:∃Y,tN P 10 100 ([AO.list (bV ds)]++([]:List AO)).length ⟨[],[(0,.list (bV ds)),(1,.cell (some (.loc 0))),(2,.cell (some (.int (n:Int)))),(3,.cell none)],4⟩=some (.ret (.int ((vl n ds:Nat):Int)),Y)/\Y.st.lookup 0=some (.list (bV ds))by
  obtain⟨Y,e,g⟩:=R;rw [e];exact cY (ids:=[0]) rfl (bK g (mU _) rfl) rfl
 show ∃Y,tN P 10 100 1 _=_/\_;unfold tN;have G:sE (1+2) (dt P 1) ⟨[],[(0,.list (bV ds)),(1,.cell (some (.loc 0))),(2,.cell (some (.int (n:Int)))),(3,.cell none)],4⟩=some (.next,⟨[],aG [(0,.list (bV ds)),(1,.cell (some (.loc 0))),(2,.cell (some (.int (n:Int)))),(3,.cell none)] 3 (.cell (some (dt P 1))),4⟩):=AC (o:=none) rfl;have V:(aG [(0,AO.list (bV ds)),(1,.cell (some (.loc 0))),(2,.cell (some (.int (n:Int)))),(3,.cell none)] 3 (.cell (some (dt P 1)))).lookup 0=some (.list (bV ds)):=by rw [aL (by decide)];rfl
 have T:(aG [(0,AO.list (bV ds)),(1,.cell (some (.loc 0))),(2,.cell (some (.int (n:Int)))),(3,.cell none)] 3 (.cell (some (dt P 1)))).lookup 1=some (.cell (some (.loc 0))):=by rw [aL (by decide)];rfl
 have J:(aG [(0,AO.list (bV ds)),(1,.cell (some (.loc 0))),(2,.cell (some (.int (n:Int)))),(3,.cell none)] 3 (.cell (some (dt P 1)))).lookup 2=some (.cell (some (.int (n:Int)))):=by rw [aL (by decide)];rfl
 have O:(aG [(0,AO.list (bV ds)),(1,.cell (some (.loc 0))),(2,.cell (some (.int (n:Int)))),(3,.cell none)] 3 (.cell (some (dt P 1)))).lookup 3=some (.cell (some (dt P 1))):=ba;generalize aG [(0,AO.list (bV ds)),(1,.cell (some (.loc 0))),(2,.cell (some (.int (n:Int)))),(3,.cell none)] 3 (.cell (some (dt P 1)))=st2 at *
 refine⟨⟨[],st2,4⟩,(aj G).trans (aR (cP ?_)),V⟩;have S:ia st2 (.loc 0)=some (!(bV ds).isEmpty):=by
  show(match st2.lookup 0 with|some (.list X)=>if X.length<=2^30 then some (!X.isEmpty)else none|some (.set X)=>if X.length<=2^30 then some (!X.isEmpty)else none|_=>none)=_;rw [V];dsimp only;rw [aJ (by rw [eK];exact bP U (by decide))]
 have M:au (aI 1) ⟨[],st2,4⟩=some (!(bV ds).isEmpty,⟨[],st2,4⟩):=aS (bS (σ:=⟨[],st2,4⟩) T) S;cases ds with
 |nil=>exact(lC M).trans rfl
 |cons d Z=>
  have W:dC [.loc 0] ⟨[],st2,4⟩=some (.int ((d::Z).length:Int),⟨[],st2,4⟩):=by
   have:=uq (σ:=⟨[],st2,4⟩) V (by rw [eK];exact yO U);rw [eK]at this
   exact this
  have N:=xJ P 100 H (by exact(yO U)) Q (nx:=4) V T J O 9 0 (d::Z).length (by exact kc _) (by exact(bD 0x800810002000021008410f08000022 rfl U (aV (aW 0x8020 rfl)))) (bU _) (by simpa using R);have I:xI (d::Z) 0 (d::Z).length=d::Z:=by unfold xI;simp
  rw [I]at N
  exact(lH M).trans (lF (bS (σ:=⟨[],st2,4⟩) O) (aC (g:=ae (aQ dC (ae (aI 1) al)) al) rfl (aC (g:=al) (ce (aC (g:=al) (bS (σ:=⟨[],st2,4⟩) T) rfl) W) rfl)) N)
theorem kn{r:Nat->Nat}:∀{l:List AO},(∀Z∈l,dc Z=[])->l.map (il r)=l
 |[],_=>rfl
 |Z::l,h=>by rw [eh,JB _ _ (h Z (.head _)),kn fun x Y=>h x (.tail _ Y)]
theorem oh{st:List (Nat×AO)}{full:List Nat}:∀{Z:List Nat} {os:List AO},Z.map (fun i=>st.lookup i)=os.map some->(∀Y∈os,dc Y=[])->iL st full Z=some os
 |[],[],_,_=>rfl
 |[],_::_,h,_=>Ru h
 |_::_,[],h,_=>EG h
 |i::Z,Y::os,h,X=>by
  rw [eh,eh]at h
  injection h with U V
  exact bK U (X Y (.head _)) (oh V fun x W=>X x (.tail _ W))
theorem rS{st:List (Nat×AO)}{l:List Nat}(h:∀i∈ja l,∃Z,st.lookup i=some Z/\dc Z=[]):eU st 2 l=ja l:=by
 have e:∀(n:Nat) (m:List Nat),m=[]->eU st n (l++m)=eU st n l:=fun n m Y=>by rw [Y,lw]
 have step:∀n,eU st (n+1) l=eU st n l:=fun n=>e n _ (List.flatMap_eq_nil_iff.mpr fun i X=>by
  obtain⟨Z,V,W⟩:=h i X;simp only [V];exact W)
 exact(step 1).trans (step 0)
theorem dp{C:bz}{fs:LR}{σ σ₁:AS}{ps:List PV}{ids:List Nat}{os:List AO}{p:PV}{ns:List AO}(h:fs σ=some (ps,σ₁))(Q:ja (bA ps)=ids)(Z:ids.map (fun i=>σ₁.st.lookup i)=os.map some)(T:∀S∈os,dc S=[])
  (M:(dm.nodupB ids&&iu ids (bA ps)&&ids.all (fun i=>decide (i<σ₁.nx)))=true) (J:C (dH (fun i=>ids.idxOf i) ps) os=some (p,os,ns)) (V:dm.simpleAll os=true) (W:dm.simpleAll ns=true) (O:∀S∈ns,dc S=[]):
  aY C fs σ=some (gt (mT ids σ₁.nx) p,{σ₁ with st:=gZ (ib σ₁.st ids os) σ₁.nx ns,nx:=σ₁.nx+ns.length}):=by
 have U:=oh (full:=ids) Z T;have P:eU σ₁.st 2 (bA ps)=ids:=by
  rw [rS,Q];rw [Q];intro i N;obtain⟨j,R,rfl⟩:=JG N;have X:j<os.length:=by
   have:=bw List.length Z;rw [db,db]at this
   exact cq 0x80000422004020840000422 rfl R this
  refine⟨os[j],?_,T _ (nh X)⟩;have:=bw (fun l=>l[j]?) Z;simp only [kH,fh R,fh X,Fi]at this
  exact bc this
 have Y:os.length=ids.length:=by
  have:=bw List.length Z;rw [db,db]at this
  exact bY (bD 0x4000840000a21 rfl this) (bD 0x1000000840000821 rfl this)
 unfold aY;rw [h];dsimp only;rw [P];unfold dm;rw [U];dsimp only;rw [aJ M,J];dsimp only;rw [aJ ⟨Y,V,W⟩,kn T,kn O]
noncomputable def KN(P:Params):bz:=bW Ci xH xd (fun _=>[]) [] (fun n=>AW (Kf P) QI (Gu P) 100 n)
theorem MJ(a b:PV):cH Ci xH xd ([a,b]++[]) ([]++[])=⟨[some a,some b,none,none,none,none,none,none,none],[],0⟩:=by left
theorem My{p:PV}{Z:List PV}{σ:AS}{i j:Nat}(Y:σ.st.lookup i=some (.list Z))(X:Z[j]?=some p):jU σ (.rev i (j+1))=some (some (p,.rev i j)):=by
 show(cN (σ.st.lookup i)).bind _=_;rw [Y];show(Z[j]?).map _=_;rw [X];rfl
theorem FB{Y:TR}{f o:SR}{p:PV}{W:List PV}{σ σ₁ Z:AS}{n i j:Nat}(X:σ.st.lookup i=some (.list W))(V:W[j]?=some p)(h:Y p σ=some σ₁)(U:f σ₁=some (.next,Z)):gU Y f o (n+1) (.rev i (j+1)) σ=gU Y f o n (.rev i j) Z:=by
 show(match jU σ (.rev i (j+1))with|some (some (p,T))=>_|some none=>_|none=>_)=_;rw [My X V];dsimp only;rw [h];dsimp only;rw [U]
theorem Kw{Z:TR}{f o:SR}{σ:AS}{n i:Nat}:gU Z f o (n+1) (.rev i 0) σ=o σ:=rfl
noncomputable abbrev BF:SR:=(ar (am (aY QI (ae (ai (ai (ac 4) (ac 2) fC) (ac 6) bk) (ae (ac 1) (ae (ac 2) al)))) (dk 2 (aU (ap 7) (aU (ap 4) cp))))
 (ar (ck (aD "list" (ac 5) (ae (ac 7) al) bu))
 aq))
noncomputable abbrev jT(a b n r:Nat)(X Y Z:Option PV)(st:List (Nat×AO)):AS:=⟨[cI (a:Int),cI (b:Int),cI (n:Int),cL 0,cI (r:Int),cL 1,X,Y,Z],st,2⟩
theorem CB{a b n:Nat}(G:1<=n/\n<=7000)(S:2^n<=2*b)(V:b<2^n){ds:List Nat}(M:∀d∈ds,d<2^n)(y:ds.length<=60):∀(j N:Nat) (r:Nat) (Y:List Nat) (I Q:Option PV) (st:List (Nat×AO)),j<N->j<=ds.length->Y.length+j<=60->r<b->(∀q∈Y,q<2^n)->
  st.lookup 0=some (.list (bV ds))->st.lookup 1=some (.list (bV Y))->vl n Y.reverse*b+r=vl n (ds.drop j)->
  UG fun R Z T U X=>SH (gU (ap 6) BF aq N (.rev 0 j) (jT a b n r I Q none st)=some (.next,jT a b n R T U none X)) (X.lookup 1=some (.list (bV Z))) (R<b) ((∀q∈Z,q<2^n)) (vl n Z.reverse*b+R=vl n ds) (Z.length=Y.length+j)
 |_,0,_,_,_,_,_,h,_,_,_,_,_,_,_=>absurd h (fg _)
 |0,N+1,r,Y,I,Q,st,_,_,_,H,A,w,F,E=>⟨r,Y,I,Q,st,Kw,F,H,A,E,rfl⟩
 |j+1,N+1,r,Y,I,Q,st,p,z,P,H,A,w,F,E=>by
  have e:0<2^n:=iY n;have v:0<b:=by exact bD 0x10002108001004210086000022 rfl S V
  have x:ds[j]<2^n:=M _ (nh _);have u:Sm 7000 b:=Sm.mono (k:=n) V G.2;have O:r*2^n+ds[j]<b*2^n:=by
   have:(r+1)*2^n<=b*2^n:=lp _ H;rw [gz,gT]at this
   exact iF 0x3000020082118020100400840000422 rfl x this
  have J:=cU (r*2^n+ds[j]) b;have B:(r*2^n+ds[j])/b<2^n:=by rw [ml v,cz (2^n) b];exact O
  have D:(r*2^n+ds[j])%b<b:=dT _ v;have o:=Rn G S V O;generalize s:(r*2^n+ds[j])/b=W at *
  generalize t:(r*2^n+ds[j])%b=r1 at *
  have f:am (aY QI (ae (ai (ai (ac 4) (ac 2) fC) (ac 6) bk) (ae (ac 1) (ae (ac 2) al)))) (dk 2 (aU (ap 7) (aU (ap 4) cp))) (jT a b n r (some (.int ((ds[j]:Nat):Int))) Q none st)=some (.next,jT a b n r1 (some (.int ((ds[j]:Nat):Int))) (some (.int (W:Int))) none st):=
   aB (bF (ps:=[.int ((r*2^n+ds[j]:Nat):Int),.int (b:Int),.int (n:Int)]) (aC (g:=ae (ac 1) (ae (ac 2) al)) (av (av rfl rfl (sz (by exact(aW 0x61a8140000406d60a000021 rfl G.2)) ((u.le (kr H)).mono (by decide)).lt)) rfl rfl) rfl) rfl rfl o) rfl
  have i:ck (aD "list" (ac 5) (ae (ac 7) al) bu) (jT a b n r1 (some (.int ((ds[j]:Nat):Int))) (some (.int (W:Int))) none st)=some (.next,jT a b n r1 (some (.int ((ds[j]:Nat):Int))) (some (.int (W:Int))) none (aG st 1 (.list (bV (Y++[W]))))):=by
   rw [GF];exact dF (σ:=⟨_,st,2⟩) (σ₁:=⟨_,st,2⟩) rfl F rfl F (by rw [eK];exact bD 0x7a12014000043c204210080010021 rfl P)
  obtain⟨R,Z,T,U,X,g,g1,g2,l,g4,m⟩:=CB (a:=a) G S V M y j N r1 (Y++[W]) (some (.int ((ds[j]:Nat):Int))) (some (.int (W:Int))) (aG st 1 (.list (bV (Y++[W])))) (by exact(JU p)) (by exact(yI z)) (by rw [jL];simp only [ge,qP];exact bD 0x78408021000420043c204210080010021 rfl P) D (fun q C=>by
   rcases ku.mp C with h|h
   .exact A q h
   .rw [cJ.mp h];exact B) (by rw [aL (by decide)];exact w) ba (by
   rw [GY,Hx,zm];show(W+2^n*vl n Y.reverse)*b+r1=_;rw [HA (show j<ds.length by exact wz z)];show _=ds[j]+2^n*vl n (ds.drop (j+1));rw [<-E,vg,gz,cz W b,oy (2^n)];have:2^n*r=r*2^n:=cz _ _;exact bY (Gv 0x4014021804101400008400880400a23008020800010822 rfl J this) (Gv 0x1014000084401402180400880400823008020800010a22 rfl J this))
  refine⟨R,Z,T,U,X,(FB (σ:=⟨_,st,2⟩) w (Dk (by exact(wz z))) rfl ((aj f).trans ((aj i).trans rfl))).trans g,g1,g2,l,g4,?_⟩;rw [m,jL];simp only [ge,qP];exact bY (bD 0x42100800104010800210020 rfl) (bD 0x40108002104210080010020 rfl)
theorem PS(P:Params){a b n m:Nat}(G:0<b)(I:n=Builtin.Int.intBits (b:Int))(N:n<=7000)(E:m=(Builtin.Int.intBits (a:Int)+n-1)/n)(T:m<=60)(M:m*n<=40000):KN P [.int (a:Int),.int (b:Int)] []=some (.tup [.int ((a/b:Nat):Int),.int ((a%b:Nat):Int)],[],[]):=by
 have S:b<2^n:=by simpa using mH.mp (Nat.le_of_eq I.symm)
 have V:1<=n:=by
  rcases AU n with h|h
  .rw [h]at S;simp at S;exact(Im G S:False).elim
  .exact h
 have H:2^n<=2*b:=by
  obtain⟨k,D⟩:∃k,n=k+1:=⟨n-1,by exact bY (bD 0x42000820004200840010a21 rfl (aV (Do V))) (bD 0x40108002004200840010821 rfl (aV (Do V)))⟩;have:¬b<2^k:=fun h=>by
   have:=(mH (m:=k) (x:=(b:Int))).mpr (by simpa using h);exact cq 0x400800108440100028840000823 rfl I D this
  rw [D,kp];exact cq 0x21880008402188020840001042 rfl this (cz _ 2)
 have R:a<2^(m*n):=by
  have y:Builtin.Int.intBits (a:Int)<=m*n:=by
   have B:=cU (Builtin.Int.intBits (a:Int)+n-1) n;have C:=dT (Builtin.Int.intBits (a:Int)+n-1) (show n>0 by exact aW 0x210800108021 rfl V);rw [<-E,cz]at B
   exact su 0x2000118080104220085118020084400800010a23 rfl B C (aV (cq 0x8040104200840000421 rfl C))
  simpa using mH.mp y
 unfold KN;rw [bX (σ:=⟨[cI (a:Int),cI (b:Int),none,none,none,none,none,none,none],[],0⟩) rfl (MJ _ _)];unfold AW;have r:am (aD "int" (ac 1) al gD) (ap 2) ⟨[cI (a:Int),cI (b:Int),none,none,none,none,none,none,none],[],0⟩=some (.next,⟨[cI (a:Int),cI (b:Int),cI (n:Int),none,none,none,none,none,none],[],0⟩):=by
  rw [I];exact aB (cf rfl rfl rfl rfl) rfl
 have s:am (aY (Kf P) (ae (ac 0) (ae (ac 2) al))) (ap 3) ⟨[cI (a:Int),cI (b:Int),cI (n:Int),none,none,none,none,none,none],[],0⟩=some (.next,⟨[cI (a:Int),cI (b:Int),cI (n:Int),cL 0,none,none,none,none,none],[(0,.list (bV (dg n m a)))],1⟩):=
  aB (dp (ids:=[]) (os:=[]) rfl rfl rfl (fun _ h=>by cases h) rfl (PL P ⟨V,N⟩ E T M) rfl rfl (fun o h=>by rw [cJ.mp h];exact mU _)) rfl
 obtain⟨U,Z,W,X,Y,g,g1,g2,w,g4,A⟩:=CB (a:=a) (b:=b) ⟨V,N⟩ H S (ds:=dg n m a) (NL n m a) (by rw [kE];exact T) m 100 0 [] none none [(1,.list (bV [])),(0,.list (bV (dg n m a)))] (by exact(aW 0xc84000210f08000021 rfl T)) (by rw [kE];exact bU _) (by simpa using T) G (fun q h=>by cases h) rfl rfl (by
  rw [vI (by rw [kE];exact bU _)];simp [vl])
 rw [NA n m a R]at g4
 have t:er 100 (uX (ac 3)) (ap 6) BF aq (jT a b n 0 none none none [(1,.list (bV [])),(0,.list (bV (dg n m a)))])=some (.next,jT a b n U W X none Y):=by
  have:uX (ac 3) (jT a b n 0 none none none [(1,.list (bV [])),(0,.list (bV (dg n m a)))])=some (.rev 0 m,jT a b n 0 none none none [(1,.list (bV [])),(0,.list (bV (dg n m a)))]):=by
   show some (IK.rev 0 (bV (dg n m a)).length,_)=_;rw [eK,kE]
  unfold er;rw [this];exact g
 have O:Z.length<=60:=by rw [A];simpa using T
 have u:ck (aD "list" (ac 5) al mL) (jT a b n U W X none Y)=some (.next,jT a b n U W X none (aG Y 1 (.list (bV Z.reverse)))):=by
  have J:mL [.loc 1] (jT a b n U W X none Y)=some (.none,jT a b n U W X none (aG Y 1 (.list (bV Z.reverse)))):=by
   show Ew 1 _ _=_;rw [rU (σ:=jT a b n U W X none Y) g1 (by rw [eK];exact bP O (by decide))];unfold bV;dsimp only;rw [<-Ii]
  exact jA (cf rfl (pN g1) rfl J)
 have Q:=OC P (n:=n) (ds:=Z.reverse) V (by simpa using O) (fun d z=>w d (qo.mp z)) (by
  rw [List.length_reverse,A];simpa using M)
 have v:am (aY (Gu P) (ae (ac 5) (ae (ac 2) al))) (ap 8) (jT a b n U W X none (aG Y 1 (.list (bV Z.reverse))))=some (.next,jT a b n U W X (some (.int ((vl n Z.reverse:Nat):Int))) (aG (aG Y 1 (.list (bV Z.reverse))) 1 (.list (bV Z.reverse)))):=
  aB (dp (ids:=[1]) (os:=[.list (bV Z.reverse)]) (p:=.int ((vl n Z.reverse:Nat):Int)) (ns:=[]) (σ₁:=jT a b n U W X none (aG Y 1 (.list (bV Z.reverse)))) rfl rfl (by show [List.lookup 1 _]=_;rw [ba];rfl) (fun o h=>by rw [cJ.mp h];exact mU _) rfl Q rfl rfl (fun _ h=>by cases h)) rfl
 have F:vl n Z.reverse=a/b/\U=a%b:=by
  constructor
  .rw [<-g4,cz,Ke G,zy g2,Nat.add_zero]
  .rw [<-g4,cz,Ik,AP g2]
 rw [<-F.1,<-F.2];refine(bw (fM ([]:List AO).length) ((aj r).trans ((aj s).trans ((aj rfl).trans ((aj rfl).trans ((aj t).trans ((aj u).trans ((aj v).trans (aR (cP (eo (ps:=[.int ((vl n Z.reverse:Nat):Int),.int (U:Int)]) rfl (by show 2<=2^20;decide))))))))))) ).trans (fY _ _ _)
noncomputable def jV(P:Params)(C:bz):bz:=bW tf jJ jI (fun _=>[]) [] (fun n=>tB C (KN P) 100 n)
noncomputable def Lu(P:Params):bz:=jV P (jV P (jV P zv))
theorem uO(a b:PV):cH tf jJ jI ([a,b]++[]) ([]++[])=⟨[some a,some b,none,none],[],0⟩:=by left
structure ta(a b:Nat):Prop where
 pos:0<b
 n7:Builtin.Int.intBits (b:Int)<=7000
 m60:(Builtin.Int.intBits (a:Int)+Builtin.Int.intBits (b:Int)-1)/Builtin.Int.intBits (b:Int)<=60
 mn:(Builtin.Int.intBits (a:Int)+Builtin.Int.intBits (b:Int)-1)/Builtin.Int.intBits (b:Int)*Builtin.Int.intBits (b:Int)<=40000
noncomputable def qK(q r:Int):Option (PV×List AO×List AO):=some (.tup [.int q,.int r],[],[])
theorem Pf{a b:Int}:au (ai (ac 1) (ab (.int 0)) fE) ⟨[cI a,cI b,none,none],[],0⟩=some (b==0,⟨[cI a,cI b,none,none],[],0⟩) /\
  au (ai (ac 1) (ab (.int 0)) vJ) ⟨[cI a,cI b,none,none],[],0⟩=some (decide (b<0),⟨[cI a,cI b,none,none],[],0⟩) /\
  au (ai (ac 0) (ab (.int 0)) vJ) ⟨[cI a,cI b,none,none],[],0⟩=some (decide (a<0),⟨[cI a,cI b,none,none],[],0⟩):=
 ⟨aS (av rfl rfl rfl) rfl,aS (av rfl rfl rfl) rfl,aS (av rfl rfl rfl) rfl⟩
theorem BS(P:Params)(C:bz){a b:Nat}(h:ta a b):jV P C [.int (a:Int),.int (b:Int)] []=qK ((a/b:Nat):Int) ((a%b:Nat):Int):=by
 obtain⟨X,Y,Z⟩:=Pf (a:=(a:Int)) (b:=(b:Int));have V:=h.pos;rw [show((b:Int)==0)=false by simp;exact fun W=>Im V W]at X
 rw [ix (by omega)]at Y Z
 unfold jV;rw [bX (σ:=⟨[cI (a:Int),cI (b:Int),none,none],[],0⟩) rfl (uO _ _)];unfold tB;have U:=PS P h.pos rfl h.n7 rfl h.m60 h.mn;exact(bw (fM ([]:List AO).length) (aR ((bM X).trans (aR ((bM Y).trans (aR ((bM Z).trans (aR (cP (bF (ps:=[.int (a:Int),.int (b:Int)]) rfl rfl rfl U)))))))))).trans (fY _ _ _)
theorem MQ(P:Params)(C:bz){a b:Nat}(V:0<b)(Q:C [.int (a:Int),.int (b:Int)] []=qK ((a/b:Nat):Int) ((a%b:Nat):Int)):jV P C [.int (-(a:Int)-1),.int (b:Int)] []=qK (-((a/b:Nat):Int)-1) ((b:Int)-((a%b:Nat):Int)-1):=by
 obtain⟨W,X,Y⟩:=Pf (a:=-(a:Int)-1) (b:=(b:Int));rw [show((b:Int)==0)=false by simp;exact fun Z=>Im V Z]at W
 rw [ix (by exact(fun Z=>aW 0x29001290800008422 rfl V Z))]at X
 rw [dO (by exact(aW 0x1484290012d62420 rfl))]at Y
 unfold jV;rw [bX (σ:=⟨[cI (-(a:Int)-1),cI (b:Int),none,none],[],0⟩) rfl (uO _ _)];unfold tB;have S:Builtin.bitNot (-(a:Int)-1)=(a:Int):=by unfold Builtin.bitNot;exact cX (aW 0x9085210a4004b58d62020 rfl) (aW 0x42908520025ac6b0004a020 rfl)
 have N:am (aY C (ae (ca (ac 0) qS) (ae (ac 1) al))) (dk 2 (aU (ap 2) (aU (ap 3) cp))) ⟨[cI (-(a:Int)-1),cI (b:Int),none,none],[],0⟩=some (.next,⟨[cI (-(a:Int)-1),cI (b:Int),cI ((a/b:Nat):Int),cI ((a%b:Nat):Int)],[],0⟩):=by
  have R:ae (ca (ac 0) qS) (ae (ac 1) al) ⟨[cI (-(a:Int)-1),cI (b:Int),none,none],[],0⟩=some ([.int (a:Int),.int (b:Int)],⟨[cI (-(a:Int)-1),cI (b:Int),none,none],[],0⟩):=by
   have:ae (ca (ac 0) qS) (ae (ac 1) al) ⟨[cI (-(a:Int)-1),cI (b:Int),none,none],[],0⟩=some ([.int (Builtin.bitNot (-(a:Int)-1)),.int (b:Int)],⟨[cI (-(a:Int)-1),cI (b:Int),none,none],[],0⟩):=rfl;rw [this,S]
  exact aB (bF R rfl rfl Q) rfl
 have O:bq (bT (ae (ca (ac 2) qS) (ae (ai (ac 1) (ca (ac 3) qS) bk) al))) ⟨[cI (-(a:Int)-1),cI (b:Int),cI ((a/b:Nat):Int),cI ((a%b:Nat):Int)],[],0⟩=some (.ret (.tup [.int (-((a/b:Nat):Int)-1),.int ((b:Int)-((a%b:Nat):Int)-1)]),⟨[cI (-(a:Int)-1),cI (b:Int),cI ((a/b:Nat):Int),cI ((a%b:Nat):Int)],[],0⟩):=by
  have:bq (bT (ae (ca (ac 2) qS) (ae (ai (ac 1) (ca (ac 3) qS) bk) al))) ⟨[cI (-(a:Int)-1),cI (b:Int),cI ((a/b:Nat):Int),cI ((a%b:Nat):Int)],[],0⟩=some (.ret (.tup [.int (Builtin.bitNot ((a/b:Nat):Int)),.int ((b:Int)+Builtin.bitNot ((a%b:Nat):Int))]),⟨[cI (-(a:Int)-1),cI (b:Int),cI ((a/b:Nat):Int),cI ((a%b:Nat):Int)],[],0⟩):=
   cP (eo rfl (by show 2<=2^20;decide))
  rw [this];have T:Builtin.bitNot ((a/b:Nat):Int)=-((a/b:Nat):Int)-1:=by unfold Builtin.bitNot;exact cX (aW 0x4290012d604290012d62020 rfl) (aW 0x4290012d604290012d62020 rfl)
  have U:(b:Int)+Builtin.bitNot ((a%b:Nat):Int)=(b:Int)-((a%b:Nat):Int)-1:=by unfold Builtin.bitNot;exact cX (bD 0x21484090012c604290812d6000912020 rfl) (bD 0x21484096b00048821484090012c62020 rfl)
  rw [T,U]
 exact(bw (fM ([]:List AO).length) (aR ((bM W).trans (aR ((bM X).trans (aR ((cK Y).trans ((aj N).trans (aR O))))))))).trans (fY _ _ _)
theorem MB(P:Params)(C:bz){a b q r:Int}(X:0<b)(U:C [.int a,.int b] []=qK q r):jV P C [.int (-a),.int (-b)] []=qK q (-r):=by
 obtain⟨Y,Z,R⟩:=Pf (a:=-a) (b:=-b);rw [show((-b:Int)==0)=false from lj.mpr (by exact(fun W=>mh 0x52043551020014a422 rfl X W))]at Y
 rw [dO (by exact(mh 0x52043521020014a421 rfl X))]at Z
 unfold jV;rw [bX (σ:=⟨[cI (-a),cI (-b),none,none],[],0⟩) rfl (uO _ _)];unfold tB;have S:am (aY C (ae (ca (ac 0) eE) (ae (ca (ac 1) eE) al))) (dk 2 (aU (ap 2) (aU (ap 3) cp))) ⟨[cI (-a),cI (-b),none,none],[],0⟩=some (.next,⟨[cI (-a),cI (-b),cI q,cI r],[],0⟩):=by
  have V:ae (ca (ac 0) eE) (ae (ca (ac 1) eE) al) ⟨[cI (-a),cI (-b),none,none],[],0⟩=some ([.int a,.int b],⟨[cI (-a),cI (-b),none,none],[],0⟩):=by
   have:ae (ca (ac 0) eE) (ae (ca (ac 1) eE) al) ⟨[cI (-a),cI (-b),none,none],[],0⟩=some ([.int (- -a),.int (- -b)],⟨[cI (-a),cI (-b),none,none],[],0⟩):=rfl;rw [this,Int.neg_neg,Int.neg_neg]
  exact aB (bF V rfl rfl U) rfl
 have T:bq (bT (ae (ac 2) (ae (ca (ac 3) eE) al))) ⟨[cI (-a),cI (-b),cI q,cI r],[],0⟩=some (.ret (.tup [.int q,.int (-r)]),⟨[cI (-a),cI (-b),cI q,cI r],[],0⟩):=cP (eo rfl (by show 2<=2^20;decide));exact(bw (fM ([]:List AO).length) (aR ((bM Y).trans (aR ((cK Z).trans ((aj S).trans (aR T))))))).trans (fY _ _ _)
noncomputable def xO(a:Int):Nat:=if 0<=a then a.toNat else(-a-1).toNat
theorem Bg(P:Params)(C:bz){a b:Int}(X:0<b)(h:ta (xO a) b.toNat):jV P (jV P C) [.int a,.int b] []=qK (Int.fdiv a b) (Int.fmod a b):=by
 obtain⟨B,rfl⟩:∃B:Nat,b=B:=⟨b.toNat,by exact cX (It (eO (zW X))) (Jb (eO (zW X)))⟩;rw [iV]at h
 rw [Cm _ (by exact(aW 0x24014a020024014a421 rfl X)),Bd _ (by exact(aW 0x24014a020024014a421 rfl X))]
 by_cases Z:0<=a
 .obtain⟨A,rfl⟩:∃A:Nat,a=A:=⟨a.toNat,by exact cX (It (eO (KI Z))) (Jb (eO (KI Z)))⟩
  have W:xO (A:Int)=A:=by unfold xO;rw [aJ Z,iV]
  rw [W]at h
  exact BS P _ h
 .obtain⟨A,W⟩:∃A:Nat,a=-(A:Int)-1:=⟨(-a-1).toNat,by exact cX (uV 0x10a4004b580420210a4086b0004a821 rfl (eO (Lr Z))) (uV 0x404290012d620210a4086b0004aa21 rfl (eO (Lr Z)))⟩
  have V:xO a=A:=by unfold xO;rw [aO Z];exact bY (Kq 0x1000210a4086b0204a8210a4004b58042a22 rfl W (eO (Lr Z))) (Kq 0x400000210a4086b0204aa210a4004b58042822 rfl W (eO (Lr Z)))
  rw [V]at h
  have T:=h.pos;have:=MQ P (jV P C) T (BS P C h);rw [W,this];have S:A%B<B:=dT _ T;have Y:=cU A B;have U:(-(A:Int)-1)/(B:Int)=-((A/B:Nat):Int)-1/\(-(A:Int)-1)%(B:Int)=(B:Int)-((A%B:Nat):Int)-1:=by
   rw [Fc (by exact(aW 0x24014a420024014a421 rfl X))];refine⟨?_,by exact bD 0x429001210258c005280840000421 rfl S,by exact bD 0x2421484090012c62420 rfl⟩;rw [Int.mul_sub,Int.mul_one,Int.mul_neg,<-zE];exact cX (iF 0x8522025ac18120025ac08521024604b182404400800010a21 rfl Y) (iF 0x18120025ac08521024604b18208522025ac404400800010821 rfl Y)
  rw [U.1,U.2]
noncomputable def eP(k:Nat)(a:Int):Prop:=Sm k a.natAbs
theorem eP.mono{k m:Nat}{a:Int}(h:eP k a)(Z:k<=m):eP m a:=Sm.mono h Z
theorem eP.mul{k m:Nat}{a b:Int}(h:eP k a)(Z:eP m b):eP (k+m) (a*b):=by
 unfold eP at *;rw [vC];exact Sm.mul h Z
theorem eP.add{k:Nat}{a b:Int}(h:eP k a)(Z:eP k b):eP (k+1) (a+b):=(Sm.add h Z).le (Gq a b)
theorem eP.nat{k a:Nat}(h:Sm k a):eP k (a:Int):=h
theorem eP.lit{a:Int}(h:a.natAbs<65536):eP 16 a:=h
theorem nX{a b:Int}{σ:AS}(Y:eP 50000 a)(Z:eP 50000 b):cO (.int a) (.int b) σ=some (.int (a*b),σ):=by
 refine cF (k:=oz) ?_
 unfold oz;rw [jt (n:=50000) (by decide) Y,jt (n:=50000) (by decide) Z];rfl
theorem Az{k:Nat}{x:Nat}(h:2^k<=x):k<Builtin.Int.intBits (x:Int):=by
 rcases Nat.lt_or_ge k (Builtin.Int.intBits (x:Int))with Z|Z
 .exact Z
 .have:=mH.mp Z
  simp at this;exact(DF h this:False).elim
theorem uu{k x:Nat}(h:Sm k x):Builtin.Int.intBits (x:Int)<=k:=mH.mpr (by simpa using h.lt)
theorem mJ(x:Nat):Sm (Builtin.Int.intBits (x:Int)) x:=by have:=mH.mp (bU (Builtin.Int.intBits (x:Int)));simpa [Sm]using this
theorem DH{x y:Nat}(h:x<=y):Builtin.Int.intBits (x:Int)<=Builtin.Int.intBits (y:Int):=uu ((mJ y).le h)
theorem Oe{v d:Int}{U L:Nat}(Y:0<d)(W:L<U):Int.fdiv (v*U+L) (d*U)=Int.fdiv v d/\Int.fmod (v*U+L) (d*U)=Int.fmod v d*U+L:=by
 have X:(0:Int)<U:=by exact bD 0x409005290840000421 rfl W
 have Z:(0:Int)<d*U:=Int.mul_pos Y X;rw [Cm _ (nJ Z),Cm _ (nJ Y),Bd _ (nJ Z),Bd _ (nJ Y),Fc Z];have R:=Int.mul_ediv_add_emod v d;have S:=Int.emod_nonneg v (show d≠0 by exact fun V=>mh 0x2902141020014a422 rfl Y V);have T:=Int.emod_lt_of_pos v Y;generalize v/d=q at *
 generalize v%d=r at *
 refine⟨?_,?_,?_⟩
 .rw [<-R,vo,Jm];exact cX (QF 0x24080a0420a0004810212020 rfl) (QF 0x400090a042001214010212020 rfl)
 .have:=Int.mul_nonneg S (nJ X)
  exact uV 0x9020400a501020014a021 rfl this
 .have:(r+1)*(U:Int)<=d*U:=Int.mul_le_mul_of_nonneg_right (by exact(UC 0x140429020480850042421 rfl T)) (nJ X)
  rw [vo,nO]at this
  exact UU 0x500024081242140409020480840000422 rfl W this
theorem Fj{a b:PV}{σ:AS}:aH (.tup [a,b]) (.int 1) σ=some (b,σ):=rfl
theorem mM{a b:PV}{σ:AS}:aH (.tup [a,b]) (.int 0) σ=some (a,σ):=rfl
noncomputable def QJ:bz:=bW Sq Nj La (fun _=>[.bool false]) [] (fun n=>Qw 100 n)
noncomputable def Tu(P:Params):bz:=bW Nh zG AR (fun _=>[]) [] (fun n=>IV P 10 QJ 100 n)
noncomputable def zr(P:Params):bz:=bW LV Hj FG (fun _=>[]) [] (fun n=>KA (Tu P) 100 n)
theorem Qk(a:PV):cH Nh zG AR ([a]++[]) ([]++[])=⟨[],[(0,.cell (some a)),(1,.cell none),(2,.cell none),(3,.cell none)],4⟩:=by left
theorem OI(a:PV):cH LV Hj FG ([a]++[]) ([]++[])=⟨[some a],[],0⟩:=by left
theorem Mo(a b:PV):BU.map (fun x=>(qH.zip [a,b]).lookup x)=[some a,some b,none]:=by left
theorem LN:qH.length=2:=by left
theorem lL{C:bz}{σ₁:AS}{ps:List PV}{ids:List Nat}{os os':List AO}{p:PV}{ns:List AO}(O:ja (bA ps)=ids)(Z:ids.map (fun i=>σ₁.st.lookup i)=os.map some)(P:∀W∈os,dc W=[])
  (I:(dm.nodupB ids&&iu ids (bA ps)&&ids.all (fun i=>decide (i<σ₁.nx)))=true) (H:C (dH (fun i=>ids.idxOf i) ps) os=some (p,os',ns)) (S:os'.length=os.length) (R:∀W∈os',dc W=[]) (U:dm.simpleAll os'=true) (V:dm.simpleAll ns=true) (M:∀W∈ns,dc W=[]):
  dm C (eU σ₁.st 2 (bA ps)) ps σ₁=some (gt (mT ids σ₁.nx) p,{σ₁ with st:=gZ (ib σ₁.st ids os') σ₁.nx ns,nx:=σ₁.nx+ns.length}):=by
 have T:=oh (full:=ids) Z P;have N:eU σ₁.st 2 (bA ps)=ids:=by
  rw [rS,O];rw [O];intro i J;obtain⟨j,Q,rfl⟩:=JG J;have X:j<os.length:=by
   have:=bw List.length Z;rw [db,db]at this
   exact cq 0x80000422004020840000422 rfl Q this
  refine⟨os[j],?_,P _ (nh X)⟩;have:=bw (fun l=>l[j]?) Z;simp only [kH,fh Q,fh X,Fi]at this
  exact bc this
 have Y:os.length=ids.length:=by
  have:=bw List.length Z;rw [db,db]at this
  exact bY (bD 0x4000840000a21 rfl this) (bD 0x1000000840000821 rfl this)
 rw [N];unfold dm;rw [T];dsimp only;rw [aJ I,H];dsimp only;rw [aJ ⟨S.trans Y,U,V⟩,kn R,kn M]
theorem mF{C:Addr}{W:bz}{f:ER}{X:LR}{σ σ₁ Z:AS}{p:PV}{Y:List PV}{r:Option (PV×AS)}(S:f σ=some (p,σ₁))(T:oT C p=true)(U:X σ₁=some (Y,Z))(V:dm W (eU Z.st 2 (bA (p::Y))) (p::Y) Z=r):bB C W f X σ=r:=by
 unfold bB;rw [S];dsimp only;rw [aJ T,U];exact V
theorem Dn{C:Addr}{T:bz}{f:ER}{V:LR}{U:ER}{σ σ₁ Y Z:AS}{p q:PV}{X:List PV}{r:Option (PV×AS)}(P:f σ=some (p,σ₁))(Q:oT C p=true)(R:V σ₁=some (X,Y))(W:U Y=some (q,Z))(S:dm T (eU Z.st 2 (bA (p::(X++[q])))) (p::(X++[q])) Z=r):dX C T f V U σ=r:=by
 unfold dX;rw [P];dsimp only;rw [aJ Q,R];dsimp only;rw [W];exact S
noncomputable def mB:bz:=bW BO xX xY (fun _=>[]) [] (fun n=>BT 100 n)
theorem MP(a b c:PV)(o:AO):cH BO xX xY ([a,b,c]++[]) ([o]++[])=⟨[some a,some b,some c,none],[(0,o)],1⟩:=by left
theorem Eo:OU (.val (.type "str")) (.val (.type "str"))=some true:=by
 show(if plainIs (.type "str") (.type "str")=true then some ((Value.type "str")==(Value.type "str"))else none)=some true;rw [aJ (by decide)];decide
theorem Qf{x:Str}{b:Bool}{o:AO}(Z:fp x=true)(Y:dc o=[]):mB [.hdr 274 0,.str x,.bool b] [o]=some (.str x,[o],[]):=by
 unfold mB;rw [bX (σ:=⟨[some (.hdr 274 0),cS x,some (.bool b),none],[(0,o)],1⟩) rfl (MP _ _ _ _)];unfold BT;have U:au (ai (aQ DC (ae (ac 1) al)) (ab (.val (.type "str"))) MW) ⟨[some (.hdr 274 0),cS x,some (.bool b),none],[(0,o)],1⟩=some (true,⟨[some (.hdr 274 0),cS x,some (.bool b),none],[(0,o)],1⟩):=by
  refine aS (p:=.bool true) (av (ce (ps:=[.str x]) rfl rfl) rfl ?_) rfl;show(OU (.val (.type "str")) (.val (.type "str"))).bind _=_;rw [Eo];rfl
 have fin:fM ([o]:List AO).length (some (.ret (.str x),⟨[some (.hdr 274 0),cS x,some (.bool b),some (.val (.ref (if b then 140 else 145)))],[(0,o)],1⟩))=some (.str x,[o],[]):=
  cY (ids:=[0]) rfl (bK (cm) Y rfl) rfl
 have V:am (ga (au (ac 2)) (ab (.val (.ref 140))) (ab (.val (.ref 145)))) (ap 3) ⟨[some (.hdr 274 0),cS x,some (.bool b),none],[(0,o)],1⟩=some (.next,⟨[some (.hdr 274 0),cS x,some (.bool b),some (.val (.ref (if b then 140 else 145)))],[(0,o)],1⟩):=by
  cases b
  .exact aB ((lC rfl).trans rfl) rfl
  .exact aB ((lH rfl).trans rfl) rfl
 have Ui:∀a:Addr,([140,145]:List Addr).contains a=true->QC [140,145] (ac 3) (ae (ac 1) al) ⟨[some (.hdr 274 0),cS x,some (.bool b),some (.val (.ref a))],[(0,o)],1⟩=some (.none,⟨[some (.hdr 274 0),cS x,some (.bool b),some (.val (.ref a))],[(0,o)],1⟩):=fun a X=>by
  show(if([140,145]:List Addr).contains a=true then(if fp x=true then some (PV.none,_)else none)else none)=_;rw [aJ X,aJ Z]
 have W:au (QC [140,145] (ac 3) (ae (ac 1) al)) ⟨[some (.hdr 274 0),cS x,some (.bool b),some (.val (.ref (if b then 140 else 145)))],[(0,o)],1⟩=some (false,⟨[some (.hdr 274 0),cS x,some (.bool b),some (.val (.ref (if b then 140 else 145)))],[(0,o)],1⟩):=
  aS (p:=.none) (Ui _ (by cases b<;>rfl)) rfl
 exact(bw (fM ([o]:List AO).length) (aR ((cK U).trans ((aj V).trans ((aj (bM W)).trans (aR rfl)))))).trans fin
noncomputable def pZ:bz:=bW Bf wP xT (fun _=>[]) [] (fun n=>vR mB 100 n)
noncomputable def px:bz:=bW CR wZ vU (fun _=>[]) [] (fun n=>Dg 100 n)
noncomputable def rP:bz:=bW Bh vZ xG (fun n=>[.loc n]) [.dict []] (fun n=>wg mB 100 n)
theorem Lw(a b:PV)(o:AO):cH Bf wP xT ([a,b]++[]) ([o]++[])=⟨[some a],[(0,o),(1,.cell (some b))],2⟩:=by left
theorem KH(a:PV)(o:AO):cH CR wZ vU ([a]++[]) ([o]++[])=⟨[some a],[(0,o)],1⟩:=by left
theorem Md(a b c:PV)(o:AO):cH Bh vZ xG ([a,b,c]++[.loc 1]) ([o]++[.dict []])=⟨[some a,some b,some c,cL 1,none,none,none],[(0,o),(1,.dict [])],2⟩:=by left
noncomputable abbrev Nd:BR:=(au (ai (aD "str" (ai (ac 0) (ab (.int 0)) aH) al cR) (aI 1) fE))
theorem DZ(Z:List PV):pX Z none none=Z:=by
 unfold pX sliceBounds;simp only [Option.getD_none,show((1:Int)>0)=True from eq_true (by decide),hO];have X:=sliceRange_one 0 Z.length;have Y:=Kl Z 0 Z.length (by exact(aW 0x110020 rfl));rw [lN,yb (bU _)]at Y
 rw [show(0:Int)=((0:Nat):Int)from rfl,X];exact Y
theorem IZ{x y:Str}{i:Nat}{σ:AS}(h:σ.st.lookup i=some (.list [.str y]))(Y:JoinOk x [y]=true)(Z:Txt.join x [y]=y):jY [.str x,.loc i] σ=some (.str y,σ):=by
 rw [wr,nu h];show(if JoinOk x [y]=true then some (PV.str (Txt.join x [y]),σ)else none)=_;rw [aJ Y,Z]
noncomputable def jq(r:Str×Str):PV:=.tup [.str r.1,.str r.2]
noncomputable def az(Z:List (Str×Str)):List PV:=Z.map jq
theorem bo:∀Z:List (Str×Str),dc (.list (az Z))=[]
 |[]=>rfl
 |r::Z=>bo Z
theorem bZ(Z:List (Str×Str)):(az Z).length=Z.length:=by exact db _
theorem hV(Z:List (Str×Str))(r:Str×Str):az Z++[jq r]=az (Z++[r]):=by simp [az]
noncomputable def bO(l:List Str):List PV:=l.map .str
theorem nT(l:List Str):(bO l).length=l.length:=by exact db _
theorem kW(l:List Str):dc (.list (bO l))=[]:=FV l
noncomputable def rm(x:Str):Prop:=fp x=true/\nC (Txt.lower x)=false/\fp (Txt.lower x)=true
theorem mm{x:Str}{σ:AS}(h:nC (Txt.lower x)=false):cR [.str x] σ=some (.str (Txt.lower x),σ):=by
 show(if _ then _ else _)=_;rw [aJ h]
theorem GU{tg:TR}{cnd:BR}{el:ER}{st₀:List (Nat×AO)}{nx i0 io m:Nat}{ps:List PV}{L:PV->List (Option PV)}{g:PV->Option PV}(W:i0≠io)(N:st₀.lookup i0=some (.list ps))
  (U:∀p∈ps,∀l st,l.length=m->tg p ⟨l,st,nx⟩=some ⟨L p,st,nx⟩) (P:∀p,(L p).length=m)
  (E:∀p∈ps,∀st,(∀i,i≠io->st.lookup i=st₀.lookup i)->cnd ⟨L p,st,nx⟩=some ((g p).isSome,⟨L p,st,nx⟩))
  (F:∀p∈ps,∀q st,(∀i,i≠io->st.lookup i=st₀.lookup i)->g p=some q->el ⟨L p,st,nx⟩=some (q,⟨L p,st,nx⟩)):
  ∀(Z:List PV) (j n:Nat) (Y:List PV) (st:List (Nat×AO)) (l:List (Option PV)),(∀p∈Z,p∈ps)->ps.drop j=Z->Z.length<n->Y.length+Z.length<=1000->l.length=m->st.lookup io=some (.list Y)->(∀i,i≠io->st.lookup i=st₀.lookup i)->
  ∃S X,jM tg cnd el io n (.lst i0 j) ⟨l,st,nx⟩=some ⟨S,X,nx⟩/\X.lookup io=some (.list (Y++Z.filterMap g))/\(∀i,i≠io->X.lookup i=st₀.lookup i)
 |_,_,0,_,_,_,_,_,h,_,_,_,_=>absurd h (fg _)
 |[],j,n+1,Y,st,l,_,R,_,_,_,O,V=>by
  refine⟨l,st,?_,by rw [Hk,lw];exact O,V⟩;have H:ps[j]?=none:=by
   have:=bw List.head? R
   rwa [nZ]at this
  rw [mR,yG (σ:=⟨l,st,nx⟩) ((V _ W).trans N) H]
 |p::Z,j,n+1,Y,st,l,J,R,T,Q,C,O,V=>by
  have H:ps[j]?=some p:=by
   have:=bw List.head? R
   rwa [nZ]at this
  simp only [ge]at T Q
  have I:=J p (.head _);rw [mR,vv (σ:=⟨l,st,nx⟩) ((V _ W).trans N) H];dsimp only;rw [U p I l st C];dsimp only;rw [E p I st V];cases G:g p with
  |some q=>
   rw [show(some q:Option PV).isSome=true from rfl];dsimp only;rw [F p I q st V G];dsimp only;rw [iN (σ:=⟨L p,st,nx⟩) O (by exact(bD 0x800001800007e8204210080010021 rfl Q))];dsimp only;obtain⟨S,X,e,g2,go⟩:=GU W N U P E F Z (j+1) n (Y++[q]) (aG st io (.list (Y++[q]))) (L p) (fun x M=>J x (.tail _ M)) (by have:=bw List.tail R;rwa [ub]at this) (by exact(JU T)) (by rw [jL];simp only [ge,qP];exact bD 0x7d040802100042007e8204210080010021 rfl Q) (P p) ba (fun i D=>(aL D).trans (V i D));refine⟨S,X,e,?_,go⟩;rw [g2,lz,G];simp
  |none=>
   rw [show(none:Option PV).isSome=false from rfl];dsimp only;obtain⟨S,X,e,g2,go⟩:=GU W N U P E F Z (j+1) n Y st (L p) (fun x M=>J x (.tail _ M)) (by have:=bw List.tail R;rwa [ub]at this) (by exact(JU T)) (by exact(bD 0xfa08100002007e8204210080010021 rfl Q)) (P p) O V;exact⟨S,X,e,by rw [g2,lz,G],go⟩
theorem gX{n m:Nat}{src:AS->Option (IK×AS)}{tg:TR}{cnd:BR}{el:ER}{σ σ₁:AS}{i0:Nat}{ps:List PV}{L:PV->List (Option PV)}{g:PV->Option PV}(T:src σ=some (.lst i0 0,σ₁))(O:σ₁.st.lookup i0=some (.list ps))(X:i0<σ₁.nx)
  (V:∀p∈ps,∀l st,l.length=m->tg p ⟨l,st,σ₁.nx+1⟩=some ⟨L p,st,σ₁.nx+1⟩) (P:∀p,(L p).length=m)
  (Q:∀p∈ps,∀st,(∀i,i<σ₁.nx->st.lookup i=σ₁.st.lookup i)->cnd ⟨L p,st,σ₁.nx+1⟩=some ((g p).isSome,⟨L p,st,σ₁.nx+1⟩))
  (R:∀p∈ps,∀q st,(∀i,i<σ₁.nx->st.lookup i=σ₁.st.lookup i)->g p=some q->el ⟨L p,st,σ₁.nx+1⟩=some (q,⟨L p,st,σ₁.nx+1⟩)) (S:ps.length<n) (W:ps.length<=1000):
  ∃Y,dq n m src tg cnd el σ=some (.loc σ₁.nx,⟨σ₁.loc,Y,σ₁.nx+1⟩)/\Y.lookup σ₁.nx=some (.list (ps.filterMap g))/\(∀i,i≠σ₁.nx->Y.lookup i=σ₁.st.lookup i):=by
 obtain⟨N,Y,e,g2,go⟩:=GU (tg:=tg) (cnd:=cnd) (el:=el) (st₀:=(σ₁.nx,.list [])::σ₁.st) (nx:=σ₁.nx+1) (i0:=i0) (io:=σ₁.nx) (m:=m) (ps:=ps) (L:=L) (g:=g) (by exact(fun Z=>CY X Z)) (by rw [dM (by exact(fun Z=>CY X Z))];exact O) V P
  (fun p W st U=>Q p W st fun i X=>(U i (by exact(fun Z=>CY X Z))).trans (dM (by exact(fun Z=>CY X Z)))) (fun p W q st U=>R p W q st fun i X=>(U i (by exact(fun Z=>CY X Z))).trans (dM (by exact(fun Z=>CY X Z)))) ps 0 n [] ((σ₁.nx,.list [])::σ₁.st) (List.replicate m none) (fun _ h=>h) rfl S (by simp;exact aW 0x7d0400001fa08000021 rfl W) (by simp) cm (fun i _=>rfl)
 refine⟨Y,?_,by rw [g2];rfl,fun i X=>(go i X).trans (dM X)⟩;unfold dq;rw [T];dsimp only;rw [e]
noncomputable def GL(c:Str)(Z:List (Str×Str)):List Str:=Z.filterMap fun r=>cond (Txt.lower r.1==c) (some r.2) none
noncomputable def oW(c:Str)(Z:List (Str×Str)):List (Str×Str):=Z.filterMap fun r=>cond (Txt.lower r.1 != c) (some r) none
noncomputable def iz:PV->Str×Str
 |.tup [.str a,.str b]=>(a,b)
 |_=>(⟨#[]⟩,⟨#[]⟩)
theorem ey(r:Str×Str):iz (jq r)=r:=rfl
theorem kQ{Y:Type}(Z:List (Str×Str))(f:Str×Str->Option Y)(h:Y->PV):(az Z).filterMap (fun p=>(f (iz p)).map h)=(Z.filterMap f).map h:=by
 induction Z with
 |nil=>rfl
 |cons r Z X=>
  show(jq r::az Z).filterMap _=_;rw [lz,lz,ey];cases W:f r with
  |none=>exact X
  |some a=>show h a::_=_;rw [X];rfl
theorem dx{Z:List (Str×Str)}{p:PV}(h:p∈az Z):∃r∈Z,p=jq r:=by
 obtain⟨r,X,Y⟩:=da.mp h;exact⟨r,X,Y.symm⟩
noncomputable def rH(Z:List (Str×Str)):Prop:=Z.length<=90/\∀r∈Z,nC (Txt.lower r.1)=false
theorem CT{σ:AS}{x:Str}{b:Bool}{f fa:ER}{ps:List PV}(V:f σ=some (.hdr 274 0,σ))(U:fa σ=some (.str x,σ))(X:fp x=true)(Z:dc (.list ps)=[])(T:σ.st.lookup 0=some (.list ps))(W:0<σ.nx):
  dX 274 mB f (ae fa al) (ab (.bool b)) σ=some (.str x,{σ with st:=aG σ.st 0 (.list ps)}):=by
 refine Dn V rfl (aC U rfl) rfl ?_
 have Y:(dm.nodupB [0]&&iu [0] (bA [PV.hdr 274 0,.str x,.bool b])&&[0].all (fun i=>decide (i<σ.nx)))=true:=by
  have:([0].all fun i=>decide (i<σ.nx))=true:=by simp [W]
  rw [this];rfl
 exact lL (ids:=[0]) (os:=[.list ps]) (os':=[.list ps]) (p:=.str x) (ns:=[]) rfl (by show [σ.st.lookup 0]=_;rw [T];rfl) (fun S h=>by rw [cJ.mp h];exact Z) Y (Qf X Z) rfl (fun S h=>by rw [cJ.mp h];exact Z) rfl rfl (fun _ h=>by cases h)
theorem vd{r:Str×Str}{st:List (Nat×AO)}{nx:Nat}{c:Str}(Z:nC (Txt.lower r.1)=false)(Y:st.lookup 1=some (.cell (some (.str c)))):
  aD "str" (ai (ac 0) (ab (.int 0)) aH) al cR ⟨[some (jq r)],st,nx⟩=some (.str (Txt.lower r.1),⟨[some (jq r)],st,nx⟩)/\aI 1 ⟨[some (jq r)],st,nx⟩=some (.str c,⟨[some (jq r)],st,nx⟩):=
 ⟨cf (p:=.str r.1) (ps:=[]) (σ₁:=⟨[some (jq r)],st,nx⟩) rfl rfl rfl (mm Z),bS (σ:=⟨_,st,nx⟩) Y⟩
theorem KL{Z:List (Str×Str)}{x:Str}(T:rm x)(U:rH Z):pZ [.hdr 274 0,.str x] [.list (az Z)]=some (.loc 1,[.list (az Z)],[.list (bO (GL (Txt.lower x) Z))]):=by
 unfold pZ;rw [bX (σ:=⟨[some (.hdr 274 0)],[(0,.list (az Z)),(1,.cell (some (.str x)))],2⟩) rfl (Lw _ _ _)];show fM ([AO.list (az Z)]:List AO).length (vR mB 100 1 _)=_;unfold vR;have hcall:=CT (σ:=⟨[some (.hdr 274 0)],[(0,.list (az Z)),(1,.cell (some (.str x)))],2⟩) (b:=true) (f:=ac 0) (fa:=aD "str" (aI 1) al cR) (x:=Txt.lower x) (ps:=az Z) rfl
  (cf (p:=.str x) (ps:=[]) (bS (σ:=⟨_,[(0,.list (az Z)),(1,.cell (some (.str x)))],2⟩) rfl) rfl rfl (mm T.2.1)) T.2.2 (bo Z) rfl (show(0:Nat)<2 by decide)
 have N:am (dX 274 mB (ac 0) (ae (aD "str" (aI 1) al cR) al) (ab (.bool true))) (dQ 1) ⟨[some (.hdr 274 0)],[(0,.list (az Z)),(1,.cell (some (.str x)))],2⟩=some (.next,⟨[some (.hdr 274 0)],aG (aG [(0,.list (az Z)),(1,.cell (some (.str x)))] 0 (.list (az Z))) 1 (.cell (some (.str (Txt.lower x)))),2⟩):=
  aB hcall (iP (o:=some (.str x)) (by show(aG _ _ _).lookup 1=_;rw [aL (by decide)];rfl))
 have V:(aG (aG [(0,AO.list (az Z)),(1,.cell (some (.str x)))] 0 (.list (az Z))) 1 (.cell (some (.str (Txt.lower x))))).lookup 0=some (.list (az Z)):=by rw [aL (by decide),ba]
 have P:(aG (aG [(0,AO.list (az Z)),(1,.cell (some (.str x)))] 0 (.list (az Z))) 1 (.cell (some (.str (Txt.lower x))))).lookup 1=some (.cell (some (.str (Txt.lower x)))):=ba;generalize aG (aG [(0,AO.list (az Z)),(1,.cell (some (.str x)))] 0 (.list (az Z))) 1 (.cell (some (.str (Txt.lower x))))=st at *
 obtain⟨Y,e,g2,go⟩:=gX (n:=100) (m:=1) (src:=cy (ca (ac 0) (ms 274))) (tg:=ap 0) (cnd:=Nd) (el:=ai (ac 0) (ab (.int 1)) aH) (σ:=⟨[some (.hdr 274 0)],st,2⟩) (σ₁:=⟨[some (.hdr 274 0)],st,2⟩) (i0:=0) (ps:=az Z) (L:=fun p=>[some p])
  (g:=fun p=>(cond (Txt.lower (iz p).1==Txt.lower x) (some (iz p).2) none).map PV.str)
  (gV (p:=.loc 0) (kI rfl rfl) (by show(cN (st.lookup 0)).bind _=_;rw [V];rfl)) V (show(0:Nat)<2 by decide)
  (fun p W l Y O=>by
   obtain⟨a,rfl⟩:=qD.mp O;rfl) (fun _=>rfl)
  (fun p W Y S=>by
   obtain⟨r,R,rfl⟩:=dx W;obtain⟨J,M⟩:=vd (nx:=3) (U.2 r R) ((S 1 (show(1:Nat)<2 by decide)).trans P);rw [ey];refine aS (av J M (p:=.str (Txt.lower r.1)) (q:=.str (Txt.lower x)) rfl) ?_
   cases Txt.lower r.1==Txt.lower x<;>rfl)
  (fun p W q Y S X=>by
   obtain⟨r,R,rfl⟩:=dx W;rw [ey]at X
   cases Q:Txt.lower r.1==Txt.lower x with
   |true=>rw [Q]at X;obtain rfl:=bc X;rfl
   |false=>rw [Q]at X;exact aZ X)
  (by rw [bZ];have:=U.1;exact Hs this) (by rw [bZ];have:=U.1;exact FM this)
 rw [kQ Z (fun r=>cond (Txt.lower r.1==Txt.lower x) (some r.2) none) PV.str]at g2
 refine(bw (fM ([AO.list (az Z)]:List AO).length) ((aj N).trans (aR (cP e)))).trans ?_
 exact cY (ids:=[0,2]) rfl (bK ((go 0 (show(0:Nat)≠2 by decide)).trans V) (bo _) (bK g2 (kW _) rfl)) rfl
theorem Mj{Z:List (Str×Str)}(Y:Z.length<=90):px [.hdr 274 0] [.list (az Z)]=some (.loc 1,[.list (az Z)],[.list (az Z)]):=by
 unfold px;rw [bX (σ:=⟨[some (.hdr 274 0)],[(0,.list (az Z))],1⟩) rfl (KH _ _)];unfold Dg;have X:bq (eb (ca (ac 0) (ms 274)) gh gh) ⟨[some (.hdr 274 0)],[(0,.list (az Z))],1⟩=some (.ret (.loc 1),⟨[some (.hdr 274 0)],[(1,.list (az Z)),(0,.list (az Z))],2⟩):=by
  refine cP (mZ (kI rfl rfl) rfl rfl ?_);show(if(az Z).length<=2^20 then some (PV.loc 1,(⟨[some (.hdr 274 0)],(1,.list (pX (az Z) none none))::[(0,.list (az Z))],2⟩:AS))else none)=_;rw [bZ,aJ (by exact(Me Y)),DZ]
 refine(bw (fM ([AO.list (az Z)]:List AO).length) (aR X)).trans ?_
 exact cY (ids:=[0,1]) rfl (bK rfl (bo _) (bK rfl (bo _) rfl)) rfl
noncomputable def mA:bz:=bW Bw xU yl (fun _=>[]) [] (fun n=>BY 100 n)
noncomputable def wo:bz:=bW Cb wU yi (fun _=>[]) [] (fun n=>yp mB 100 n)
theorem ML(a:PV)(o:AO):cH Bw xU yl ([a]++[]) ([o]++[])=⟨[some a],[(0,o)],1⟩:=by left
theorem KT(a b:PV)(o:AO):cH Cb wU yi ([a,b]++[]) ([o]++[])=⟨[some a],[(0,o),(1,.cell (some b))],2⟩:=by left
theorem LY{Z:List (Str×Str)}(W:Z.length<=90):mA [.hdr 274 0] [.list (az Z)]=some (.loc 1,[.list (az Z)],[.list (bO (Z.map (·.1)))]):=by
 unfold mA;rw [bX (σ:=⟨[some (.hdr 274 0)],[(0,.list (az Z))],1⟩) rfl (ML _ _)];unfold BY;obtain⟨Y,e,g2,go⟩:=gX (n:=100) (m:=2) (src:=cy (ca (ac 0) (ms 274))) (tg:=dk 2 (aU (ap 0) (aU (ap 1) cp))) (cnd:=ff) (el:=ac 0) (σ:=⟨[some (.hdr 274 0)],[(0,.list (az Z))],1⟩) (σ₁:=⟨[some (.hdr 274 0)],[(0,.list (az Z))],1⟩) (i0:=0) (ps:=az Z) (L:=fun p=>[some (.str (iz p).1),some (.str (iz p).2)])
  (g:=fun p=>((fun r:Str×Str=>some r.1) (iz p)).map PV.str)
  (gV (p:=.loc 0) (kI rfl rfl) rfl) rfl (show(0:Nat)<1 by decide)
  (fun p X l Y W=>by
   obtain⟨r,U,rfl⟩:=dx X;obtain⟨a,b,rfl⟩:=gA W;rfl) (fun _=>rfl)
  (fun p X Y V=>rfl)
  (fun p X q Y V T=>by
   obtain⟨r,U,rfl⟩:=dx X;obtain rfl:=bc T;rfl)
  (by rw [bZ];exact Hs W) (by rw [bZ];exact FM W)
 rw [kQ Z (fun r=>some r.1) PV.str,List.filterMap_eq_map']at g2
 refine(bw (fM ([AO.list (az Z)]:List AO).length) (aR (cP e))).trans ?_
 exact cY (ids:=[0,1]) rfl (bK ((go 0 (show(0:Nat)≠1 by decide)).trans rfl) (bo _) (bK g2 (kW _) rfl)) rfl
theorem Kx{Z:List (Str×Str)}{x:Str}(Q:rm x)(X:rH Z):wo [.hdr 274 0,.str x] [.list (az Z)]=some (.none,[.list (az (oW (Txt.lower x) Z))],[]):=by
 unfold wo;rw [bX (σ:=⟨[some (.hdr 274 0)],[(0,.list (az Z)),(1,.cell (some (.str x)))],2⟩) rfl (KT _ _ _)];show fM ([AO.list (az Z)]:List AO).length (yp mB 100 1 _)=_;unfold yp;have hcall:=CT (σ:=⟨[some (.hdr 274 0)],[(0,.list (az Z)),(1,.cell (some (.str x)))],2⟩) (b:=true) (f:=ac 0) (fa:=aD "str" (aI 1) al cR) (x:=Txt.lower x) (ps:=az Z) rfl
  (cf (p:=.str x) (ps:=[]) (bS (σ:=⟨_,[(0,.list (az Z)),(1,.cell (some (.str x)))],2⟩) rfl) rfl rfl (mm Q.2.1)) Q.2.2 (bo Z) rfl (show(0:Nat)<2 by decide)
 have G:am (dX 274 mB (ac 0) (ae (aD "str" (aI 1) al cR) al) (ab (.bool true))) (dQ 1) ⟨[some (.hdr 274 0)],[(0,.list (az Z)),(1,.cell (some (.str x)))],2⟩=some (.next,⟨[some (.hdr 274 0)],aG (aG [(0,.list (az Z)),(1,.cell (some (.str x)))] 0 (.list (az Z))) 1 (.cell (some (.str (Txt.lower x)))),2⟩):=
  aB hcall (iP (o:=some (.str x)) (by show(aG _ _ _).lookup 1=_;rw [aL (by decide)];rfl))
 have S:(aG (aG [(0,AO.list (az Z)),(1,.cell (some (.str x)))] 0 (.list (az Z))) 1 (.cell (some (.str (Txt.lower x))))).lookup 0=some (.list (az Z)):=by rw [aL (by decide),ba]
 have M:(aG (aG [(0,AO.list (az Z)),(1,.cell (some (.str x)))] 0 (.list (az Z))) 1 (.cell (some (.str (Txt.lower x))))).lookup 1=some (.cell (some (.str (Txt.lower x)))):=ba;generalize aG (aG [(0,AO.list (az Z)),(1,.cell (some (.str x)))] 0 (.list (az Z))) 1 (.cell (some (.str (Txt.lower x))))=st at *
 obtain⟨Y,e,g2,go⟩:=gX (n:=100) (m:=1) (src:=cy (ca (ac 0) (ms 274))) (tg:=ap 0) (cnd:=(au (ai (aD "str" (ai (ac 0) (ab (.int 0)) aH) al cR) (aI 1) pA))) (el:=ac 0) (σ:=⟨[some (.hdr 274 0)],st,2⟩) (σ₁:=⟨[some (.hdr 274 0)],st,2⟩) (i0:=0) (ps:=az Z) (L:=fun p=>[some p])
  (g:=fun p=>(cond (Txt.lower (iz p).1 != Txt.lower x) (some (iz p)) none).map jq)
  (gV (p:=.loc 0) (kI rfl rfl) (by show(cN (st.lookup 0)).bind _=_;rw [S];rfl)) S (show(0:Nat)<2 by decide)
  (fun p T l Y J=>by
   obtain⟨a,rfl⟩:=qD.mp J;rfl) (fun _=>rfl)
  (fun p T Y P=>by
   obtain⟨r,O,rfl⟩:=dx T;obtain⟨E,F⟩:=vd (nx:=3) (X.2 r O) ((P 1 (show(1:Nat)<2 by decide)).trans M);rw [ey];refine aS (av E F (p:=.str (Txt.lower r.1)) (q:=.str (Txt.lower x)) rfl) ?_
   cases Txt.lower r.1 != Txt.lower x<;>rfl)
  (fun p T q Y P V=>by
   obtain⟨r,O,rfl⟩:=dx T;rw [ey]at V
   cases N:Txt.lower r.1 != Txt.lower x with
   |true=>rw [N]at V;obtain rfl:=bc V;rfl
   |false=>rw [N]at V;exact aZ V)
  (by rw [bZ];have:=X.1;exact Hs this) (by rw [bZ];have:=X.1;exact FM this)
 rw [kQ Z (fun r=>cond (Txt.lower r.1 != Txt.lower x) (some r) none) jq]at g2
 have I:Y.lookup 0=some (.list (az Z)):=(go 0 (show(0:Nat)≠2 by decide)).trans S;have W:(oW (Txt.lower x) Z).length<=Z.length:=List.length_filterMap_le _ _;have H:GS (ca (ac 0) (ms 274)) (.loc 2) ⟨[some (.hdr 274 0)],Y,3⟩=some ⟨[some (.hdr 274 0)],aG Y 0 (.list (az (oW (Txt.lower x) Z))),3⟩:=by
  show(if(0:Nat)=2 then none else(cN (Y.lookup 0)).bind fun U=>(cN (Y.lookup 2)).bind fun R=>if U.length<=2^20/\R.length<=2^20 then some (⟨[some (.hdr 274 0)],aG Y 0 (.list R),3⟩:AS)else none)=_;rw [aO (by decide),I,g2];show(if(az Z).length<=2^20/\(List.map jq (oW (Txt.lower x) Z)).length<=2^20 then _ else _)=_;rw [aJ ⟨by rw [bZ];have:=X.1;exact Me this,by rw [db];have:=X.1;exact bD 0x8000018000045a204000840000022 rfl W this⟩];rfl
 refine(bw (fM ([AO.list (az Z)]:List AO).length) ((aj G).trans ((aj (aB e H)).trans rfl))).trans ?_
 exact cY (ids:=[0]) rfl (bK ba (bo _) rfl) rfl
theorem LZ{Z:List (Str×Str)}{x y:Str}(Q:fp x=true)(R:fp y=true)(N:JoinOk (Str.ofString "; ") [y]=true)(P:Txt.join (Str.ofString "; ") [y]=y)(O:Z.length<=90):
  rP [.hdr 274 0,.str x,.str y] [.list (az Z)]=some (.none,[.list (az (Z++[(x,y)]))],[]):=by
 unfold rP;rw [bX (σ:=⟨[some (.hdr 274 0),cS x,cS y,cL 1,none,none,none],[(0,.list (az Z)),(1,.dict [])],2⟩) rfl (Md _ _ _ _)];show fM ([AO.list (az Z)]:List AO).length (wg mB 100 2 _)=_;unfold wg;have V:∃Y,(ar (am (bH al) (ap 4))
 (ar (dn (au (ai (ac 2) (ab .none) dI)) (ar (am (dX 274 mB (ac 0) (ae (ac 2) al) (ab (.bool false))) (ap 2))
 (ar (ck (aD "list" (ac 4) (ae (ac 2) al) bu))
 aq)) aq)
 (ar (kU (ac 3))
 (ar (ck (aD "list" (ca (ac 0) (ms 274)) (ae (bT (ae (dX 274 mB (ac 0) (ae (ac 1) al) (ab (.bool true))) (ae (aD "str" (ab (.str "; ")) (ae (ac 4) al) jY) al))) al) bu))
 aq)))) ⟨[some (.hdr 274 0),cS x,cS y,cL 1,none,none,none],[(0,.list (az Z)),(1,.dict [])],2⟩=some (.next,Y)/\Y.st.lookup 0=some (.list (az (Z++[(x,y)]))):=by
  rw [aj (σ₁:=⟨[some (.hdr 274 0),cS x,cS y,cL 1,cL 2,none,none],[(2,.list []),(0,.list (az Z)),(1,.dict [])],3⟩) rfl];have H:=CT (σ:=⟨[some (.hdr 274 0),cS x,cS y,cL 1,cL 2,none,none],[(2,.list []),(0,.list (az Z)),(1,.dict [])],3⟩) (f:=ac 0) (fa:=ac 2) (ps:=az Z) (b:=false) rfl rfl R (bo Z) rfl (kc 2);have I:dn (au (ai (ac 2) (ab .none) dI)) (ar (am (dX 274 mB (ac 0) (ae (ac 2) al) (ab (.bool false))) (ap 2))
   (ar (ck (aD "list" (ac 4) (ae (ac 2) al) bu)) aq)) aq ⟨[some (.hdr 274 0),cS x,cS y,cL 1,cL 2,none,none],[(2,.list []),(0,.list (az Z)),(1,.dict [])],3⟩
   = some (.next,⟨[some (.hdr 274 0),cS x,cS y,cL 1,cL 2,none,none],aG (aG [(2,.list []),(0,.list (az Z)),(1,.dict [])] 0 (.list (az Z))) 2 (.list ([]++[.str y])),3⟩):=by
   refine(cK (aS (p:=.bool true) (av rfl rfl rfl) rfl)).trans ((aj (aB H rfl)).trans ((aj (dF (ps₀:=[]) (ps:=[]) rfl ?_ rfl ?_ (by decide))).trans rfl))
   .show(aG _ _ _).lookup 2=_;rw [aL (by decide)];rfl
   .show(aG _ _ _).lookup 2=_;rw [aL (by decide)];rfl
  rw [aj I];have U:(aG (aG [(2,AO.list []),(0,.list (az Z)),(1,.dict [])] 0 (.list (az Z))) 2 (.list ([]++[.str y]))).lookup 0=some (.list (az Z)):=by rw [aL (by decide),ba]
  have S:(aG (aG [(2,AO.list []),(0,.list (az Z)),(1,.dict [])] 0 (.list (az Z))) 2 (.list ([]++[.str y]))).lookup 1=some (.dict []):=by rw [aL (by decide),aL (by decide)];rfl
  have T:(aG (aG [(2,AO.list []),(0,.list (az Z)),(1,.dict [])] 0 (.list (az Z))) 2 (.list ([]++[.str y]))).lookup 2=some (.list [.str y]):=ba;generalize aG (aG [(2,AO.list []),(0,.list (az Z)),(1,.dict [])] 0 (.list (az Z))) 2 (.list ([]++[.str y]))=st at *
  have J:kU (ac 3) ⟨[some (.hdr 274 0),cS x,cS y,cL 1,cL 2,none,none],st,3⟩=some (.next,⟨[some (.hdr 274 0),cS x,cS y,cL 1,cL 2,none,none],st,3⟩):=by
   show(match st.lookup 1 with|some (.dict [])=>some (AF.next,(⟨_,st,3⟩:AS))|_=>none)=_;rw [S]
  rw [aj J];have M:=CT (σ:=⟨[some (.hdr 274 0),cS x,cS y,cL 1,cL 2,none,none],st,3⟩) (f:=ac 0) (fa:=ac 1) (ps:=az Z) (b:=true) rfl rfl Q (bo Z) U (kc 2);have W:(aG st 0 (.list (az Z))).lookup 0=some (.list (az Z)):=ba;have X:(aG st 0 (.list (az Z))).lookup 2=some (.list [.str y]):=by rw [aL (by decide)];exact T
  refine⟨⟨[some (.hdr 274 0),cS x,cS y,cL 1,cL 2,none,none],aG (aG st 0 (.list (az Z))) 0 (.list (az Z++[jq (x,y)])),3⟩,(aj (jA (p:=.none) ?_)).trans rfl,by rw [hV];exact ba⟩;refine cf (p:=.loc 0) (kI rfl rfl) (pN U) (aC (eo (aC M (aC (g:=al) (cf rfl qW rfl (IZ X N P)) rfl)) (show 2<=2^20 by decide)) rfl) ?_
  exact iN W (by rw [bZ];exact Me O)
 obtain⟨Y,e,g⟩:=V;refine(bw (fM ([AO.list (az Z)]:List AO).length) e).trans ?_
 exact cY (ids:=[0]) rfl (bK g (bo _) rfl) rfl
section
open PySem.NumText PySem.W.KIN
noncomputable def dJ(k:Nat):List Nat:=(Nat.toDigits 10 k).map Char.toNat
noncomputable def bh(k:Nat):List Nat:=[48,95,95]++dJ k++[32]
theorem gY{k c:Nat}(h:c∈dJ k):48<=c/\c<=57:=by
 obtain⟨Y,Z,e⟩:=da.mp h;have r:=digit_range (Nat.isDigit_of_mem_toDigits (by decide) (by decide) Z);rw [<-e];exact r
theorem tq(k:Nat):Str.ofString (toString ((k:Nat):Int))=aw (dJ k):=by
 have:=signs_num k;rw [<-pG (Str.ofString (toString ((k:Nat):Int))),this];rfl
theorem ig{k n:Nat}(Z:0<n)(h:k<10^n):(dJ k).length<=n:=by
 unfold dJ;rw [db];exact(Nat.length_toDigits_le_iff (by decide) Z).mpr h
theorem Bv{c X:Nat}:∀(n:Nat) (s:List Nat) (i Z Y:Nat),(∀x∈s,x≠c)->fF [c] 1 X n s i Z Y=[]
 |0,_,_,_,_,_=>rfl
 |n+1,s,i,Z,Y,h=>by
  have:gC [c] s=false:=by
   cases s with
   |nil=>rfl
   |cons y U=>
    have W:=h y (.head _);show cond (Nat.beq c y) _ _=false;have:Nat.beq c y=false:=by
     cases q:Nat.beq c y with
     |false=>rfl
     |true=>exact absurd (tU q).symm W
    rw [this];rfl
  rw [jw,this,Bv n s.tail (i+1) Z Y fun x V=>h x (List.mem_of_mem_tail V)];cases Nat.beq Y 0<;>cases Nat.ble Z i<;>cases Nat.ble (i+1) X<;>rfl
theorem so:∀c:Nat,48<=c->c<=57->Unicode.isSpace c=false:=by
 intro c Z Y;have h:∀d:Fin 10,Unicode.isSpace (48+d.val)=false:=by decide +kernel
 have:=h ⟨c-48,by exact bD 0x50420084000c081008410e48000022 rfl Y (aV (aW 0x1810010003020021 rfl Z))⟩
 rwa [show 48+(c-48)=c by exact bY (bD 0x10000181040084018100010821 rfl (aV (aW 0x1810010003020021 rfl Z))) (bD 0x60410400084018100010a21 rfl (aV (aW 0x1810010003020021 rfl Z)))]at this
theorem qO{f:Nat->Bool}{l:List Nat}(Y:l≠[])(h:∀c∈l,f c=false)(Z:f 32=true):((l++[32]).reverse.takeWhile f).length=1:=by
 rw [GY,Hx,zm,List.takeWhile_cons,Z];rw [aJ rfl,ge];cases q:l.reverse with
 |nil=>rfl
 |cons c X=>
  rw [List.takeWhile_cons,h c (qo.mp (q▸.head _))];rfl
theorem Jp(k:Nat):stripHi Unicode.isSpace true (aw (bh k)) 0=(bh k).length-1:=by
 have Z:([48,95,95]++dJ k)≠[]:=by exact(fun h=>EG h)
 have Y:∀c∈([48,95,95]++dJ k),Unicode.isSpace c=false:=fun c X=>by
  rcases ku.mp X with h|h
  .have:∀c∈[48,95,95],Unicode.isSpace c=false:=by decide +kernel
   exact this c h
  .exact so c (gY h).1 (gY h).2
 unfold stripHi;rw [aJ rfl,bE];have e:(aw (bh k)).cps.toList=([48,95,95]++dJ k)++[32]:=by rfl
 rw [e,lN,qO Z Y (by decide +kernel)]
theorem jW(k:Nat):(bh k).length=4+(dJ k).length:=by unfold bh;simp;exact bY (aW 0x2044108421084200084210020 rfl) (aW 0x210842108400108420008110020 rfl)
theorem vV(k:Nat):stripSame Unicode.isSpace false true (aw (bh k))=false:=by
 unfold stripSame;rw [show stripLo Unicode.isSpace false (aw (bh k))=0 from rfl,Jp,bE,jW];simp
theorem lX(k:Nat):Txt.rstrip (aw (bh k))=aw ([48,95,95]++dJ k):=by
 unfold Txt.rstrip Txt.stripBy;rw [vV];show PySem.stripped _ _ _ _=_;unfold PySem.stripped;rw [show stripLo Unicode.isSpace false (aw (bh k))=0 from rfl,Jp];show Builtin.Str.strSub _ _ _=_;rw [nl,lN,uZ,jW]
 congr 1
 unfold bh;rw [Fy (by simp;exact aW 0x42108420008420006110020 rfl)];exact yb (by simp;exact aW 0x308821084210004210020 rfl)
theorem Dv{b:List Nat}{W X n:Nat}{s:List Nat}{i Z Y:Nat}(h:gC b s=false):fF b W X (n+1) s i Z Y=fF b W X n s.tail (i+1) Z Y:=by
 rw [jw,h];cases Nat.beq Y 0<;>cases Nat.ble Z i<;>cases Nat.ble (i+W) X<;>rfl
theorem vW{b:List Nat}{X W n:Nat}{s:List Nat}{i Z Y:Nat}(T:Nat.beq Y 0=false)(U:Nat.ble Z i=true)(V:Nat.ble (i+X) W=true)(h:gC b s=true):fF b X W (n+1) s i Z Y=i::fF b X W n s.tail (i+1) (i+X) (Y-1):=by
 rw [jw,h,T,U,V];rfl
theorem oS(k:Nat):Txt.replace (aw ([48,95,95]++dJ k)) (Str.ofString "_") (Str.ofString "")=aw (48::dJ k):=by
 have V:Str.ofString "_"=aw [95]:=by rfl
 have T:Builtin.Str.occurrences (aw ([48,95,95]++dJ k)) (aw [95]) 0 (aw ([48,95,95]++dJ k)).length ((aw ([48,95,95]++dJ k)).length+1)=[1,2]:=by
  rw [qT,bE,lN,uZ];have S:([48,95,95]++dJ k).length=(dJ k).length+3:=by rfl
  rw [S];show fF [95] 1 ((dJ k).length+3) (((dJ k).length+3)+1) (48::95::95::dJ k) 0 0 ((dJ k).length+4)=_;have X:∀n i Z Y,fF [95] 1 ((dJ k).length+3) n (dJ k) i Z Y=[]:=fun n i Z Y=>Bv n _ i Z Y fun x U=>by have:=gY U;exact fun W=>aW 0xbe4000510e48000022 rfl this.2 W
  rw [Dv rfl];show fF [95] 1 _ ((_+2)+1) (95::95::dJ k) 1 0 _=_;rw [vW rfl rfl (lq (by exact(aW 0x610004208020 rfl))) rfl];show 1::fF [95] 1 _ ((_+1)+1) (95::dJ k) 2 2 ((dJ k).length+3)=_;rw [vW rfl rfl (lq (by exact(aW 0x610004308020 rfl))) rfl];show 1::2::fF [95] 1 _ _ (dJ k) 3 3 _=_;rw [X]
 unfold Txt.replace;rw [V,T];show Builtin.Str.glued _ _=_;rw [qw,tu (Str.ofString "") rfl,bE]
 congr 1
 simp [aw,nw,nQ]
theorem Co{k:Nat}(h:k<10^10):PySem.intText? (aw (48::dJ k))=some (k:Int):=by
 have Z:(aw (48::dJ k)).cps.toList=48::dJ k:=by dsimp only [aw]
 have Y:AllDigits (48::dJ k):=fun c Z=>by
  rcases cC.mp Z with rfl|Z
  .exact⟨wN 0x18103020020 rfl,wN 0x1c903020020 rfl⟩
  .exact gY Z
 rw [intText_digits (by rw [Z];exact Y) (by rw [Z];exact(fun h=>EG h)) (by rw [bE,ge];have:=ig (n:=10) (by decide) h;exact aW 0x8661421000400a82000021 rfl this),Z]
 congr 2
 exact val_back k
theorem mX{k:Nat}(h:k<10^10):fp (aw (bh k))=true:=by
 unfold fp;have Z:(aw (bh k)).cps.toList=bh k:=by dsimp only [aw]
 have Y:(aw (bh k)).cps.size=(bh k).length:=by rfl
 rw [Z,Y,jW,dw,fL];refine⟨fun c Z=>?_,dO (by have:=ig (n:=10) (by decide) h;exact aW 0x800001800204400a82000021 rfl this)⟩;unfold bh at Z
 rcases ku.mp Z with Z|Z
 .rcases ku.mp Z with Z|Z
  .have:∀c∈[48,95,95],(decide (32<=c)&&decide (c<127))=true:=by decide
   exact this c Z
  .have:=gY Z
   rw [dO (by exact(aW 0x1010010003020021 rfl this.1)),dO (by exact(aW 0xfe4000210e48000021 rfl this.2))];rfl
 .rw [cJ.mp Z];rfl
end
theorem Gh:∀n:Nat,n<=12->QJ [.int (n:Int),.int 5,.int 2048] []=some (.loc 0,[],[.dict []])
 |0,_=>by left
 |1,_=>by left
 |2,_=>by left
 |3,_=>by left
 |4,_=>by left
 |5,_=>by left
 |6,_=>by left
 |7,_=>by left
 |8,_=>by left
 |9,_=>by left
 |10,_=>by left
 |11,_=>by left
 |12,_=>by left
 |n+13,h=>absurd h (by exact(fun Z=>aW 0x1816840010021 rfl h))
theorem Pk(P:Params){l:List Nat}{k:Int}(Y:l.length<=12)(H:PySem.intText? (aw l)=some k):Tu P [.str (aw l)] []=some (.int k,[],[]):=by
 unfold Tu;rw (occs:=.all) [bX (σ:=⟨[],[(0,.cell (some (.str (aw l)))),(1,.cell none),(2,.cell none),(3,.cell none)],4⟩) rfl (Qk _)];have W:QJ [.int (l.length:Int),.int 5,.int 2048] []=some (.loc 0,[],[.dict []]):=Gh _ Y;show fM ([]:List AO).length (IV P 10 QJ 100 0 _)=_;unfold IV;have C:am (ab (.int 2048)) (dQ (0+1)) ⟨[],[(0,.cell (some (.str (aw l)))),(1,.cell none),(2,.cell none),(3,.cell none)],4⟩=some (.next,⟨[],aG [(0,.cell (some (.str (aw l)))),(1,.cell none),(2,.cell none),(3,.cell none)] 1 (.cell (some (.int 2048))),4⟩):=aB rfl (iP (o:=none) rfl);have I:(aG [(0,AO.cell (some (.str (aw l)))),(1,.cell none),(2,.cell none),(3,.cell none)] 1 (.cell (some (.int 2048)))).lookup 0=some (.cell (some (.str (aw l)))):=by rw (occs:=.all) [aL (by decide)];rfl
 have J:(aG [(0,AO.cell (some (.str (aw l)))),(1,.cell none),(2,.cell none),(3,.cell none)] 1 (.cell (some (.int 2048)))).lookup 1=some (.cell (some (.int 2048))):=ba;have M:(aG [(0,AO.cell (some (.str (aw l)))),(1,.cell none),(2,.cell none),(3,.cell none)] 1 (.cell (some (.int 2048)))).lookup 2=some (.cell none):=by rw (occs:=.all) [aL (by decide)];rfl
 have N:(aG [(0,AO.cell (some (.str (aw l)))),(1,.cell none),(2,.cell none),(3,.cell none)] 1 (.cell (some (.int 2048)))).lookup 3=some (.cell none):=by rw (occs:=.all) [aL (by decide)];rfl
 generalize aG [(0,AO.cell (some (.str (aw l)))),(1,.cell none),(2,.cell none),(3,.cell none)] 1 (.cell (some (.int 2048)))=st1 at *
 have D:sE (0+2) (eG P 0) ⟨[],st1,4⟩=some (.next,⟨[],aG st1 2 (.cell (some (eG P 0))),4⟩):=AC (σ:=⟨[],st1,4⟩) M;have T:(aG st1 2 (.cell (some (eG P 0)))).lookup 0=some (.cell (some (.str (aw l)))):=by rw (occs:=.all) [aL (by decide)];exact I
 have U:(aG st1 2 (.cell (some (eG P 0)))).lookup 1=some (.cell (some (.int 2048))):=by rw (occs:=.all) [aL (by decide)];exact J
 have O:(aG st1 2 (.cell (some (eG P 0)))).lookup 2=some (.cell (some (eG P 0))):=ba;have Q:(aG st1 2 (.cell (some (eG P 0)))).lookup 3=some (.cell none):=by rw (occs:=.all) [aL (by decide)];exact N
 generalize aG st1 2 (.cell (some (eG P 0)))=st2 at *
 have Z:∀st:List (Nat×AO),st.lookup 0=some (.cell (some (.str (aw l))))->∀X,aQ dC (ae (aI 0) al) ⟨[],st,X⟩=some (.int (l.length:Int),⟨[],st,X⟩):=fun st h X=>
  ce (aC (g:=al) (bS (σ:=⟨[],st,X⟩) h) rfl) (ro (by exact(aW 0x3e8200000b02000021 rfl Y)))
 have E:am (aY QJ (ae (aQ dC (ae (aI 0) al)) (ae (ab (.int 5)) (ae (aI (0+1)) al)))) (dQ (0+3)) ⟨[],st2,4⟩=some (.next,⟨[],aG ((4,.dict [])::st2) 3 (.cell (some (.loc 4))),5⟩):=by
  refine aB (dp (ids:=[]) (os:=[]) (ps:=[.int (l.length:Int),.int 5,.int 2048]) (σ₁:=⟨[],st2,4⟩) (aC (g:=ae (ab (.int 5)) (ae (aI (0+1)) al)) (Z st2 T 4) (aC (g:=ae (aI (0+1)) al) rfl (aC (g:=al) (bS (σ:=⟨[],st2,4⟩) U) rfl))) rfl rfl (fun _ h=>by cases h) rfl W rfl rfl (fun y h=>by rw (occs:=.all) [cJ.mp h];rfl)) ?_
  exact iP (o:=none) (by show((4,AO.dict [])::st2).lookup 3=_;rw (occs:=.all) [dM (by decide)];exact Q)
 have V:(aG ((4,AO.dict [])::st2) 3 (.cell (some (.loc 4)))).lookup 0=some (.cell (some (.str (aw l)))):=by rw (occs:=.all) [aL (by decide),dM (by decide)];exact T
 have R:(aG ((4,AO.dict [])::st2) 3 (.cell (some (.loc 4)))).lookup 1=some (.cell (some (.int 2048))):=by rw (occs:=.all) [aL (by decide),dM (by decide)];exact U
 have S:(aG ((4,AO.dict [])::st2) 3 (.cell (some (.loc 4)))).lookup 2=some (.cell (some (eG P 0))):=by rw (occs:=.all) [aL (by decide),dM (by decide)];exact O
 generalize aG ((4,AO.dict [])::st2) 3 (.cell (some (.loc 4)))=st3 at *
 have G:jD P 100 0 10 [.int 0,.int (l.length:Int)] st3 5=some (.int k,st3,5):=by
  rw (occs:=.all) [show jD P 100 0 10=fm qH BU (Cy P (jD P 100 0 9) 100 0)from rfl];unfold Cy;refine jG (σ':=⟨[cI 0,cI (l.length:Int),none],st3,5⟩) (by rw (occs:=.all) [LN];rfl) (Mo _ _) ?_
  have z:au (ai (ai (ac 1) (ac 0) dB) (aI (0+1)) PZ) ⟨[cI 0,cI (l.length:Int),none],st3,5⟩=some (true,⟨[cI 0,cI (l.length:Int),none],st3,5⟩):=by
   rw (occs:=.all) [show true=decide ((l.length:Int)-0<=2048)from(dO (by exact(aW 0x2000a900520025880b02000021 rfl Y))).symm];exact aS (av (av rfl rfl rfl) (bS (σ:=⟨_,st3,5⟩) R) rfl) rfl
  have A:eb (aI 0) (eV (ac 0)) (eV (ac 1)) ⟨[cI 0,cI (l.length:Int),none],st3,5⟩=some (.str (aw l),⟨[cI 0,cI (l.length:Int),none],st3,5⟩):=by
   refine mZ (bS (σ:=⟨_,st3,5⟩) V) rfl rfl ?_
   rw (occs:=.all) [zo (by exact(aW 0x3e8200000b02000021 rfl Y))];have:=xR l (ki l.length) (bU _);show some (PV.str (Txt.slice (aw l) (some ((0:Nat):Int)) (some (l.length:Int))),_)=_;rw (occs:=.all) [this];simp
  have B:PW [.str (aw l)] ⟨[cI 0,cI (l.length:Int),none],st3,5⟩=some (.int k,⟨[cI 0,cI (l.length:Int),none],st3,5⟩):=by
   show(PySem.intText? _).bind _=_;rw (occs:=.all) [H];show(if _ then _ else _)=_;rw (occs:=.all) [bE,aJ (by exact(aW 0x280200000b02000021 rfl Y))]
  exact aR ((cK z).trans (aR (cP (ce (aC (g:=al) A rfl) B))))
 have F:bq (lU (eG P 0) (jD P 100 0 10) (aI (0+2)) (ae (ab (.int 0)) (ae (aQ dC (ae (aI 0) al)) al))) ⟨[],st3,5⟩=some (.ret (.int k),⟨[],st3,5⟩):=
  cP (lF (bS (σ:=⟨[],st3,5⟩) S) (aC (g:=ae (aQ dC (ae (aI 0) al)) al) rfl (aC (g:=al) (Z st3 V 5) rfl)) G)
 exact(bw (fM ([]:List AO).length) ((aj C).trans ((aj D).trans ((aj E).trans (aR F))))).trans rfl
theorem HQ(P:Params){k:Nat}(h:k<10^10):zr P [.str (aw (bh k))] []=some (.int (k:Int),[],[]):=by
 unfold zr;rw [bX (σ:=⟨[cS (aw (bh k))],[],0⟩) rfl (OI _)];unfold KA;have X:am (jj (ac 0) (Str.ofString "_") (Str.ofString "")) (ap 0) ⟨[cS (aw (bh k))],[],0⟩=some (.next,⟨[cS (aw (48::dJ k))],[],0⟩):=by
  have:jj (ac 0) (Str.ofString "_") (Str.ofString "") ⟨[cS (aw (bh k))],[],0⟩=some (.str (aw (48::dJ k)),⟨[cS (aw (bh k))],[],0⟩):=by
   show(if stripSame Unicode.isSpace false true (aw (bh k))=false/\(aw (bh k)).length<=2^20/\(Txt.rstrip (aw (bh k))).length<=2^20/\(Str.ofString "").length<=14/\(Str.ofString "_"==Str.ofString "")=false then some (PV.str (Txt.replace (Txt.rstrip (aw (bh k))) (Str.ofString "_") (Str.ofString "")),(⟨[cS (aw (bh k))],[],0⟩:AS))else none)=_;have Z:=ig (n:=10) (by decide) h;rw [aJ ⟨vV k,by rw [bE,jW];exact aW 0x800001800204400a82000021 rfl Z,by rw [lX,bE];simp;exact aW 0xffffd280000a82000021 rfl Z,by decide,by decide⟩,lX,oS]
  exact aB this rfl
 have Z:=ig (n:=10) (by decide) h;have Y:=Pk P (l:=48::dJ k) (by rw [ge];exact aW 0x60421000400a82000021 rfl Z) (Co h);exact(bw (fM ([]:List AO).length) ((aj X).trans (aR (cP (bF (ps:=[.str (aw (48::dJ k))]) rfl rfl rfl Y))))).trans rfl
noncomputable def JE:bz
 |[.str a,.str b],[]=>if a.cps.size<=1000/\b.cps.size<=1000 then(PX a.cps.toList b.cps.toList).map fun r=>(.bool r,[],[])else none
 |_,_=>none
set_option tactic.hygienic true in
theorem Ml:∀Z os r,JE Z os=some r->Oi Z os=some r:=by
 intro Z os r h;unfold JE at h
 split at h
 .rename_i a b
  refine fO h fun Y h=>?_
  obtain⟨c,W,X⟩:=iO.mp h;rw [<-X];have:=Pq (want:=a.cps.toList) (got:=b.cps.toList) (by rw [ue];exact Y.1) (by rw [ue];exact Y.2) W
  rwa [pG,pG]at this
 .exact aZ h
noncomputable def ut(l:List Nat):Bool:=decide (l.length<=900)&&l.all (fun c=>decide (c<128))&&!eH false l
noncomputable def Ti:bz
 |[.str a],[]=>if ut a.cps.toList&&ut (cB a.cps.toList)then some (.bool (Nb a.cps.toList),[],[])else none
 |_,_=>none
noncomputable def Dx:bz:=bW HM BW Dj (fun _=>[]) [] (fun n=>Fg 100 n)
noncomputable def Ea:bz:=bW xN sR sI (fun _=>[]) [] (fun n=>Jj Dx 100 n)
noncomputable def HD:bz:=bW Il BK CC (fun _=>[]) [] (fun n=>Ga JE 100 n)
noncomputable def xV:bz:=bW Hy Di BM (fun _=>[]) [] (fun n=>HI JE Ti 100 n)
noncomputable def tV:bz:=bW Bn yD xW (fun _=>[]) [] (fun n=>Ip Dx 100 n)
noncomputable def wd:Nat->List Nat
 |0=>[97,97,98,98,99,99]
 |1=>[97,97,98,99,98,99]
 |2=>[97,97,98,99,99,98]
 |3=>[97,98,97,98,99,99]
 |4=>[97,98,97,99,98,99]
 |5=>[97,98,97,99,99,98]
 |6=>[97,98,98,97,99,99]
 |7=>[97,98,98,99,97,99]
 |8=>[97,98,98,99,99,97]
 |9=>[97,98,99,97,98,99]
 |10=>[97,98,99,97,99,98]
 |11=>[97,98,99,98,97,99]
 |12=>[97,98,99,98,99,97]
 |13=>[97,98,99,99,97,98]
 |_=>[97,98,99,99,98,97]
noncomputable def ou:Nat->List Bool
 |1=>[false,false,true]
 |3=>[true,false,false]
 |4=>[true,false,true]
 |5=>[true,false,false]
 |7=>[false,true,false]
 |9=>[true,true,true]
 |10=>[true,true,false]
 |11=>[false,true,true]
 |12=>[false,false,true]
 |13=>[true,false,false]
 |_=>[false,false,false]
noncomputable def fj(i:Nat):Nat:=(ou i).countP id
noncomputable def gf:Nat->Nat->Nat×Nat
 |1,0=>(0,2)
 |3,0=>(0,6)
 |4,0=>(1,7)
 |4,1=>(3,5)
 |5,0=>(2,8)
 |7,0=>(6,8)
 |9,0=>(2,11)
 |9,1=>(4,14)
 |9,2=>(6,10)
 |10,0=>(1,12)
 |10,1=>(5,13)
 |11,0=>(3,12)
 |11,1=>(7,13)
 |12,0=>(8,14)
 |13,0=>(0,14)
 |_,_=>(0,0)
noncomputable def Tj(i j:Nat):Nat:=match i,j with
 |0,0=>0
 |0,1=>1
 |0,2=>2
 |1,0=>3
 |1,1=>4
 |1,2=>5
 |2,0=>6
 |2,1=>9
 |2,2=>10
 |3,0=>7
 |3,1=>11
 |3,2=>13
 |4,0=>8
 |4,1=>12
 |4,2=>14
 |_,_=>0
noncomputable def Mq:List Str:=[Str.ofString "",Str.ofString "\\)",Str.ofString "\"(\"",Str.ofString "\\\\",Str.ofString "\"\\\")\""]
theorem NQ{Z Y:Type}{f g:Z->Y}:∀{l:List Z},l.map f=l.foldr (fun x a=>g x::a) []->∀{x},x∈l->f x=g x:=by
 intro l
 induction l with
 |nil=>exact fun _ _ m=>absurd m qI
 |cons a l X=>exact fun h _ m=>(cC.mp m).elim (fun e=>e▸(qf h).1) (X (qf h).2)
theorem QM{Z:Type}{n:Nat}{f g:Nat->Z}(h:(List.range n).map f=(List.range n).foldr (fun x a=>g x::a) []){i:Nat}(Y:i<n):f i=g i:=NQ h (uJ.mpr Y)
theorem UV:∀{i:Nat},i<5->i=0\/i=1\/i=2\/i=3\/i=4:=by decide
theorem Sy:∀i,i<15->HD [.str (aw (wd i))] []=some (.bool true,[],[]):=@QM _ 15 _ _ (by left)
theorem Uy:∀i,i<15->∀p∈Mq,xV [.str (aw (wd i)),.str p] []=some (.loc 0,[],[.list ((ou i).map .bool)]):=by
 intro i h p Z;refine QM (n:=15) (f:=fun i=>xV [.str (aw (wd i)),.str p] []) (g:=fun i=>some (.loc 0,[],[.list ((ou i).map .bool)])) ?_ h
 revert p
 exact @NQ _ _ _ _ _ (by left)
noncomputable def RT(c:Int)(Z:bz)(N n:Nat):SR:=
 (ar (am (dq N 1 (cy (aQ eC (ae (ab (.int 3)) al))) (ap 0) (au (ai (aI n) (ac 0) aH)) (ac 0)) (ap 2))
 (ar (am (ai (ac 2) (ai (ac 1) (aQ dC (ae (ac 2) al)) (fun _ _=>ab (.int c))) aH) (ap 3))
 (ar (am (ai (ab (.str "aab")) (ac 3) aH) (ap 4))
 (ar (am (ai (ab (.str "bcc")) (ac 3) aH) (ap 5))
 (ar (am (ai (ab (.str "cba")) (ac 3) aH) (ap 6))
 (ar (am (bT (ae (aD "str" (ac 0) (ae (ac 6) al) fN) (ae (aD "str" (ac 0) (ae (ac 6) al) fR) al))) (ap 7))
 (ar (jd (bT (ae (aD "str" (ac 0) (ae (ac 4) al) fN) (ae (aD "str" (ac 0) (ae (ac 4) al) fR) al))) 8 9)
 (ar (jd (bT (ae (aD "str" (ac 0) (ae (ac 5) al) fN) (ae (aD "str" (ac 0) (ae (ac 5) al) fR) al))) 10 11)
 (ar (bq (bH (ae (aY Z (ae (bH (ae (bT (ae (ac 8) (ae (ac 10) al))) (ae (bT (ae (ac 9) (ae (ac 11) al))) (ae (ac 7) al)))) al)) (ae (aY Z (ae (bH (ae (bT (ae (ac 8) (ae (ac 11) al))) (ae (bT (ae (ac 10) (ae (ac 9) al))) (ae (ac 7) al)))) al)) al))))
 aq)))))))))
noncomputable def EX(c:Int):bz:=bW Bn yD xW (fun _=>[]) [] (fun n=>RT c Dx 100 n)
theorem UH{i:Nat}(Z:i<15)(h:0<fj i):i∈[1,3,4,5,7,9,10,11,12,13]:=by
 revert i;decide +kernel
theorem Oj{i:Nat}(Z:i<15)(h:0<fj i)(n:Int):tV [.str (aw (wd i)),.loc 0,.int n] [.list ((ou i).map .bool)]=EX (Int.fmod n (fj i)) [.str (aw (wd i)),.loc 0,.int n] [.list ((ou i).map .bool)]:=by
 have m:=UH Z h;clear Z h
 revert i
 exact @NQ _ _ _ _ _ (by left)
theorem Tz{i k:Nat}(Y:i<15)(Z:k<fj i)(n:Int):EX k [.str (aw (wd i)),.loc 0,.int n] [.list ((ou i).map .bool)]=some (.loc 1,[.list ((ou i).map .bool)],[.list [.str (aw (wd (gf i k).1)),.str (aw (wd (gf i k).2))]]):=by
 refine QM (n:=fj i) (f:=fun k=>EX k [.str (aw (wd i)),.loc 0,.int n] [.list ((ou i).map .bool)]) (g:=fun k=>some (.loc 1,[.list ((ou i).map .bool)],[.list [.str (aw (wd (gf i k).1)),.str (aw (wd (gf i k).2))]])) ?_ Z
 have m:=UH Y (by exact(bD 0x1000210840000421 rfl Z));clear Y Z
 revert i
 exact @NQ _ _ _ _ _ (by left)
noncomputable def RG(c d:Int)(Z:bz)(N n:Nat):SR:=
 (ar (am (bH (ae (ab (.int 1)) (ae (ab (.int 2)) (ae (ab (.int 3)) (ae (ab (.int 4)) (ae (ab (.int 5)) al)))))) (ap 1))
 (ar (am (aD "list" (ac 1) (ae (ai (ac 0) (ab (.int 5)) (fun _ _=>ab (.int c))) al) vM) (ap 2))
 (ar (am (aD "list" (ac 1) (ae (ai (ab (.int 1)) (ai (ai (ac 0) (ab (.int 5)) gu) (ab (.int 3)) (fun _ _=>ab (.int d))) bk) al) vM) (ap 3))
 (ar (bq (aY Z (ae (bH (ae (bT (ae (ab (.int 0)) (ae (ac 2) al))) (ae (bT (ae (ai (ac 1) (ab (.int 0)) aH) (ae (ac 3) al))) (ae (bT (ae (ai (ac 1) (ab (.int 1)) aH) (ae (ai (ac 1) (ab (.int 2)) aH) al))) al)))) al)))
 aq))))
noncomputable def Gg(c d:Int):bz:=bW xN sR sI (fun _=>[]) [] (fun n=>RG c d Dx 100 n)
noncomputable def Rk(c:Int)(Z:bz)(N n:Nat):SR:=
 (ar (am (bH (ae (ab (.int 1)) (ae (ab (.int 2)) (ae (ab (.int 3)) (ae (ab (.int 4)) (ae (ab (.int 5)) al)))))) (ap 1))
 (ar (am (aD "list" (ac 1) (ae (ai (ac 0) (ab (.int 5)) (fun _ _=>ab (.int c))) al) vM) (ap 2))
 (ar (am (aD "list" (ac 1) (ae (ai (ab (.int 1)) (ai (ai (ac 0) (ab (.int 5)) gu) (ab (.int 3)) dj) bk) al) vM) (ap 3))
 (ar (bq (aY Z (ae (bH (ae (bT (ae (ab (.int 0)) (ae (ac 2) al))) (ae (bT (ae (ai (ac 1) (ab (.int 0)) aH) (ae (ac 3) al))) (ae (bT (ae (ai (ac 1) (ab (.int 1)) aH) (ae (ai (ac 1) (ab (.int 2)) aH) al))) al)))) al)))
 aq))))
noncomputable def CZ(c:Int):bz:=bW xN sR sI (fun _=>[]) [] (fun n=>Rk c Dx 100 n)
theorem Ut(n:Int):Ea [.int n] []=CZ (Int.fmod n 5) [.int n] []:=by left
theorem TQ{i j:Nat}(X:i<5)(Z:j<3){n:Int}(e:Int.fmod (Int.fdiv n 5) 3=(j:Int)):CZ i [.int n] []=some (.str (aw (wd (Tj i j))),[],[]):=by
 have Y:CZ i [.int n] []=Gg i j [.int n] []:=by
  rw [<-e];exact QM (f:=fun i=>CZ i [.int n] []) (g:=fun i=>Gg i (Int.fmod (Int.fdiv n 5) 3) [.int n] []) (by left) X
 rw [Y];clear e Y;refine QM (f:=fun j=>Gg i j [.int n] []) (g:=fun j=>some (.str (aw (wd (Tj i j))),[],[])) ?_ Z
 clear Z
 revert i
 exact @QM _ 5 _ _ (by left)
noncomputable def sp(P:Nat->Int×Int)(a b:Nat):Int:=(P a).1*(P b).2-(P b).1*(P a).2
noncomputable def pf(i k:Nat):Nat:=(wd i).idxOf (97+k)
noncomputable def pl(i k:Nat):Nat:=5-(wd i).reverse.idxOf (97+k)
noncomputable def dP(P:Nat->Int×Int)(i k:Nat):Int:=sp P (pf i k) (pl i k)
noncomputable def dD(P:Nat->Int×Int)(i:Nat):Int:=dP P i 0*dP P i 1*dP P i 2
theorem Iq:∀i,i<15->∀k,k<fj i->(gf i k).1<15/\(gf i k).2<15/\fj (gf i k).1<fj i/\fj (gf i k).2<fj i:=by decide +kernel
theorem Ie:∀i,i<15->fj i<=3:=by decide +kernel
theorem Fn:∀i,i<15->∀k,k<3->pf i k<6/\pl i k<6:=by decide +kernel
theorem Ry(P:Nat->Int×Int):∀i,i<15->∀k,k<fj i->dD P i=dD P (gf i k).1+dD P (gf i k).2:=by
 intro i X k Y;have Z:(i,k)∈([(1,0),(3,0),(4,0),(4,1),(5,0),(7,0),(9,0),(9,1),(9,2),(10,0),(10,1),(11,0),(11,1),(12,0),(13,0)]:List (Nat×Nat)):=by
  revert i k;decide +kernel
 simp only [cC,qI,vu,Prod.mk.injEq]at Z
 rcases Z with⟨rfl,rfl⟩|⟨rfl,rfl⟩|⟨rfl,rfl⟩|⟨rfl,rfl⟩|⟨rfl,rfl⟩|⟨rfl,rfl⟩|⟨rfl,rfl⟩|⟨rfl,rfl⟩|⟨rfl,rfl⟩|⟨rfl,rfl⟩|⟨rfl,rfl⟩|⟨rfl,rfl⟩|⟨rfl,rfl⟩|⟨rfl,rfl⟩|⟨rfl,rfl⟩
 .show sp P 0 1*sp P 2 4*sp P 3 5=sp P 0 1*sp P 2 3*sp P 4 5+sp P 0 1*sp P 2 5*sp P 3 4
  unfold sp;grind
 .show sp P 0 2*sp P 1 3*sp P 4 5=sp P 0 1*sp P 2 3*sp P 4 5+sp P 0 3*sp P 1 2*sp P 4 5
  unfold sp;grind
 .show sp P 0 2*sp P 1 4*sp P 3 5=sp P 0 1*sp P 2 4*sp P 3 5+sp P 0 4*sp P 1 2*sp P 3 5
  unfold sp;grind
 .show sp P 0 2*sp P 1 4*sp P 3 5=sp P 0 2*sp P 1 3*sp P 4 5+sp P 0 2*sp P 1 5*sp P 3 4
  unfold sp;grind
 .show sp P 0 2*sp P 1 5*sp P 3 4=sp P 0 1*sp P 2 5*sp P 3 4+sp P 0 5*sp P 1 2*sp P 3 4
  unfold sp;grind
 .show sp P 0 4*sp P 1 2*sp P 3 5=sp P 0 3*sp P 1 2*sp P 4 5+sp P 0 5*sp P 1 2*sp P 3 4
  unfold sp;grind
 .show sp P 0 3*sp P 1 4*sp P 2 5=sp P 0 1*sp P 2 5*sp P 3 4+sp P 0 4*sp P 1 3*sp P 2 5
  unfold sp;grind
 .show sp P 0 3*sp P 1 4*sp P 2 5=sp P 0 2*sp P 1 4*sp P 3 5+sp P 0 5*sp P 1 4*sp P 2 3
  unfold sp;grind
 .show sp P 0 3*sp P 1 4*sp P 2 5=sp P 0 3*sp P 1 2*sp P 4 5+sp P 0 3*sp P 1 5*sp P 2 4
  unfold sp;grind
 .show sp P 0 3*sp P 1 5*sp P 2 4=sp P 0 1*sp P 2 4*sp P 3 5+sp P 0 5*sp P 1 3*sp P 2 4
  unfold sp;grind
 .show sp P 0 3*sp P 1 5*sp P 2 4=sp P 0 2*sp P 1 5*sp P 3 4+sp P 0 4*sp P 1 5*sp P 2 3
  unfold sp;grind
 .show sp P 0 4*sp P 1 3*sp P 2 5=sp P 0 2*sp P 1 3*sp P 4 5+sp P 0 5*sp P 1 3*sp P 2 4
  unfold sp;grind
 .show sp P 0 4*sp P 1 3*sp P 2 5=sp P 0 4*sp P 1 2*sp P 3 5+sp P 0 4*sp P 1 5*sp P 2 3
  unfold sp;grind
 .show sp P 0 5*sp P 1 3*sp P 2 4=sp P 0 5*sp P 1 2*sp P 3 4+sp P 0 5*sp P 1 4*sp P 2 3
  unfold sp;grind
 .show sp P 0 4*sp P 1 5*sp P 2 3=sp P 0 1*sp P 2 3*sp P 4 5+sp P 0 5*sp P 1 4*sp P 2 3
  unfold sp;grind
theorem Dt{fo S T:ER}{g:PV->PV->ER}{σ σ₁ V W X Y Z:AS}{o k U v new:PV}(M:fo σ=some (o,σ₁))(N:S σ₁=some (k,V))(O:aH o k V=some (U,W))(P:T W=some (v,X))(Q:g U v X=some (new,Y))(R:dA o k new Y=some Z):pE fo S T g σ=some (.next,Z):=by
 show eY fo _ σ=_;rw [bi M,bi N,bi O,bi P,bi Q,R];rfl
theorem Py{Z:List Int}{k:Nat}{σ:AS}(h:k<Z.length)(Y:Z.length<=1000):aH (.fl Z) (.int (k:Int)) σ=some (.int Z[k],σ):=by
 have W:(0:Int)<=(k:Int):=sM _;have X:(k:Int)<2^62:=by
  have:(1000:Int)<2^62:=by decide
  exact bD 0x8000000000000000748009487e8204000840000422 rfl h Y
 rw [Ds,aJ ⟨W,X⟩,iV,fh h];rfl
noncomputable abbrev De:SR:=(ar (pE (ac 1) (ai (ac 2) (ab (.int 15)) dj) (ai (ac 0) (ac 2) aH) gv)
 aq)
noncomputable def Af:bz:=bW CL wn xh (fun _=>[]) [] (fun n=>By 100 n)
theorem KP(a:PV):cH CL wn xh ([a]++[]) ([]++[])=⟨[some a,none,none],[],0⟩:=by left
theorem Be{X:List Int}{nx:Nat}(F:X.length<=63):∀(n k:Nat) (Z:List Int) (st:List (Nat×AO)) (Q:Option PV),k+n=X.length->Z.length=15->st.lookup 0=some (.list (Z.map .int))->
  UJ fun(Y:List Int) (W:List (Nat×AO)) (V:Option PV)=>KO (jK (ap 2) De aq (sy (k:Int) n) ⟨[some (.fl X),cL 0,Q],st,nx⟩=some (.next,⟨[some (.fl X),cL 0,V],W,nx⟩)) (Y.length=15) (W.lookup 0=some (.list (Y.map .int)))
 |0,k,Z,st,Q,_,U,O=>⟨Z,st,Q,rfl,U,O⟩
 |n+1,k,Z,st,Q,H,U,O=>by
  have I:k<X.length:=by exact cq 0x80000422004210080010821 rfl H
  have M:=uh (k:Int) (show(0:Int)<15 by decide);have G:=uf (k:Int) (show(0:Int)<15 by decide);obtain⟨m,P⟩:∃m:Nat,Int.fmod (k:Int) 15=m:=⟨(Int.fmod (k:Int) 15).toNat,by exact cX (It (eO (KI M))) (Jb (eO (KI M)))⟩;have J:m<Z.length:=by exact Kq 0x10042102408545e1481090bc2000a23 rfl U G P
  have C:Z[m]?=some Z[m]:=fh J
  have S:ai (ac 2) (ab (.int 15)) dj ⟨[some (.fl X),cL 0,cI (k:Int)],st,nx⟩=some (.int (m:Int),⟨[some (.fl X),cL 0,cI (k:Int)],st,nx⟩):=by
   rw [<-P];exact av rfl rfl rfl
  have R:ai (ac 0) (ac 2) aH ⟨[some (.fl X),cL 0,cI (k:Int)],st,nx⟩=some (.int X[k],⟨[some (.fl X),cL 0,cI (k:Int)],st,nx⟩):=by
   exact av rfl rfl (Py I (by exact(aW 0x7d04000010fc8000021 rfl F)))
  have T:dA (.loc 0) (.int (m:Int)) (.int (Z[m]+X[k])) ⟨[some (.fl X),cL 0,cI (k:Int)],st,nx⟩=some ⟨[some (.fl X),cL 0,cI (k:Int)],aG st 0 (.list ((Z.set m (Z[m]+X[k])).map .int)),nx⟩:=by
   show(match st.lookup 0 with
    |some (.list N)=>if 0<=(m:Int)/\(m:Int)<N.length/\N.length<=2^20 then some (⟨[some (.fl X),cL 0,cI (k:Int)],aG st 0 (.list (N.set (m:Int).toNat (.int (Z[m]+X[k])))),nx⟩:AS)else none
    |_=>none)=_
   rw [O];dsimp only;rw [aJ ⟨by exact uV 0x9005280800902141020014a022 rfl M P,by rw [db];exact Kq 0x24204a42102408545e1481090bc2000a23 rfl U G P,by rw [db];exact aW 0x100000300000bc2000821 rfl U⟩,iV,List.map_set]
  have e:=Dt (g:=gv) (fo:=ac 1) (σ:=⟨[some (.fl X),cL 0,cI (k:Int)],st,nx⟩) (o:=.loc 0) (new:=.int (Z[m]+X[k])) rfl S (pH (σ:=⟨[some (.fl X),cL 0,cI (k:Int)],st,nx⟩) O (wR C (by exact(aW 0x3e8200000bc2000821 rfl U)))) R rfl T;obtain⟨Y,W,V,B,D,E⟩:=Be F n (k+1) (Z.set m (Z[m]+X[k])) (aG st 0 (.list ((Z.set m (Z[m]+X[k])).map .int))) (some (.int (k:Int))) (by exact(bY (cq 0x2004010800210022004210080010821 rfl H) (cq 0x1004200084200022004210080010a21 rfl H))) (by rw [List.length_set];exact U) ba;refine⟨Y,W,V,?_,D,E⟩;refine(cZ (σ₁:=⟨[some (.fl X),cL 0,cI (k:Int)],st,nx⟩) rfl ((aj e).trans rfl)).trans ?_
  rw [show((k:Int)+1)=((k+1:Nat):Int)by exact cX (aW 0x8400124214800912020 rfl) (aW 0x852002441080024a020 rfl)];exact B
theorem OL{Z:List Int}(T:Z.length<=63):∃Y:List Int,Y.length=15/\Af [.fl Z] []=some (.loc 0,[],[.list (Y.map .int)]):=by
 obtain⟨Y,W,V,e,R,Q⟩:=Be (nx:=1) T Z.length 0 [1,1,1,1,1,1,0,1,3,7,12,20,6,0,5] [(0,.list (([1,1,1,1,1,1,0,1,3,7,12,20,6,0,5]:List Int).map .int))] none (by exact(bY (aW 0x110020 rfl) (aW 0x44000020 rfl))) rfl rfl;refine⟨Y,R,?_⟩;unfold Af;rw [bX (σ:=⟨[some (.fl Z),none,none],[],0⟩) rfl (KP _)];unfold By;rw [aj (σ₁:=⟨[some (.fl Z),cL 0,none],[(0,.list (([1,1,1,1,1,1,0,1,3,7,12,20,6,0,5]:List Int).map .int))],1⟩) rfl];have U:aQ dC (ae (ac 0) al) ⟨[some (.fl Z),cL 0,none],[(0,.list (([1,1,1,1,1,1,0,1,3,7,12,20,6,0,5]:List Int).map .int))],1⟩=some (.int (Z.length:Int),⟨[some (.fl Z),cL 0,none],[(0,.list (([1,1,1,1,1,1,0,1,3,7,12,20,6,0,5]:List Int).map .int))],1⟩):=by
  refine ce (ps:=[.fl Z]) rfl ?_
  show(if Z.length<=2^30 then some (PV.int (Z.length:Nat),_)else none)=_;rw [aJ (by exact(aW 0x800000006000010fc8000021 rfl T))]
 have X:er 100 (cy (aQ eC (ae (aQ dC (ae (ac 0) al)) al))) (ap 2) De aq ⟨[some (.fl Z),cL 0,none],[(0,.list (([1,1,1,1,1,1,0,1,3,7,12,20,6,0,5]:List Int).map .int))],1⟩=some (.next,⟨[some (.fl Z),cL 0,V],W,1⟩):=by
  have S:aQ eC (ae (aQ dC (ae (ac 0) al)) al) ⟨[some (.fl Z),cL 0,none],[(0,.list (([1,1,1,1,1,1,0,1,3,7,12,20,6,0,5]:List Int).map .int))],1⟩=some (.rng 0 (Z.length:Int),⟨[some (.fl Z),cL 0,none],[(0,.list (([1,1,1,1,1,1,0,1,3,7,12,20,6,0,5]:List Int).map .int))],1⟩):=ce (aC U rfl) rfl;refine(gP (k:=.rng 0 Z.length) (ps:=sy 0 Z.length) (gV S ?_) rfl (by rw [qb];exact aW 0xc84000210fc8000021 rfl T)).trans e;rw [rp ⟨by exact wN 0xa7d0900a96a020 rfl,by exact wN 0xf42402a4014a020 rfl,by exact aW 0x27d0900a96a020 rfl,by exact aW 0x7a1201520025010fc8000021 rfl T⟩,show((Z.length:Int)-0).toNat=Z.length by exact bY (bD 0x400000200a4204b0004a821 rfl (eO (aW 0xa4004b0014a020 rfl))) (bD 0x1000200a4204b0004aa21 rfl (eO (aW 0xa4004b0014a020 rfl)))]
 rw [aj X,aR (σ₁:=⟨[some (.fl Z),cL 0,V],W,1⟩) (p:=.loc 0) rfl];exact cY (ids:=[0]) rfl (bK Q (ie _) rfl) rfl
noncomputable def qB(a:Int):Int:=if 0<=a then Int.fmod a (10^60)else -Int.fmod (-a) (10^60)
theorem wp(a:Int):(qB a).natAbs<10^60:=by
 unfold qB;have Z:(0:Int)<10^60:=by decide
 split
 .have X:=uh a Z
  have Y:=uf a Z
  omega
 .have X:=uh (-a) Z
  have Y:=uf (-a) Z
  omega
noncomputable def Em:bz:=bW CM xt yr (fun _=>[]) [] (fun n=>CK 100 n)
theorem KJ(a:PV):cH CM xt yr ([a]++[]) ([]++[])=⟨[some a],[],0⟩:=by left
theorem HG(a:Int):Em [.int a] []=some (.int (qB a),[],[]):=by
 unfold Em;rw [bX (σ:=⟨[cI a],[],0⟩) rfl (KJ _)];unfold CK;have Y:ai (ab (.int 10)) (ab (.int 60)) sh ⟨[cI a],[],0⟩=some (.int (10^60),⟨[cI a],[],0⟩):=av rfl rfl (cF rfl);have Z:au (ai (ac 0) (ab (.int 0)) Qb) ⟨[cI a],[],0⟩=some (decide (0<=a),⟨[cI a],[],0⟩):=aS (av rfl rfl rfl) rfl;have e:ga (au (ai (ac 0) (ab (.int 0)) Qb)) (ai (ac 0) (ai (ab (.int 10)) (ab (.int 60)) sh) dj) (ca (ai (ca (ac 0) eE) (ai (ab (.int 10)) (ab (.int 60)) sh) dj) eE) ⟨[cI a],[],0⟩=some (.int (qB a),⟨[cI a],[],0⟩):=by
  unfold qB
  by_cases h:0<=a
  .rw [aJ h]
   rw [dO h]at Z
   exact(lH Z).trans (av rfl Y (cF (by unfold nN;rw [aJ (by decide)])))
  .rw [aO h]
   rw [ix h]at Z
   exact(lC Z).trans (kI (av (kI rfl rfl) Y (cF (by unfold nN;rw [aJ (by decide)]))) rfl)
 exact(bw (fM ([]:List AO).length) (aR (cP e))).trans rfl
theorem fV{n:Int}{m:Nat}(h:0<m):∃i:Nat,i<m/\Int.fmod n m=i:=by
 have Z:=uh n (show(0:Int)<m by exact aW 0x9005290800008421 rfl h);have Y:=uf n (show(0:Int)<m by exact aW 0x9005290800008421 rfl h);exact⟨(Int.fmod n m).toNat,by exact Kq 0x40108101025410012042422 rfl Y (eO (KI Z)),by exact cX (It (eO (KI Z))) (Jb (eO (KI Z)))⟩
theorem Js(n:Int):∃i,i<15/\Ea [.int n] []=some (.str (aw (wd i)),[],[]):=by
 obtain⟨i,Y,W⟩:=fV (n:=n) (m:=5) (by decide);obtain⟨j,Z,X⟩:=fV (n:=Int.fdiv n 5) (m:=3) (by decide);refine⟨Tj i j,?_,?_⟩
 .have:∀i,i<5->∀j,j<3->Tj i j<15:=by decide +kernel
  exact this i Y j Z
 .rw [Ut,show Int.fmod n 5=(i:Int)from W]
  exact TQ Y Z X
theorem OK:∀i,i<15->0<fj i->∀n:Int,∃k,k<fj i/\tV [.str (aw (wd i)),.loc 0,.int n] [.list ((ou i).map .bool)]=some (.loc 1,[.list ((ou i).map .bool)],[.list [.str (aw (wd (gf i k).1)),.str (aw (wd (gf i k).2))]]):=by
 intro i Y X n;obtain⟨k,Z,e⟩:=fV (n:=n) (m:=fj i) X;refine⟨k,Z,?_⟩;rw [Oj Y X,e];exact Tz Y Z n
noncomputable def cV(P:Nat->Int×Int):List PV:=(List.range 6).map fun k=>.tup [.int (P k).1,.int (P k).2]
noncomputable def ly(P:Nat->Int×Int):Prop:=∀k,k<6->(P k).1.natAbs<10^60/\(P k).2.natAbs<10^60
theorem mK(P:Nat->Int×Int):dc (.list (cV P))=[]:=rfl
theorem Bm(P:Nat->Int×Int){k:Nat}(h:k<6):(cV P)[k]?=some (.tup [.int (P k).1,.int (P k).2]):=by
 unfold cV;rw [kH,FE h];rfl
theorem Cu(P:Nat->Int×Int):(cV P).length=6:=by rfl
theorem GA:∀i,i<15->∀k,k<3->Txt.find (aw (wd i)) (aw [97+k])=(pf i k:Int)/\Txt.rfind (aw (wd i)) (aw [97+k])=(pl i k:Int):=by decide +kernel
noncomputable def ny:bz:=bW BL wL xy (fun _=>[]) [] (fun n=>Dm 100 n)
theorem Mx(a:PV)(b:AO):cH BL wL xy ([a,.loc 0]++[]) ([b]++[])=⟨[some a,cL 0,none,none,none,none],[(0,b)],1⟩:=by left
noncomputable abbrev BG:SR:=(ar (am (ai (ac 1) (aD "str" (ac 0) (ae (ac 3) al) fN) aH) (ap 4))
 (ar (am (ai (ac 1) (aD "str" (ac 0) (ae (ac 3) al) fR) aH) (ap 5))
 (ar (ck (aD "list" (ac 2) (ae (ai (ai (ai (ac 4) (ab (.int 0)) aH) (ai (ac 5) (ab (.int 1)) aH) cO) (ai (ai (ac 5) (ab (.int 0)) aH) (ai (ac 4) (ab (.int 1)) aH) cO) dB) al) bu))
 aq)))
theorem vb{a:Int}(h:a.natAbs<10^60):fits a=true:=jt (n:=200) (by decide) (ow h (by decide +kernel))
theorem uc{P:Nat->Int×Int}(X:ly P){i k:Nat}(Y:i<15)(Z:k<3){l4 l5:Option PV}{st:List (Nat×AO)}{nx:Nat}{acc:List Int}(V:st.lookup 0=some (.list (cV P)))(W:st.lookup 1=some (.list (acc.map .int)))(U:acc.length<=10):
  BG ⟨[cS (aw (wd i)),cL 0,cL 1,cS (aw [97+k]),l4,l5],st,nx⟩=some (.next,⟨[cS (aw (wd i)),cL 0,cL 1,cS (aw [97+k]),some (.tup [.int (P (pf i k)).1,.int (P (pf i k)).2]),some (.tup [.int (P (pl i k)).1,.int (P (pl i k)).2])],aG st 1 (.list ((acc++[dP P i k]).map .int)),nx⟩):=by
 obtain⟨S,T⟩:=GA i Y k Z;obtain⟨g1,g2⟩:=Fn i Y k Z;obtain⟨J,M⟩:=X _ g1;obtain⟨N,O⟩:=X _ g2;have Q:ai (ac 1) (aD "str" (ac 0) (ae (ac 3) al) fN) aH ⟨[cS (aw (wd i)),cL 0,cL 1,cS (aw [97+k]),l4,l5],st,nx⟩=some (.tup [.int (P (pf i k)).1,.int (P (pf i k)).2],⟨[cS (aw (wd i)),cL 0,cL 1,cS (aw [97+k]),l4,l5],st,nx⟩):=by
  refine av rfl (cf (p:=.str (aw (wd i))) (ps:=[.str (aw [97+k])]) rfl rfl rfl rfl) ?_
  rw [S];exact jf V (Bm P g1) (by rw [Cu];decide)
 have R:ai (ac 1) (aD "str" (ac 0) (ae (ac 3) al) fR) aH ⟨[cS (aw (wd i)),cL 0,cL 1,cS (aw [97+k]),some (.tup [.int (P (pf i k)).1,.int (P (pf i k)).2]),l5],st,nx⟩=some (.tup [.int (P (pl i k)).1,.int (P (pl i k)).2],⟨[cS (aw (wd i)),cL 0,cL 1,cS (aw [97+k]),some (.tup [.int (P (pf i k)).1,.int (P (pf i k)).2]),l5],st,nx⟩):=by
  refine av rfl (cf (p:=.str (aw (wd i))) (ps:=[.str (aw [97+k])]) rfl rfl rfl rfl) ?_
  rw [T];exact jf V (Bm P g2) (by rw [Cu];decide)
 refine(aj (aB Q rfl)).trans ((aj (aB R rfl)).trans ((aj (dF (σ:=⟨[cS (aw (wd i)),cL 0,cL 1,cS (aw [97+k]),some (.tup [.int (P (pf i k)).1,.int (P (pf i k)).2]),some (.tup [.int (P (pl i k)).1,.int (P (pl i k)).2])],st,nx⟩) (σ₁:=⟨[cS (aw (wd i)),cL 0,cL 1,cS (aw [97+k]),some (.tup [.int (P (pf i k)).1,.int (P (pf i k)).2]),some (.tup [.int (P (pl i k)).1,.int (P (pl i k)).2])],st,nx⟩) (a:=2) (i:=1) (ps₀:=acc.map .int) (ps:=acc.map .int) (p:=.int (dP P i k)) rfl W ?_ W (by rw [db];exact aW 0xf4240280000a82000021 rfl U))).trans ?_))
 .refine av (av rfl rfl (cF (c:=(P (pf i k)).1*(P (pl i k)).2) ?_)) (av rfl rfl (cF (c:=(P (pl i k)).1*(P (pf i k)).2) ?_)) rfl
  .unfold oz;rw [vb J,vb O];rfl
  .unfold oz;rw [vb N,vb M];rfl
 .rw [lx];rfl
theorem JW{P:Nat->Int×Int}(U:ly P){i:Nat}(V:i<15):ny [.str (aw (wd i)),.loc 0] [.list (cV P)]=some (.loc 1,[.list (cV P)],[.list ([dP P i 0,dP P i 1,dP P i 2].map .int)]):=by
 unfold ny;rw [bX (σ:=⟨[cS (aw (wd i)),cL 0,none,none,none,none],[(0,.list (cV P))],1⟩) rfl (Mx _ _)];unfold Dm;rw [aj (σ₁:=⟨[cS (aw (wd i)),cL 0,cL 1,none,none,none],[(1,.list []),(0,.list (cV P))],2⟩) rfl];have Y:∃T W X Z,er 100 (cy (ab (.str "abc"))) (ap 3) BG aq ⟨[cS (aw (wd i)),cL 0,cL 1,none,none,none],[(1,.list []),(0,.list (cV P))],2⟩=some (.next,⟨[cS (aw (wd i)),cL 0,cL 1,T,W,X],Z,2⟩)/\Z.lookup 0=some (.list (cV P))/\Z.lookup 1=some (.list ([dP P i 0,dP P i 1,dP P i 2].map .int)):=by
  rw [gP (k:=.sgn [97,98,99]) (ps:=[.str (aw [97+0]),.str (aw [97+1]),.str (aw [97+2])]) (gV (p:=.str "abc") rfl (by left)) rfl (by decide)];have Q:=uc U V (k:=0) (by decide) (l4:=none) (l5:=none) (st:=[(1,.list []),(0,.list (cV P))]) (nx:=2) (acc:=[]) rfl rfl (by decide);rw [cZ rfl Q];have R:=uc U V (k:=1) (by decide) (l4:=some (.tup [.int (P (pf i 0)).1,.int (P (pf i 0)).2])) (l5:=some (.tup [.int (P (pl i 0)).1,.int (P (pl i 0)).2])) (st:=aG [(1,.list []),(0,.list (cV P))] 1 (.list (([]++[dP P i 0]).map .int))) (nx:=2) (acc:=[]++[dP P i 0]) (by rw [aL (by decide)];rfl) ba (by exact kc _);rw [cZ rfl R];have S:=uc U V (k:=2) (by decide) (l4:=some (.tup [.int (P (pf i 1)).1,.int (P (pf i 1)).2])) (l5:=some (.tup [.int (P (pl i 1)).1,.int (P (pl i 1)).2])) (st:=aG (aG [(1,.list []),(0,.list (cV P))] 1 (.list (([]++[dP P i 0]).map .int))) 1 (.list (([]++[dP P i 0]++[dP P i 1]).map .int))) (nx:=2) (acc:=[]++[dP P i 0]++[dP P i 1]) (by rw [aL (by decide),aL (by decide)];rfl) ba (by simp);rw [cZ rfl S];exact⟨_,_,_,_,rfl,by rw [aL (by decide),aL (by decide),aL (by decide)];rfl,ba⟩
 obtain⟨T,W,X,Z,e,N,O⟩:=Y;refine(bw (fM ([AO.list (cV P)]:List AO).length) ((aj e).trans (aR (cP (p:=.loc 1) rfl)))).trans ?_
 exact cY (ids:=[0,1]) rfl (bK N (mK P) (bK O (ie _) rfl)) rfl
noncomputable def US(l:List Nat):List Nat:=l.map (·-32)
noncomputable def nm(i:Nat)(u:Bool):Str:=aw (cond u (US (wd i)) (wd i))
theorem cW:∀i,i<15->∀u:Bool,Txt.lower (nm i u)=aw (wd i)/\fp (nm i u)=true/\nC (aw (wd i))=false/\fp (aw (wd i))=true/\(PyData.str (nm i u)).canLay0=true/\(nm i u==aw (wd i))=!u:=by decide +kernel
theorem nd:∀i,i<15->Txt.upper (aw (wd i))=nm i true/\nC (nm i true)=false:=by decide +kernel
theorem zs:∀i,i<15->∀j,j<15->(aw (wd i)==aw (wd j))=(i==j):=by decide +kernel
theorem Gi{i:Nat}(Y:i<15)(u:Bool):rm (nm i u):=by
 obtain⟨Z,V,W,X,_⟩:=cW i Y u;exact⟨V,by rw [Z];exact W,by rw [Z];exact X⟩
theorem uy{k:Nat}(h:k<10^10):(PyData.str (aw (bh k))).canLay0=true:=by
 have Z:PyData.strOk (aw (bh k))=true:=by
  have Y:=mX h;unfold fp at Y
  rw [dw,fL]at Y
  unfold PyData.strOk;rw [<-Array.all_toList,fL];intro c X;have:=Y.1 c X;rw [dw,je,je]at this
  exact dO (by exact(aW 0x2200006000211fc8000421 rfl this.2))
 simpa [PyData.canLay0]using Z
theorem rJ{k:Nat}(h:k<10^10):JoinOk (Str.ofString "; ") [aw (bh k)]=true/\Txt.join (Str.ofString "; ") [aw (bh k)]=aw (bh k):=by
 refine⟨?_,rfl⟩;have Y:=jW k;have X:=ig (n:=10) (by decide) h;show(!Builtin.Str.tooLong (0+(aw (bh k)).length+2))=true;unfold Builtin.Str.tooLong;rw [bE,Y,qQ,ix (by exact(fun Z=>aW 0x10400204400884004000000c10a82000022 rfl X Z))];rfl
theorem pU:∀Z:List PyData,(∀d∈Z,d.canLay0=true)->PyData.canLayAll0 Z=true
 |[],_=>rfl
 |d::Z,h=>by simp only [PyData.canLayAll0,dw];exact⟨h d (.head _),pU Z fun x Y=>h x (.tail _ Y)⟩
theorem tH{n:Nat}:∀Z:List PyData,(∀d∈Z,d.depth<=n)->PyData.depthAll Z<=n
 |[],_=>ki _
 |d::Z,h=>by
  have V:=h d (.head _);have W:=tH Z fun x X=>h x (.tail _ X)
  show max d.depth (PyData.depthAll Z)<=n;exact(nk (d.depth) (PyData.depthAll Z)).elim (fun Y=>cq 0x40200020008020840000022 rfl W (Nat.max_eq_right (kT Y))) (fun Y=>cq 0x40200020008020840000022 rfl V (Nat.max_eq_left (kT Y)))
theorem gN{Z:List PyData}(h:∀d∈Z,d.canLay0=true/\d.depth<=3):SeqAt.shaped (.list Z)=true:=by
 have W:=pU Z fun d Y=>(h d Y).1
 have X:=tH Z fun d Y=>(h d Y).2
 unfold SeqAt.shaped;rw [dw];refine⟨W,dO ?_⟩;show PyData.depthAll Z+1<=64;exact aW 0x2010210004008c2000021 rfl X
theorem gK{Z:Type}{f:Z->PV}{g:Z->PyData}(h:∀a,nP (f a)=some (g a)):∀l:List Z,di (l.map f)=some (l.map g)
 |[]=>rfl
 |a::l=>by
  show(match nP (f a),di (l.map f)with|some d,some Y=>some (d::Y)|_,_=>none)=_;rw [h a,gK h l];rfl
theorem po{neg:Bool}{σ:AS}{a b:Nat}{Z:List PV}{ds:List PyData}(V:σ.st.lookup a=some (.list Z))(W:σ.st.lookup b=some (.list Z))(X:di Z=some ds)(Y:SeqAt.shaped (.list ds)=true):eg neg (.loc a) (.loc b) σ=some (.bool (!neg),σ):=by
 have T:jb σ.st (.loc a)=some (.list ds):=by
  show(match σ.st.lookup a with|some (.list Z)=>(di Z).map PyData.list|_=>none)=_;rw [V];dsimp only;rw [X];rfl
 have U:jb σ.st (.loc b)=some (.list ds):=by
  show(match σ.st.lookup b with|some (.list Z)=>(di Z).map PyData.list|_=>none)=_;rw [W];dsimp only;rw [X];rfl
 unfold eg;rw [T,U,fx,fx,Y,Ih _ (xb Y)];cases neg<;>rfl
theorem pV{σ:AS}{t:Nat}{Z:List PV}(X:t<σ.nx)(Y:iu [t] (bA Z)=true):(dm.nodupB [t]&&iu [t] (bA Z)&&[t].all (fun i=>decide (i<σ.nx)))=true:=by
 have:([t].all fun i=>decide (i<σ.nx))=true:=by simp [X]
 rw [this,Y];rfl
noncomputable abbrev En:=Nat×Bool×Nat
noncomputable def cA(e:En):Str×Str:=(nm e.1 e.2.1,aw (bh e.2.2))
noncomputable def aE(Z:List En):List (Str×Str):=Z.map cA
noncomputable def rX(Z:List En):Prop:=Z.length<=60/\∀e∈Z,e.1<15/\e.2.2<10^10
theorem dy(Z:List En):(aE Z).length=Z.length:=by exact db _
theorem eR(Z:List En)(e:En):aE Z++[cA e]=aE (Z++[e]):=by simp [aE]
theorem rX.rows{Z:List En}(h:rX Z):rH (aE Z):=by
 refine⟨by rw [dy];have:=h.1;exact aW 0xb44000010f08000021 rfl this,fun r Y=>?_⟩;obtain⟨e,X,rfl⟩:=da.mp Y;obtain⟨W,_⟩:=h.2 e X;obtain⟨U,_,V,_⟩:=cW e.1 W e.2.1;show nC (Txt.lower (nm e.1 e.2.1))=false;rw [U];exact V
noncomputable def cg(i:Nat)(Z:List En):List Nat:=(Z.filter fun e=>e.1==i).map fun e=>e.2.2
noncomputable def gF(i:Nat)(Z:List En):List En:=Z.filter fun e=>!(e.1==i)
theorem Mi{i:Nat}(X:i<15):∀Z:List En,(∀e∈Z,e.1<15)->GL (aw (wd i)) (aE Z)=(cg i Z).map fun k=>aw (bh k)
 |[],_=>rfl
 |e::Z,h=>by
  have Y:=Mi X Z fun x V=>h x (.tail _ V)
  have W:=h e (.head _);obtain⟨U,_⟩:=cW e.1 W e.2.1;unfold GL at Y ⊢
  show(cA e::aE Z).filterMap _=_;rw [lz];have:(Txt.lower (cA e).1==aw (wd i))=(e.1==i):=by
   show(Txt.lower (nm e.1 e.2.1)==_)=_;rw [U,zs _ W _ X]
  rw [this];unfold cg at Y ⊢
  rw [List.filter_cons];cases e.1==i
  .exact Y
  .show _::_=_
   rw [Y];rfl
theorem Gp{i:Nat}(X:i<15):∀Z:List En,(∀e∈Z,e.1<15)->oW (aw (wd i)) (aE Z)=aE (gF i Z)
 |[],_=>rfl
 |e::Z,h=>by
  have Y:=Gp X Z fun x V=>h x (.tail _ V)
  have W:=h e (.head _);obtain⟨U,_⟩:=cW e.1 W e.2.1;unfold oW at Y ⊢
  show(cA e::aE Z).filterMap _=_;rw [lz];have:(Txt.lower (cA e).1 != aw (wd i))=!(e.1==i):=by
   show(!(Txt.lower (nm e.1 e.2.1)==_))=_;rw [U,zs _ W _ X]
  rw [this];unfold gF at Y ⊢
  rw [List.filter_cons];cases e.1==i
  .show _::_=_
   rw [Y];rfl
  .exact Y
theorem vX{σ:AS}{a b:Nat}{Z:List En}(h:rX Z)(V:σ.st.lookup a=some (.list (az (aE Z))))(W:σ.st.lookup b=some (.list (az (aE Z)))):pA (.loc a) (.loc b) σ=some (.bool false,σ):=by
 refine po (neg:=true) V W (ds:=(aE Z).map fun r=>PyData.tuple [.str r.1,.str r.2]) (gK (fun _=>rfl) _) (gN fun d hd=>?_);obtain⟨r,Y,rfl⟩:=da.mp hd;obtain⟨e,X,rfl⟩:=da.mp Y;obtain⟨T,U⟩:=h.2 e X;refine⟨?_,show(1:Nat)<=3 by decide⟩;show PyData.canLayAll0 [PyData.str (nm e.1 e.2.1),PyData.str (aw (bh e.2.2))]=true;exact pU _ fun d hd=>by
  rcases cC.mp hd with rfl|hd
  .exact(cW _ T _).2.2.2.2.1
  .rw [cJ.mp hd];exact uy U
theorem Cf{σ:AS}{a b:Nat}{l:List Str}(h:∀x∈l,(PyData.str x).canLay0=true)(W:σ.st.lookup a=some (.list (bO l)))(X:σ.st.lookup b=some (.list (bO l))):pA (.loc a) (.loc b) σ=some (.bool false,σ):=by
 refine po (neg:=true) W X (ds:=l.map PyData.str) (gK (fun _=>rfl) _) (gN fun d Y=>?_);obtain⟨x,Z,rfl⟩:=da.mp Y;exact⟨h x Z,ki _⟩
theorem wI{C:bz}{σ:AS}{l:Nat}{ps:List PV}{o Z:AO}{p:PV}{ns:List AO}(W:bA ps=[])(S:dH (fun i=>[l].idxOf i) ps=ps)(N:σ.st.lookup l=some o)(P:l<σ.nx)(R:dc o=[])(V:dc Z=[])(X:dm.simpleAll [Z]=true)(Y:dm.simpleAll ns=true)(Q:∀U∈ns,dc U=[])(O:C (.hdr 274 0::ps) [o]=some (p,[Z],ns)):
  dm C (eU σ.st 2 (bA (.hdr 274 l::ps))) (.hdr 274 l::ps) σ=some (gt (mT [l] σ.nx) p,{σ with st:=gZ (aG σ.st l Z) σ.nx ns,nx:=σ.nx+ns.length}):=by
 have T:bA (.hdr 274 l::ps)=[l]:=by show [l]++bA ps=_;rw [W];rfl
 have e:dH (fun i=>[l].idxOf i) (.hdr 274 l::ps)=.hdr 274 0::ps:=by
  show gt (fun i=>[l].idxOf i) (.hdr 274 l)::dH (fun i=>[l].idxOf i) ps=_;rw [S];show PV.hdr 274 ([l].idxOf l)::ps=_;rw [show [l].idxOf l=0 by simp]
 exact lL (ids:=[l]) (os:=[o]) (os':=[Z]) (p:=p) (ns:=ns) (by rw [T];rfl) (by show [σ.st.lookup l]=_;rw [N];rfl) (fun U h=>by rw [cJ.mp h];exact R) (pV P (by rw [T];simp [iu])) (by rw [e];exact O) rfl (fun U h=>by rw [cJ.mp h];exact V) X Y Q
theorem qh{σ:AS}{j l:Nat}{Z:List (Str×Str)}(W:fQ σ.loc j=some (.hdr 274 l))(V:σ.st.lookup l=some (.list (az Z)))(X:l<σ.nx)(Y:Z.length<=90):
  bB 274 px (ac j) al σ=some (.loc σ.nx,{σ with st:=(σ.nx,.list (az Z))::aG σ.st l (.list (az Z)),nx:=σ.nx+1}):=by
 refine mF (ka W) rfl rfl ?_
 exact wI (ps:=[]) rfl rfl V X (bo Z) (bo Z) rfl rfl (fun U h=>by rw [cJ.mp h];exact bo _) (Mj Y)
theorem vj{σ:AS}{j l:Nat}{rs:List (Str×Str)}(X:fQ σ.loc j=some (.hdr 274 l))(W:σ.st.lookup l=some (.list (az rs)))(Y:l<σ.nx)(Z:rs.length<=90):
  bB 274 mA (ac j) al σ=some (.loc σ.nx,{σ with st:=(σ.nx,.list (bO (rs.map (·.1))))::aG σ.st l (.list (az rs)),nx:=σ.nx+1}):=by
 refine mF (ka X) rfl rfl ?_
 exact wI (ps:=[]) rfl rfl W Y (bo rs) (bo rs) rfl rfl (fun V h=>by rw [cJ.mp h];exact kW _) (LY Z)
theorem Ja{σ:AS}{j l:Nat}{rs:List (Str×Str)}{x:Str}{e:ER}(W:fQ σ.loc j=some (.hdr 274 l))(V:e σ=some (.str x,σ))(U:σ.st.lookup l=some (.list (az rs)))(X:l<σ.nx)(Z:rm x)(Y:rH rs):
  bB 274 pZ (ac j) (ae e al) σ=some (.loc σ.nx,{σ with st:=(σ.nx,.list (bO (GL (Txt.lower x) rs)))::aG σ.st l (.list (az rs)),nx:=σ.nx+1}):=by
 refine mF (ka W) rfl (aC V rfl) ?_
 exact wI (ps:=[.str x]) rfl rfl U X (bo rs) (bo rs) rfl rfl (fun T h=>by rw [cJ.mp h];exact kW _) (KL Z Y)
theorem zQ{σ:AS}{j l:Nat}{rs:List (Str×Str)}{x y:Str}{e1 e2:ER}(R:fQ σ.loc j=some (.hdr 274 l))(X:e1 σ=some (.str x,σ))(Y:e2 σ=some (.str y,σ))(Q:σ.st.lookup l=some (.list (az rs)))(S:l<σ.nx)(V:fp x=true)(W:fp y=true)(Z:JoinOk (Str.ofString "; ") [y]=true)(U:Txt.join (Str.ofString "; ") [y]=y)(T:rs.length<=90):
  bB 274 rP (ac j) (ae e1 (ae e2 al)) σ=some (.none,{σ with st:=aG σ.st l (.list (az (rs++[(x,y)])))}):=by
 refine mF (ka R) rfl (aC X (aC (g:=al) Y rfl)) ?_
 exact wI (ps:=[.str x,.str y]) (ns:=[]) (p:=.none) rfl rfl Q S (bo rs) (bo _) rfl rfl (fun P h=>by cases h) (LZ V W Z U T)
theorem PY{σ:AS}{j l:Nat}{Z:List (Str×Str)}{x:Str}{e:ER}(V:fQ σ.loc j=some (.hdr 274 l))(U:e σ=some (.str x,σ))(T:σ.st.lookup l=some (.list (az Z)))(W:l<σ.nx)(Y:rm x)(X:rH Z):
  jl 274 wo (ac j) e σ=some (.next,{σ with st:=aG σ.st l (.list (az (oW (Txt.lower x) Z)))}):=by
 unfold jl;rw [ka V];dsimp only;rw [aJ (show oT 274 (PV.hdr 274 l)=true from rfl),U];dsimp only;rw [wI (ps:=[.str x]) (ns:=[]) (p:=.none) rfl rfl T W (bo Z) (bo _) rfl rfl (fun S h=>by cases h) (Kx Y X)];rfl
noncomputable def wE(i:Nat):Nat:=2^(fj i+1)-1
noncomputable def pB(Z:List En):Nat:=(Z.map fun e=>wE e.1).sum
noncomputable def iM(Z:List En):Nat:=(Z.map fun e=>e.2.2*2^fj e.1).sum
noncomputable def val(P:Nat->Int×Int)(Z:List En):Int:=(Z.map fun e=>(e.2.2:Int)*dD P e.1).sum
theorem Hp(i:Nat):1<=wE i:=by
 unfold wE;have:2^1<=2^(fj i+1):=kd (by decide) (by exact(aW 0x210004108020 rfl));exact bD 0x200840100021080428800208022 rfl this (aV (aW 0x4200800208021 rfl this))
theorem CW(a b:List En):pB (a++b)=pB a+pB b:=by simp [pB]
theorem Cw(a b:List En):iM (a++b)=iM a+iM b:=by simp [iM]
theorem uK(P)(a b:List En):val P (a++b)=val P a+val P b:=by simp [val]
theorem Bq:∀Z:List En,Z.length<=pB Z
 |[]=>bU _
 |e::Z=>by
  have:=Bq Z;have h:=Hp e.1;show Z.length+1<=(wE e.1::Z.map fun e=>wE e.1).sum;rw [List.sum_cons];show _<=wE e.1+pB Z;exact cq 0x1008020840010022004200840000022 rfl this h
theorem Db(i:Nat):∀Z:List En,pB (gF i Z)<=pB Z
 |[]=>bU _
 |e::Z=>by
  have Y:=Db i Z;unfold gF at Y ⊢
  rw [List.filter_cons];cases e.1==i
  .show wE e.1+pB _<=wE e.1+pB Z
   exact cq 0x40200800100400840000021 rfl Y
  .show pB _<=wE e.1+pB Z
   exact bP Y (Nat.le_add_left _ _)
theorem FS{i:Nat}{u:Bool}{k:Nat}{es:List En}:pB (gF i ((i,u,k)::es))+wE i<=pB ((i,u,k)::es):=by
 have h:=Db i es;have e:gF i ((i,u,k)::es)=gF i es:=by
  unfold gF;rw [List.filter_cons];simp
 rw [e];show _<=wE i+pB es;exact cq 0x40200840000400840000021 rfl h
theorem vz(i:Nat):∀Z:List En,iM (gF i Z)+(cg i Z).sum*2^fj i=iM Z
 |[]=>by simp [gF,cg,iM]
 |e::Z=>by
  have Y:=vz i Z;unfold gF cg at Y ⊢
  rw [List.filter_cons,List.filter_cons];cases h:e.1==i
  .show e.2.2*2^fj e.1+iM (Z.filter fun e=>!(e.1==i))+_=e.2.2*2^fj e.1+iM Z
   rw [<-Y];rw [aO iA];exact bY (cq 0x80100800108010000210020 rfl) (cq 0x80100002108010080010020 rfl)
  .have X:e.1=i:=lR h
   show iM (Z.filter fun e=>!(e.1==i))+(e.2.2::(Z.filter fun e=>e.1==i).map fun e=>e.2.2).sum*2^fj i=e.2.2*2^fj e.1+iM Z;rw [<-Y,List.sum_cons,gz,X];exact bY (cq 0x80000820108010080010020 rfl) (cq 0x80000820108010080010020 rfl)
theorem vi(P)(i:Nat):∀Z:List En,val P (gF i Z)+((cg i Z).sum:Int)*dD P i=val P Z
 |[]=>by simp [gF,cg,val]
 |e::Z=>by
  have Y:=vi P i Z;unfold gF cg at Y ⊢
  rw [List.filter_cons,List.filter_cons];cases h:e.1==i
  .show(e.2.2:Int)*dD P e.1+val P (Z.filter fun e=>!(e.1==i))+_=(e.2.2:Int)*dD P e.1+val P Z
   rw [<-Y];rw [aO iA];exact cX (QH 0x90140808109014010212020 rfl) (QH 0x90140102109014080812020 rfl)
  .have X:e.1=i:=lR h
   show val P (Z.filter fun e=>!(e.1==i))+((e.2.2::(Z.filter fun e=>e.1==i).map fun e=>e.2.2).sum:Nat)*dD P i=(e.2.2:Int)*dD P e.1+val P Z;rw [<-Y,List.sum_cons,Int.natCast_add,vo,X];exact cX (QH 0x90040828109014080812020 rfl) (QH 0x90040828109014080812020 rfl)
noncomputable def S4(Z:Int)(p:Nat)(R S T V W X Y:Option PV)(st:List (Nat×AO))(U:Nat):AS:=⟨[cL 0,cI Z,cL 2,some (.hdr 274 3),some (.hdr 274 4),cL p,cL 6,R,S,T,V,W,X,Y],st,U⟩
noncomputable def Ag(st:List (Nat×AO))(Y:Nat)(Z:List (Nat×AO)):Prop:=∀i,i<Y->Z.lookup i=st.lookup i
theorem Ag.trans{st Y Z:List (Nat×AO)}{W X:Nat}(h:Ag st W Y)(T:Ag Y X Z)(U:W<=X):Ag st W Z:=fun i V=>(T i (eB V U)).trans (h i V)
theorem Ag.new{st:List (Nat×AO)}{Z l:Nat}{o X:AO}(h:st.lookup l=some o):Ag st Z ((Z,X)::aG st l o):=fun i W=>by
 rw [dM (by exact(fun Y=>CY W Y))]
 by_cases e:i=l
 .subst e;rw [ba,h]
 .rw [aL e]
theorem Ag.of{st Z:List (Nat×AO)}{Y:Nat}(h:∀i,i≠Y->Z.lookup i=st.lookup i):Ag st Y Z:=fun i W=>h i (by exact(fun X=>CY W X))
noncomputable def Z0(st:List (Nat×AO)):Prop:=∃l,st.lookup 0=some (.list l)/\dc (.list l)=[]
theorem Z0.of{st Z:List (Nat×AO)}(h:Z0 st)(e:Z.lookup 0=st.lookup 0):Z0 Z:=let⟨l,X,Y⟩:=h;⟨l,e.trans X,Y⟩
structure I4(ew ep ds:List En)(p:Nat)(st:List (Nat×AO))(nx:Nat):Prop where
 pc:st.lookup 2=some (.list (bO Mq))
 w:st.lookup 3=some (.list (az (aE ew)))
 l:st.lookup 4=some (.list (az (aE ds)))
 pp:st.lookup p=some (.list (az (aE ep)))
 d:st.lookup 6=some (.list (az (aE ds)))
 c:∃o,st.lookup 1=some (.cell o)
 pn:p<nx
 p5:p=5\/7<=p
 n7:7<=nx
 z:Z0 st
theorem I4.ag{T S R:List En}{p:Nat}{st Y:List (Nat×AO)}{W X:Nat}(h:I4 T S R p st W)(g:Ag st W Y)(U:W<=X):I4 T S R p Y X:=by
 have Z:=h.n7;have V:=h.pn;exact⟨(g 2 (by exact(aW 0x8210800708021 rfl Z))).trans h.pc,(g 3 (by exact(Lf Z))).trans h.w,(g 4 (by exact(aW 0x10210800708021 rfl Z))).trans h.l,(g p V).trans h.pp,(g 6 (by exact(aW 0x18210800708021 rfl Z))).trans h.d,let⟨o,e⟩:=h.c;⟨o,(g 1 (by exact(aW 0x4210800708021 rfl Z))).trans e⟩,by exact cq 0x40200420008010840000022 rfl U V,h.p5,by exact bD 0x4070802001c200840000022 rfl U Z,h.z.of (g 0 (by exact(aW 0x210800708021 rfl Z)))⟩
theorem pL{i:Nat}{Z:List PV}{σ:AS}(h:σ.st.lookup i=some (.list Z)):tm (.loc i) σ=some (.lst i 0):=by
 show(cN (σ.st.lookup i)).bind _=_;rw [h];rfl
section
variable {seed:Int}{p:Nat}{l7 l8 l9 l10 l11 l12 l13:Option PV}{st:List (Nat×AO)}{nx:Nat}{ew ep es ds:List En}
noncomputable abbrev Sw:BR:=au (ai (bB 274 px (ac 3) al) (ac 5) pA)
noncomputable abbrev QW:BR:=au (ai (bB 274 mA (ac 3) al) (dq 100 1 (cy (ac 5)) (ap 0) ff (ai (ac 0) (ab (.int 0)) aH)) pA)
noncomputable abbrev SX:BR:=au (ai (bB 274 px (ac 4) al) (ac 6) pA)
theorem Lx(h:I4 es es ds p st nx)(Y:rX es):∃Z,Sw (S4 seed p l7 l8 l9 l10 l11 l12 l13 st nx)=some (false,S4 seed p l7 l8 l9 l10 l11 l12 l13 Z (nx+1))/\Ag st nx Z:=by
 have W:=h.n7;have X:=Y.rows.1;have V:=qh (σ:=S4 seed p l7 l8 l9 l10 l11 l12 l13 st nx) (j:=3) rfl h.w (show 3<nx by exact Lf W) X;have g:Ag st nx ((nx,.list (az (aE es)))::aG st 3 (.list (az (aE es)))):=Ag.new h.w;refine⟨_,aS (av V rfl (vX Y ?_ ?_)) rfl,g⟩
 .exact cm
 .exact(g p h.pn).trans h.pp
theorem KQ(h:I4 ew ep ds p st nx)(Y:rX ds):∃Z,SX (S4 seed p l7 l8 l9 l10 l11 l12 l13 st nx)=some (false,S4 seed p l7 l8 l9 l10 l11 l12 l13 Z (nx+1))/\Ag st nx Z:=by
 have X:=h.n7;have W:=Y.rows.1;have V:=qh (σ:=S4 seed p l7 l8 l9 l10 l11 l12 l13 st nx) (j:=4) rfl h.l (show 4<nx by exact aW 0x10210800708021 rfl X) W;have g:Ag st nx ((nx,.list (az (aE ds)))::aG st 4 (.list (az (aE ds)))):=Ag.new h.l;refine⟨_,aS (av V rfl (vX Y ?_ ?_)) rfl,g⟩
 .exact cm
 .exact(g 6 (by exact(aW 0x18210800708021 rfl X))).trans h.d
theorem MV(h:I4 es es ds p st nx)(V:rX es):∃Z,QW (S4 seed p l7 l8 l9 l10 l11 l12 l13 st nx)=some (false,S4 seed p l7 l8 l9 l10 l11 l12 l13 Z (nx+2))/\Ag st nx Z:=by
 have P:=h.n7;have Y:=V.rows.1;have X:=vj (σ:=S4 seed p l7 l8 l9 l10 l11 l12 l13 st nx) (j:=3) rfl h.w (show 3<nx by exact Lf P) Y;have g:Ag st nx ((nx,.list (bO ((aE es).map (·.1))))::aG st 3 (.list (az (aE es)))):=Ag.new h.w;have O:((nx,AO.list (bO ((aE es).map (·.1))))::aG st 3 (.list (az (aE es)))).lookup nx=some (.list (bO ((aE es).map (·.1)))):=cm;have X:bB 274 mA (ac 3) al (S4 seed p l7 l8 l9 l10 l11 l12 l13 st nx)=some (.loc nx,S4 seed p l7 l8 l9 l10 l11 l12 l13 ((nx,.list (bO ((aE es).map (·.1))))::aG st 3 (.list (az (aE es)))) (nx+1)):=X;generalize ((nx,AO.list (bO ((aE es).map (·.1))))::aG st 3 (.list (az (aE es))))=st1 at *
 obtain⟨Z,e,g2,go⟩:=gX (n:=100) (m:=1) (src:=cy (ac 5)) (tg:=ap 0) (cnd:=ff) (el:=ai (ac 0) (ab (.int 0)) aH) (σ:=S4 seed p l7 l8 l9 l10 l11 l12 l13 st1 (nx+1)) (σ₁:=S4 seed p l7 l8 l9 l10 l11 l12 l13 st1 (nx+1)) (i0:=p) (ps:=az (aE es)) (L:=fun q=>[some q])
  (g:=fun q=>((fun r:Str×Str=>some r.1) (iz q)).map PV.str)
  (gV (p:=.loc p) rfl (pL ((g p h.pn).trans h.pp))) ((g p h.pn).trans h.pp) (show p<nx+1 by have:=h.pn;exact bD 0x8420100010840000421 rfl this)
  (fun q W l Z S=>by
   obtain⟨a,rfl⟩:=qD.mp S;rfl) (fun _=>rfl) (fun _ _ _ _=>rfl)
  (fun q W r Z _ R=>by
   obtain⟨r,N,rfl⟩:=dx W;cases R;rfl)
  (by rw [bZ];exact Hs Y) (by rw [bZ];exact FM Y)
 rw [kQ (aE es) (fun r=>some r.1) PV.str,List.filterMap_eq_map']at g2
 refine⟨Z,aS (av X e (Cf (l:=(aE es).map (·.1)) (fun x T=>?_) ?_ ?_)) rfl,g.trans (Ag.of go) (iG _)⟩
 .obtain⟨r,Y,rfl⟩:=da.mp T
  obtain⟨e,Q,rfl⟩:=da.mp Y;exact(cW _ (V.2 e Q).1 e.2.1).2.2.2.2.1
 .exact(go nx (show nx≠nx+1 by exact fun U=>aW 0x210004000a21 rfl U)).trans O
 .exact g2
theorem SY(h:I4 es es ds p st nx)(Y:rX es)(V:rX ds){f:SR}:∃Z,dn (kG Sw (kG QW (kG SX lG))) f aq (S4 seed p l7 l8 l9 l10 l11 l12 l13 st nx)=some (.next,S4 seed p l7 l8 l9 l10 l11 l12 l13 Z (nx+4))/\Ag st nx Z:=by
 obtain⟨O,Q,g1⟩:=Lx (seed:=seed) (l7:=l7) (l8:=l8) (l9:=l9) (l10:=l10) (l11:=l11) (l12:=l12) (l13:=l13) h Y;have X:=h.ag g1 (iG nx);obtain⟨P,R,g2⟩:=MV (seed:=seed) (l7:=l7) (l8:=l8) (l9:=l9) (l10:=l10) (l11:=l11) (l12:=l12) (l13:=l13) X Y;have U:=X.ag g2 (eX _ 2);obtain⟨W,S,T⟩:=KQ (seed:=seed) (l7:=l7) (l8:=l8) (l9:=l9) (l10:=l10) (l11:=l11) (l12:=l12) (l13:=l13) U V;exact⟨W,(bM ((xc Q).trans ((xc R).trans ((xc S).trans rfl)))).trans rfl,(g1.trans g2 (by exact(zb))).trans T (by exact(aW 0x2084200084000020 rfl))⟩
end
theorem wb{Z:List En}(h:rX Z):di (az (aE Z))=some ((aE Z).map fun r=>PyData.tuple [.str r.1,.str r.2])/\SeqAt.shaped (.list ((aE Z).map fun r=>PyData.tuple [.str r.1,.str r.2]))=true:=by
 refine⟨gK (fun _=>rfl) _,gN fun d hd=>?_⟩;obtain⟨r,Y,rfl⟩:=da.mp hd;obtain⟨e,X,rfl⟩:=da.mp Y;obtain⟨V,W⟩:=h.2 e X;refine⟨?_,show(1:Nat)<=3 by decide⟩;show PyData.canLayAll0 [PyData.str (nm e.1 e.2.1),PyData.str (aw (bh e.2.2))]=true;exact pU _ fun d hd=>by
  rcases cC.mp hd with rfl|hd
  .exact(cW _ V _).2.2.2.2.1
  .rw [cJ.mp hd];exact uy W
theorem Jy{σ:AS}{a b:Nat}{es:List En}(h:rX es)(V:σ.st.lookup a=some (.list (az (aE es))))(W:σ.st.lookup b=some (.list [])):fE (.loc a) (.loc b) σ=some (.bool es.isEmpty,σ):=by
 obtain⟨X,Y⟩:=wb h;have T:jb σ.st (.loc a)=some (.list ((aE es).map fun r=>PyData.tuple [.str r.1,.str r.2])):=by
  show(match σ.st.lookup a with|some (.list Z)=>(di Z).map PyData.list|_=>none)=_;rw [V];dsimp only;rw [X];rfl
 have U:jb σ.st (.loc b)=some (.list []):=by
  show(match σ.st.lookup b with|some (.list Z)=>(di Z).map PyData.list|_=>none)=_;rw [W];rfl
 show eg false (.loc a) (.loc b) σ=_;unfold eg;rw [T,U,fx,fx,Y,show SeqAt.shaped (.list [])=true by decide];cases es with
 |nil=>rfl
 |cons e es=>rfl
section
variable {seed:Int}{p:Nat}{l7 l8 l9 l10 l11 l12 l13:Option PV}{st:List (Nat×AO)}{nx:Nat}{ew ep es ds:List En}
theorem Uf(h:I4 ew es ds p st nx)(W:rX es)(Y:es≠[]){f:SR}:∃Z,dn (au (ai (ac 5) (bH al) fE)) f aq (S4 seed p l7 l8 l9 l10 l11 l12 l13 st nx)=some (.next,S4 seed p l7 l8 l9 l10 l11 l12 l13 Z (nx+1))/\Ag st nx Z:=by
 have g:Ag st nx ((nx,.list [])::st):=fun i V=>dM (by exact(fun X=>CY V X))
 have e:ai (ac 5) (bH al) fE (S4 seed p l7 l8 l9 l10 l11 l12 l13 st nx)=some (.bool false,S4 seed p l7 l8 l9 l10 l11 l12 l13 ((nx,.list [])::st) (nx+1)):=by
  refine av (p:=.loc p) (q:=.loc nx) (σ₁:=S4 seed p l7 l8 l9 l10 l11 l12 l13 st nx) (σ₂:=S4 seed p l7 l8 l9 l10 l11 l12 l13 ((nx,.list [])::st) (nx+1)) rfl rfl ?_
  rw [Jy W ((g p h.pn).trans h.pp) cm];cases es with
  |nil=>exact absurd rfl Y
  |cons e es=>rfl
 exact⟨_,(bM (aS e rfl)).trans rfl,g⟩
theorem Ta(h:I4 ew [] ds p st nx){f:SR}:∃Z,dn (au (ai (ac 5) (bH al) fE)) (ar (bq (ac 4)) aq) f (S4 seed p l7 l8 l9 l10 l11 l12 l13 st nx)=some (.ret (.hdr 274 4),S4 seed p l7 l8 l9 l10 l11 l12 l13 Z (nx+1))/\Ag st nx Z:=by
 have g:Ag st nx ((nx,.list [])::st):=fun i X=>dM (by exact(fun Y=>CY X Y))
 have e:ai (ac 5) (bH al) fE (S4 seed p l7 l8 l9 l10 l11 l12 l13 st nx)=some (.bool true,S4 seed p l7 l8 l9 l10 l11 l12 l13 ((nx,.list [])::st) (nx+1)):=by
  refine av (p:=.loc p) (q:=.loc nx) (σ₁:=S4 seed p l7 l8 l9 l10 l11 l12 l13 st nx) (σ₂:=S4 seed p l7 l8 l9 l10 l11 l12 l13 ((nx,.list [])::st) (nx+1)) rfl rfl ?_
  exact Jy (es:=[]) ⟨by decide,fun e h=>by cases h⟩ ((g p h.pn).trans h.pp) cm
 exact⟨_,(cK (aS e rfl)).trans (aR rfl),g⟩
noncomputable abbrev TV:SR:=ck (aD "list" (bB 274 px (ac 3) al) (ae (bT (ae (ab (.str "abc")) (ae (ab (.str "")) al))) al) bu)
theorem Up(h:I4 es ep ds p st nx)(Y:rX es):∃Z,TV (S4 seed p l7 l8 l9 l10 l11 l12 l13 st nx)=some (.next,S4 seed p l7 l8 l9 l10 l11 l12 l13 Z (nx+1))/\Ag st nx Z:=by
 have V:=h.n7;have U:=qh (σ:=S4 seed p l7 l8 l9 l10 l11 l12 l13 st nx) (j:=3) rfl h.w (show 3<nx by exact Lf V) Y.rows.1;have g:Ag st nx ((nx,.list (az (aE es)))::aG st 3 (.list (az (aE es)))):=Ag.new h.w;refine⟨_,jA (cf (ps:=[.tup [.str "abc",.str ""]]) U (pN cm) rfl (iN cm (by rw [bZ];have:=Y.rows.1;exact Me this))),fun i X=>?_⟩;rw [aL (by show i≠nx;exact fun W=>CY X W)];exact g i X
theorem TN{i:Nat}{u:Bool}{k:Nat}{Z:List En}(h:I4 ((i,u,k)::Z) ep ds p st nx)(X:rX ((i,u,k)::Z)):∃Y,am (ai (bB 274 mA (ac 3) al) (ab (.int 0)) aH) (ap 7) (S4 seed p l7 l8 l9 l10 l11 l12 l13 st nx)=some (.next,S4 seed p (some (.str (nm i u))) l8 l9 l10 l11 l12 l13 Y (nx+1))/\Ag st nx Y:=by
 have W:=h.n7;have V:=vj (σ:=S4 seed p l7 l8 l9 l10 l11 l12 l13 st nx) (j:=3) rfl h.w (show 3<nx by exact Lf W) X.rows.1;refine⟨_,aB (av (q:=.int 0) V rfl (jf (k:=0) (p:=.str (nm i u)) cm rfl (by rw [nT,db,dy];have:=X.1;exact yO this))) rfl,Ag.new h.w⟩
theorem Uq{i:Nat}{u:Bool}(W:i<15)(h:I4 ew ep ds p st nx):∃Z,am (aD "str" (ac 7) al cR) (dQ 1) (S4 seed p (some (.str (nm i u))) l8 l9 l10 l11 l12 l13 st nx)=some (.next,S4 seed p (some (.str (nm i u))) l8 l9 l10 l11 l12 l13 Z nx)/\(∀j,j≠1->Z.lookup j=st.lookup j)/\Z.lookup 1=some (.cell (some (.str (aw (wd i))))):=by
 obtain⟨o,V⟩:=h.c;obtain⟨Y,_,U,_⟩:=cW i W u;refine⟨aG st 1 (.cell (some (.str (aw (wd i))))),aB (p:=.str (aw (wd i))) (cf (p:=.str (nm i u)) (ps:=[]) (σ₁:=S4 seed p (some (.str (nm i u))) l8 l9 l10 l11 l12 l13 st nx) rfl rfl rfl ?_) (iP (σ:=S4 seed p (some (.str (nm i u))) l8 l9 l10 l11 l12 l13 st nx) (o:=o) V),fun j X=>aL X,ba⟩;rw [mm (by rw [Y];exact U),Y]
theorem TZ{i:Nat}{u:Bool}(X:i<15)(W:st.lookup 1=some (.cell (some (.str (aw (wd i)))))):am (ga (au (ai (ac 7) (aI 1) fE)) (aD "str" (aI 1) al dG) (aI 1)) (ap 10) (S4 seed p (some (.str (nm i u))) l8 l9 l10 l11 l12 l13 st nx)=some (.next,S4 seed p (some (.str (nm i u))) l8 l9 (some (.str (nm i (!u)))) l11 l12 l13 st nx):=by
 obtain⟨T,_,U,_,_,V⟩:=cW i X u;obtain⟨g1,g2⟩:=nd i X;have Z:aI 1 (S4 seed p (some (.str (nm i u))) l8 l9 l10 l11 l12 l13 st nx)=some (.str (aw (wd i)),S4 seed p (some (.str (nm i u))) l8 l9 l10 l11 l12 l13 st nx):=bS (σ:=S4 seed p (some (.str (nm i u))) l8 l9 l10 l11 l12 l13 st nx) W;have Y:au (ai (ac 7) (aI 1) fE) (S4 seed p (some (.str (nm i u))) l8 l9 l10 l11 l12 l13 st nx)=some (!u,S4 seed p (some (.str (nm i u))) l8 l9 l10 l11 l12 l13 st nx):=by
  rw [<-V];exact aS (av (p:=.str (nm i u)) rfl Z rfl) rfl
 cases u with
 |true=>
  exact aB ((lC Y).trans Z) rfl
 |false=>
  refine aB ((lH Y).trans (cf (ps:=[]) Z rfl rfl (r:=some (.str (nm i true),S4 seed p (some (.str (nm i false))) l8 l9 l10 l11 l12 l13 st nx)) ?_)) rfl;show(if nC (Txt.upper (aw (wd i)))=false then some (PV.str (Txt.upper (aw (wd i))),_)else none)=_;rw [g1,aJ g2]
theorem Ue{i:Nat}{u:Bool}(Y:i<15)(h:I4 es ep ds p st nx)(X:rX es):∃Z,am (bB 274 pZ (ac 3) (ae (ac 10) al)) (ap 11) (S4 seed p l7 l8 l9 (some (.str (nm i u))) l11 l12 l13 st nx)=some (.next,S4 seed p l7 l8 l9 (some (.str (nm i u))) (some (.loc nx)) l12 l13 Z (nx+1))/\Ag st nx Z/\Z.lookup nx=some (.list (bO ((cg i es).map fun k=>aw (bh k)))):=by
 have U:=h.n7;have W:=Ja (σ:=S4 seed p l7 l8 l9 (some (.str (nm i u))) l11 l12 l13 st nx) (j:=3) (e:=ac 10) rfl rfl h.w (show 3<nx by exact Lf U) (Gi Y u) X.rows;rw [(cW i Y u).1,Mi Y es fun e V=>(X.2 e V).1]at W
 exact⟨_,aB W rfl,Ag.new h.w,cm⟩
end
section
variable {seed:Int}{p q:Nat}{l7 l8 l9 l10 l11 l12 l13:Option PV}{st:List (Nat×AO)}{nx:Nat}{ew ep es ds:List En}
noncomputable abbrev Sb:BR:=au (ai (aD "str" (ai (ac 0) (ab (.int 0)) aH) al cR) (aI 1) fE)
noncomputable abbrev RH:BR:=au (ai (aD "str" (ai (ac 0) (ab (.int 0)) aH) al cR) (aI 1) pA)
theorem Uc{i:Nat}(J:i<15)(h:I4 ew es ds p st nx)(X:rX es)(I:st.lookup 1=some (.cell (some (.str (aw (wd i))))))(O:st.lookup q=some (.list (bO ((cg i es).map fun k=>aw (bh k)))))(V:q<nx){f:SR}:
  ∃Z,dn (au (ai (ac 11) (dq 100 1 (cy (ac 5)) (ap 0) Sb (ai (ac 0) (ab (.int 1)) aH)) pA)) f aq (S4 seed p l7 l8 l9 l10 (some (.loc q)) l12 l13 st nx)=some (.next,S4 seed p l7 l8 l9 l10 (some (.loc q)) l12 l13 Z (nx+1))/\Ag st nx Z:=by
 have P:=X.rows;have H:=h.n7;obtain⟨Z,e,g2,go⟩:=gX (n:=100) (m:=1) (src:=cy (ac 5)) (tg:=ap 0) (cnd:=Sb) (el:=ai (ac 0) (ab (.int 1)) aH) (σ:=S4 seed p l7 l8 l9 l10 (some (.loc q)) l12 l13 st nx) (σ₁:=S4 seed p l7 l8 l9 l10 (some (.loc q)) l12 l13 st nx) (i0:=p) (ps:=az (aE es)) (L:=fun x=>[some x])
  (g:=fun x=>(cond (Txt.lower (iz x).1==aw (wd i)) (some (iz x).2) none).map PV.str)
  (gV (p:=.loc p) rfl (pL h.pp)) h.pp h.pn
  (fun x Y l Z N=>by
   obtain⟨a,rfl⟩:=qD.mp N;rfl) (fun _=>rfl)
  (fun x Y Z T=>by
   obtain⟨r,S,rfl⟩:=dx Y;obtain⟨F,G⟩:=vd (nx:=nx+1) (P.2 r S) ((T 1 (show 1<nx by exact aW 0x4210800708021 rfl H)).trans I);rw [ey];refine aS (av F G (p:=.str (Txt.lower r.1)) (q:=.str (aw (wd i))) rfl) ?_
   cases Txt.lower r.1==aw (wd i)<;>rfl)
  (fun x Y y Z T W=>by
   obtain⟨r,S,rfl⟩:=dx Y;rw [ey]at W
   cases R:Txt.lower r.1==aw (wd i)with
   |true=>rw [R]at W;obtain rfl:=bc W;rfl
   |false=>rw [R]at W;exact aZ W)
  (by rw [bZ,dy];have:=X.1;exact aW 0xc84000210f08000021 rfl this) (by rw [bZ,dy];have:=X.1;exact yO this)
 rw [kQ (aE es) (fun r=>cond (Txt.lower r.1==aw (wd i)) (some r.2) none) PV.str]at g2
 have g2:Z.lookup nx=some (.list (bO (GL (aw (wd i)) (aE es)))):=g2;rw [Mi J es fun e U=>(X.2 e U).1]at g2
 refine⟨Z,(bM (aS (av (p:=.loc q) rfl e (Cf (l:=(cg i es).map fun k=>aw (bh k)) (fun x Y=>?_) ?_ g2)) rfl)).trans rfl,Ag.of go⟩
 .obtain⟨k,M,rfl⟩:=da.mp Y
  obtain⟨e,U,rfl⟩:=da.mp M;exact uy (X.2 e (List.mem_filter.mp U).1).2
 .exact(go q (show q≠nx by exact fun Q=>CY V Q)).trans O
theorem Ua{i:Nat}{u:Bool}(Y:i<15)(h:I4 es ep ds p st nx)(X:rX es)(V:p≠3):∃Z,jl 274 wo (ac 3) (ac 10) (S4 seed p l7 l8 l9 (some (.str (nm i u))) l11 l12 l13 st nx)=some (.next,S4 seed p l7 l8 l9 (some (.str (nm i u))) l11 l12 l13 Z nx)/\(∀j,j≠3->Z.lookup j=st.lookup j)/\I4 (gF i es) ep ds p Z nx:=by
 have S:=h.n7;have W:=PY (σ:=S4 seed p l7 l8 l9 (some (.str (nm i u))) l11 l12 l13 st nx) (j:=3) (e:=ac 10) rfl rfl h.w (show 3<nx by exact Lf S) (Gi Y u) X.rows;rw [(cW i Y u).1,Gp Y es fun e T=>(X.2 e T).1]at W
 refine⟨_,W,fun j U=>aL U,⟨(aL (by decide)).trans h.pc,ba,(aL (by decide)).trans h.l,(aL V).trans h.pp,(aL (by decide)).trans h.d,let⟨o,e⟩:=h.c;⟨o,(aL (by decide)).trans e⟩,h.pn,h.p5,h.n7,h.z.of (aL (by decide))⟩⟩
theorem Tg{i:Nat}(P:i<15)(h:I4 ew es ds p st nx)(V:rX es)(N:st.lookup 1=some (.cell (some (.str (aw (wd i)))))):
  ∃Z,am (dq 100 1 (cy (ac 5)) (ap 0) RH (ac 0)) (ap 5) (S4 seed p l7 l8 l9 l10 l11 l12 l13 st nx)=some (.next,S4 seed nx l7 l8 l9 l10 l11 l12 l13 Z (nx+1))/\Ag st nx Z/\I4 ew (gF i es) ds nx Z (nx+1):=by
 have R:=V.rows;have Y:=h.n7;obtain⟨Z,e,g2,go⟩:=gX (n:=100) (m:=1) (src:=cy (ac 5)) (tg:=ap 0) (cnd:=RH) (el:=ac 0) (σ:=S4 seed p l7 l8 l9 l10 l11 l12 l13 st nx) (σ₁:=S4 seed p l7 l8 l9 l10 l11 l12 l13 st nx) (i0:=p) (ps:=az (aE es)) (L:=fun x=>[some x])
  (g:=fun x=>(cond (Txt.lower (iz x).1 != aw (wd i)) (some (iz x)) none).map jq)
  (gV (p:=.loc p) rfl (pL h.pp)) h.pp h.pn
  (fun x W l Z Q=>by
   obtain⟨a,rfl⟩:=qD.mp Q;rfl) (fun _=>rfl)
  (fun x W Z U=>by
   obtain⟨r,T,rfl⟩:=dx W;obtain⟨J,M⟩:=vd (nx:=nx+1) (R.2 r T) ((U 1 (show 1<nx by exact aW 0x4210800708021 rfl Y)).trans N);rw [ey];refine aS (av J M (p:=.str (Txt.lower r.1)) (q:=.str (aw (wd i))) rfl) ?_
   cases Txt.lower r.1 != aw (wd i)<;>rfl)
  (fun x W y Z U X=>by
   obtain⟨r,T,rfl⟩:=dx W;rw [ey]at X
   cases S:Txt.lower r.1 != aw (wd i)with
   |true=>rw [S]at X;obtain rfl:=bc X;rfl
   |false=>rw [S]at X;exact aZ X)
  (by rw [bZ,dy];have:=V.1;exact aW 0xc84000210f08000021 rfl this) (by rw [bZ,dy];have:=V.1;exact yO this)
 rw [kQ (aE es) (fun r=>cond (Txt.lower r.1 != aw (wd i)) (some r) none) jq]at g2
 have g2:Z.lookup nx=some (.list (az (oW (aw (wd i)) (aE es)))):=g2;rw [Gp P es fun e O=>(V.2 e O).1]at g2
 have ag:Ag st nx Z:=Ag.of go;refine⟨Z,aB e rfl,ag,⟨(ag 2 (by exact(aW 0x8210800708021 rfl Y))).trans h.pc,(ag 3 (by exact(Lf Y))).trans h.w,(ag 4 (by exact(aW 0x10210800708021 rfl Y))).trans h.l,g2,(ag 6 (by exact(aW 0x18210800708021 rfl Y))).trans h.d,let⟨o,e⟩:=h.c;⟨o,(ag 1 (by exact(aW 0x4210800708021 rfl Y))).trans e⟩,gQ _,.inr Y,by exact aW 0x840011c200800708021 rfl Y,h.z.of (ag 0 (by exact(aW 0x210800708021 rfl Y)))⟩⟩
theorem Qo{j:Nat}(h:j<5):∃x∈Mq,(bO Mq)[j]?=some (.str x):=by
 rcases UV h with rfl|rfl|rfl|rfl|rfl
 .exact⟨_,.head _,rfl⟩
 .exact⟨_,.tail _ (.head _),rfl⟩
 .exact⟨_,.tail _ (.tail _ (.head _)),rfl⟩
 .exact⟨_,.tail _ (.tail _ (.tail _ (.head _))),rfl⟩
 .exact⟨_,.tail _ (.tail _ (.tail _ (.tail _ (.head _)))),rfl⟩
theorem SJ{i:Nat}{t:Int}(T:i<15)(h:I4 ew ep ds p st nx)(S:st.lookup 1=some (.cell (some (.str (aw (wd i)))))):
  ∃Z,am (aY xV (ae (aI 1) (ae (ai (ac 2) (ai (ai (ac 1) (ac 9) bk) (ab (.int 5)) dj) aH) al))) (ap 12) (S4 seed p l7 l8 (some (.int t)) l10 l11 l12 l13 st nx)=some (.next,S4 seed p l7 l8 (some (.int t)) l10 l11 (some (.loc nx)) l13 Z (nx+1))/\Ag st nx Z/\Z.lookup nx=some (.list ((ou i).map .bool)):=by
 obtain⟨j,U,Q⟩:=fV (n:=seed+t) (m:=5) (by decide);obtain⟨x,W,R⟩:=Qo U;have O:ai (ac 2) (ai (ai (ac 1) (ac 9) bk) (ab (.int 5)) dj) aH (S4 seed p l7 l8 (some (.int t)) l10 l11 l12 l13 st nx)=some (.str x,S4 seed p l7 l8 (some (.int t)) l10 l11 l12 l13 st nx):=by
  refine av (p:=.loc 2) (q:=.int (j:Int)) (σ₁:=S4 seed p l7 l8 (some (.int t)) l10 l11 l12 l13 st nx) rfl (av (p:=.int (seed+t)) (q:=.int 5) (av rfl rfl rfl) rfl (cF ?_)) (jf h.pc R (by decide));show(if(5:Int)≠0 then some (Int.fmod (seed+t) 5)else none)=_;rw [aJ (by decide)];exact bw some Q
 have P:=dp (C:=xV) (fs:=ae (aI 1) (ae (ai (ac 2) (ai (ai (ac 1) (ac 9) bk) (ab (.int 5)) dj) aH) al)) (ids:=[]) (os:=[]) (ps:=[.str (aw (wd i)),.str x]) (σ₁:=S4 seed p l7 l8 (some (.int t)) l10 l11 l12 l13 st nx)
  (aC (bS (σ:=S4 seed p l7 l8 (some (.int t)) l10 l11 l12 l13 st nx) S) (aC (g:=al) O rfl)) rfl rfl (fun _ h=>by cases h) rfl (Uy i T x W) rfl rfl (fun N h=>by
   rw [cJ.mp h];have:∀l:List Bool,dc (.list (l.map .bool))=[]:=fun l=>by
    induction l with
    |nil=>rfl
    |cons a l X=>exact X
   exact this _)
 exact⟨_,aB P rfl,fun k V=>dM (show k≠nx by exact fun Y=>CY V Y),cm⟩
end
noncomputable def Km(l:List Bool):List PV:=l.map .bool
theorem Mf(l:List Bool):dc (.list (Km l))=[]:=by
 induction l with
 |nil=>rfl
 |cons a l Z=>exact Z
theorem JY{σ:AS}{a:Nat}{l:List Bool}(X:σ.st.lookup a=some (.list (Km l))):jb σ.st (.loc a)=some (.list (l.map PyData.bool))/\SeqAt.shaped (.list (l.map PyData.bool))=true:=by
 refine⟨?_,gN fun d Y=>?_⟩
 .show(match σ.st.lookup a with|some (.list Z)=>(di Z).map PyData.list|_=>none)=_
  rw [X];dsimp only;unfold Km;rw [gK (g:=PyData.bool) (fun _=>rfl)];rfl
 .obtain⟨b,_,rfl⟩:=da.mp Y
  exact⟨rfl,ki _⟩
theorem sY:∀i,i<15->(ou i).isEmpty=false/\((ou i).any id)=decide (0<fj i):=by decide +kernel
section
variable {seed:Int}{p q:Nat}{l7 l8 l9 l10 l11 l12 l13:Option PV}{st:List (Nat×AO)}{nx:Nat}{ew ep es ds:List En}
theorem Si{i:Nat}(X:i<15)(T:st.lookup q=some (.list (Km (ou i))))(Y:q<nx){f:SR}:
  ∃Z,dn (au (ai (ac 12) (bH al) fE)) f aq (S4 seed p l7 l8 l9 l10 l11 (some (.loc q)) l13 st nx)=some (.next,S4 seed p l7 l8 l9 l10 l11 (some (.loc q)) l13 Z (nx+1))/\Ag st nx Z:=by
 have g:Ag st nx ((nx,.list [])::st):=fun i X=>dM (by exact(fun V=>CY X V))
 have e:ai (ac 12) (bH al) fE (S4 seed p l7 l8 l9 l10 l11 (some (.loc q)) l13 st nx)=some (.bool false,S4 seed p l7 l8 l9 l10 l11 (some (.loc q)) l13 ((nx,.list [])::st) (nx+1)):=by
  refine av (p:=.loc q) (q:=.loc nx) (σ₁:=S4 seed p l7 l8 l9 l10 l11 (some (.loc q)) l13 st nx) (σ₂:=S4 seed p l7 l8 l9 l10 l11 (some (.loc q)) l13 ((nx,.list [])::st) (nx+1)) rfl rfl ?_
  obtain⟨P,Q⟩:=JY (σ:=S4 seed p l7 l8 l9 l10 l11 (some (.loc q)) l13 ((nx,.list [])::st) (nx+1)) ((g q Y).trans T);have R:jb (S4 seed p l7 l8 l9 l10 l11 (some (.loc q)) l13 ((nx,.list [])::st) (nx+1)).st (.loc nx)=some (.list []):=by
   show(match((nx,AO.list [])::st).lookup nx with|some (.list U)=>(di U).map PyData.list|_=>none)=_;rw [cm];rfl
  show eg false (.loc q) (.loc nx) _=_;unfold eg;rw [P,R,fx,fx,Q,show SeqAt.shaped (.list [])=true by decide];have W:=(sY i X).1;cases S:ou i with
  |nil=>rw [S]at W;exact absurd W (by decide)
  |cons b O=>rfl
 exact⟨_,(bM (aS e rfl)).trans rfl,g⟩
theorem Tc{i:Nat}(Y:i<15)(Z:st.lookup q=some (.list (Km (ou i)))):
  au (ai (ab (.bool true)) (ac 12) Rf) (S4 seed p l7 l8 l9 l10 l11 (some (.loc q)) l13 st nx)=some (decide (0<fj i),S4 seed p l7 l8 l9 l10 l11 (some (.loc q)) l13 st nx):=by
 obtain⟨W,X⟩:=JY (σ:=S4 seed p l7 l8 l9 l10 l11 (some (.loc q)) l13 st nx) Z;refine aS (p:=.bool (decide (0<fj i))) (av (p:=.bool true) (q:=.loc q) rfl rfl ?_) rfl;show kJ false (.bool true) (.loc q) _=_;unfold kJ;rw [W,show jb (S4 seed p l7 l8 l9 l10 l11 (some (.loc q)) l13 st nx).st (.bool true)=some (.bool true)from rfl,fx,fx];show(QG (.list ((ou i).map PyData.bool))).bind _=_;rw [show QG (.list ((ou i).map PyData.bool))=some ((ou i).map PyData.bool)from rfl,fx,X,show SeqAt.shaped (.bool true)=true by decide];have:((ou i).map PyData.bool).any (fun y=>PyData.eqv y (.bool true))=decide (0<fj i):=by
  rw [<-(sY i Y).2,vF]
  congr 1
  funext b
  cases b<;>rfl
 show some (PV.bool (((ou i).map PyData.bool).any fun y=>PyData.eqv y (.bool true)),_)=_;rw [this]
noncomputable abbrev Mc(Z:bz):ER:=aQ Jd (ae (dq 100 1 (cy (ac 11)) (ap 0) ff (aY Z (ae (ac 0) al))) al)
noncomputable abbrev TL(Z:bz):ER:=ai (ai (ab (.str "0__")) (aQ sr (ae (Mc Z) al)) bk) (ab (.str " ")) bk
theorem BQ:∀l:List Int,gm (l.map .int)=some l
 |[]=>rfl
 |a::l=>by
  show(gm (l.map .int)).map (a::·)=_;rw [BQ l];rfl
noncomputable def Da:PV->Option PV
 |.str x=>(PySem.intText? (Txt.replace (Txt.rstrip x) (Str.ofString "_") (Str.ofString ""))).map .int
 |_=>none
theorem nY{k:Nat}(h:k<10^10):Da (.str (aw (bh k)))=some (.int (k:Int)):=by
 show(PySem.intText? (Txt.replace (Txt.rstrip (aw (bh k))) _ _)).map PV.int=_;rw [lX,oS,Co h];rfl
theorem xM:∀Z:List Nat,(∀k∈Z,k<10^10)->(bO (Z.map fun k=>aw (bh k))).filterMap Da=(Z.map fun k:Nat=>(k:Int)).map .int
 |[],_=>rfl
 |k::Z,h=>by
  show(PV.str (aw (bh k))::bO (Z.map fun k=>aw (bh k))).filterMap Da=_;rw [lz,nY (h k (.head _)),xM Z fun x Y=>h x (.tail _ Y)];rfl
theorem yc:∀Z:List Nat,(Z.map fun k:Nat=>(k:Int)).sum=(Z.sum:Int)
 |[]=>rfl
 |k::Z=>by
  rw [eh,List.sum_cons,List.sum_cons,yc Z];rfl
theorem QR(P:Params){Y:List Nat}(J:∀k∈Y,k<=20000)(S:Y.length<=90)(Q:Y.sum<=20000)(M:st.lookup q=some (.list (bO (Y.map fun k=>aw (bh k)))))(O:q<nx):
  ∃Z,am (TL (zr P)) (ap 8) (S4 seed p l7 l8 l9 l10 (some (.loc q)) l12 l13 st nx)=some (.next,S4 seed p l7 (some (.str (aw (bh Y.sum)))) l9 l10 (some (.loc q)) l12 l13 Z (nx+1))/\Ag st nx Z:=by
 have X:∀k∈Y,k<10^10:=fun k h=>by have:=J k h;exact AB this
 have W:(bO (Y.map fun k=>aw (bh k))).length=Y.length:=by rw [nT,db]
 obtain⟨Z,e,g2,go⟩:=gX (n:=100) (m:=1) (src:=cy (ac 11)) (tg:=ap 0) (cnd:=ff) (el:=aY (zr P) (ae (ac 0) al)) (σ:=S4 seed p l7 l8 l9 l10 (some (.loc q)) l12 l13 st nx) (σ₁:=S4 seed p l7 l8 l9 l10 (some (.loc q)) l12 l13 st nx) (i0:=q) (ps:=bO (Y.map fun k=>aw (bh k))) (L:=fun x=>[some x])
  (g:=Da)
  (gV (p:=.loc q) rfl (pL M)) M O
  (fun x R l Z S=>by
   obtain⟨a,rfl⟩:=qD.mp S;rfl) (fun _=>rfl)
  (fun x R Z Q=>by
   obtain⟨y,F,rfl⟩:=da.mp R;obtain⟨k,V,rfl⟩:=da.mp F;rw [nY (X k V)];rfl)
  (fun x R y Z Q I=>by
   obtain⟨z,G,rfl⟩:=da.mp R;obtain⟨k,V,rfl⟩:=da.mp G;rw [nY (X k V)]at I
   cases I;exact bF (ps:=[.str (aw (bh k))]) rfl rfl rfl (HQ P (X k V)))
  (by rw [W];exact Hs S) (by rw [W];exact FM S)
 rw [xM Y X]at g2
 have g2:Z.lookup nx=some (.list ((Y.map fun k:Nat=>(k:Int)).map .int)):=g2;have U:Mc (zr P) (S4 seed p l7 l8 l9 l10 (some (.loc q)) l12 l13 st nx)=some (.int (Y.sum:Int),S4 seed p l7 l8 l9 l10 (some (.loc q)) l12 l13 Z (nx+1)):=by
  refine ce (ps:=[.loc nx]) (σ₁:=S4 seed p l7 l8 l9 l10 (some (.loc q)) l12 l13 Z (nx+1)) (aC e rfl) ?_
  rw [Mh,nu (σ:=S4 seed p l7 l8 l9 l10 (some (.loc q)) l12 l13 Z (nx+1)) g2];rw [BQ,fx];have N:xg (Y.map fun k:Nat=>(k:Int))=true:=by
   unfold xg;rw [fL];intro n E;obtain⟨k,V,rfl⟩:=da.mp E;have:=J k V;exact dO (bP this (by decide))
  rw [aJ ⟨N,by rw [db,db];exact bP (m:=90) (by exact(aW 0xb44000011688000021 rfl S)) (by decide)⟩,yc]
 have T:aQ sr (ae (Mc (zr P)) al) (S4 seed p l7 l8 l9 l10 (some (.loc q)) l12 l13 st nx)=some (.str (aw (dJ Y.sum)),S4 seed p l7 l8 l9 l10 (some (.loc q)) l12 l13 Z (nx+1)):=by
  refine ce (ps:=[.int (Y.sum:Int)]) (aC U rfl) ?_
  show(if Y.sum<2^1000 then some (PV.str (Str.ofString (toString ((Y.sum:Nat):Int))),_)else none)=_;rw [aJ (jO (n:=Y.sum) Q (by decide +kernel:20000<2^1000)),tq]
 have H:=ig (k:=Y.sum) (n:=10) (by decide) (by exact(AB Q));have D:ai (ab (.str "0__")) (aQ sr (ae (Mc (zr P)) al)) bk (S4 seed p l7 l8 l9 l10 (some (.loc q)) l12 l13 st nx)=some (.str (aw ([48,95,95]++dJ Y.sum)),S4 seed p l7 l8 l9 l10 (some (.loc q)) l12 l13 Z (nx+1)):=
  av (p:=.str (aw [48,95,95])) rfl T (add_str (by simp;exact aW 0x3e81400184400a82000021 rfl H))
 refine⟨Z,aB (av (q:=.str (aw [32])) D rfl (add_str (by simp;exact aW 0x7cc280000a82000021 rfl H))) rfl,Ag.of go⟩
end
noncomputable def od(t:Nat):Bool:=!(Int.fmod (t:Int) 2==0)
section
variable {seed:Int}{p q:Nat}{l7 l8 l9 l10 l11 l12 l13:Option PV}{st:List (Nat×AO)}{nx:Nat}{ew ep es ds:List En}
theorem Rs{t:Nat}:au (ai (ac 9) (ab (.int 2)) dj) (S4 seed p l7 l8 (some (.int (t:Int))) l10 l11 l12 l13 st nx)=some (od t,S4 seed p l7 l8 (some (.int (t:Int))) l10 l11 l12 l13 st nx):=by
 refine aS (p:=.int (Int.fmod (t:Int) 2)) (av rfl rfl (cF ?_)) ?_
 .show(if(2:Int)≠0 then some _ else none)=_
  rw [aJ (by decide)]
 .show some (Int.fmod (t:Int) 2 != 0)=_
  rfl
theorem Gn{j t:Nat}(W:j<15){X:ER}(Y:X (S4 seed p l7 l8 (some (.int (t:Int))) l10 l11 l12 l13 st nx)=some (.str (aw (wd j)),S4 seed p l7 l8 (some (.int (t:Int))) l10 l11 l12 l13 st nx)):
  ga (au (ai (ac 9) (ab (.int 2)) dj)) (aD "str" X al dG) X (S4 seed p l7 l8 (some (.int (t:Int))) l10 l11 l12 l13 st nx)=some (.str (nm j (od t)),S4 seed p l7 l8 (some (.int (t:Int))) l10 l11 l12 l13 st nx):=by
 obtain⟨g1,g2⟩:=nd j W;have h:=Rs (seed:=seed) (p:=p) (l7:=l7) (l8:=l8) (l10:=l10) (l11:=l11) (l12:=l12) (l13:=l13) (st:=st) (nx:=nx) (t:=t);cases Z:od t with
 |true=>
  rw [Z]at h
  refine(lH h).trans (cf (ps:=[]) Y rfl rfl ?_);show(if nC (Txt.upper (aw (wd j)))=false then some (PV.str (Txt.upper (aw (wd j))),_)else none)=_;rw [g1,aJ g2]
 |false=>
  rw [Z]at h
  exact(lC h).trans Y
noncomputable abbrev PA:SR:=(ar (ck (aD "list" (ac 5) (ae (bT (ae (ga (au (ai (ac 9) (ab (.int 2)) dj)) (aD "str" (ac 13) al dG) (ac 13)) (ae (ac 8) al))) al) bu))
 (ar (dn (au (ai (bB 274 rP (ac 3) (ae (ai (ai (ac 5) (ca (ab (.int 1)) eE) aH) (ab (.int 0)) aH) (ae (ac 8) al))) (ab .none) dI)) (ar (bq (ab .none))
 aq) aq)
 aq))
theorem wh{j t K:Nat}(H:j<15)(G:K<10^10)(h:I4 es es ds p st nx)(I:es.length<=80):
  ∃V,PA (S4 seed p l7 (some (.str (aw (bh K)))) (some (.int (t:Int))) l10 l11 l12 (some (.str (aw (wd j)))) st nx)=some (.next,S4 seed p l7 (some (.str (aw (bh K)))) (some (.int (t:Int))) l10 l11 l12 (some (.str (aw (wd j)))) V nx) /\
   I4 (es++[(j,od t,K)]) (es++[(j,od t,K)]) ds p V nx/\(∀i,i≠3->i≠p->V.lookup i=st.lookup i):=by
 have T:=h.p5;have E:=h.n7;have R:p≠3:=by exact fun Y=>T.elim (fun Z=>aW 0x50800288c2000822 rfl Y Z) (fun Z=>aW 0x1c2008c2000822 rfl Y Z)
 have O:p≠6:=by exact fun Y=>T.elim (fun Z=>aW 0x5080020982000a22 rfl Y Z) (fun Z=>aW 0x1c200982000822 rfl Y Z)
 have C:=Gn (seed:=seed) (p:=p) (l7:=l7) (l8:=some (.str (aw (bh K)))) (l10:=l10) (l11:=l11) (l12:=l12) (l13:=some (.str (aw (wd j)))) (st:=st) (nx:=nx) (t:=t) H (X:=ac 13) rfl;have P:=dF (a:=5) (i:=p) (σ:=S4 seed p l7 (some (.str (aw (bh K)))) (some (.int (t:Int))) l10 l11 l12 (some (.str (aw (wd j)))) st nx) (σ₁:=S4 seed p l7 (some (.str (aw (bh K)))) (some (.int (t:Int))) l10 l11 l12 (some (.str (aw (wd j)))) st nx) (ps₀:=az (aE es)) (ps:=az (aE es)) rfl h.pp (eo (aC C (aC (f:=ac 8) (g:=al) (p:=.str (aw (bh K))) rfl rfl)) (show 2<=2^20 by decide)) h.pp (by rw [bZ,dy];exact aW 0x1e84805000011408000021 rfl I);have S:az (aE es)++[.tup [.str (nm j (od t)),.str (aw (bh K))]]=az (aE (es++[(j,od t,K)])):=by
  rw [<-eR,<-hV];rfl
 rw [S]at P
 have J:(aG st p (.list (az (aE (es++[(j,od t,K)]))))).lookup p=some (.list (az (aE (es++[(j,od t,K)])))):=ba;have F:(aG st p (.list (az (aE (es++[(j,od t,K)]))))).lookup 3=some (.list (az (aE es))):=(aL (lW R)).trans h.w;have W:∀i,i≠p->(aG st p (.list (az (aE (es++[(j,od t,K)]))))).lookup i=st.lookup i:=fun i N=>aL N
 have P:ck (aD "list" (ac 5) (ae (bT (ae (ga (au (ai (ac 9) (ab (.int 2)) dj)) (aD "str" (ac 13) al dG) (ac 13)) (ae (ac 8) al))) al) bu) (S4 seed p l7 (some (.str (aw (bh K)))) (some (.int (t:Int))) l10 l11 l12 (some (.str (aw (wd j)))) st nx)=some (.next,S4 seed p l7 (some (.str (aw (bh K)))) (some (.int (t:Int))) l10 l11 l12 (some (.str (aw (wd j)))) (aG st p (.list (az (aE (es++[(j,od t,K)]))))) nx):=P;generalize aG st p (.list (az (aE (es++[(j,od t,K)]))))=st1 at *
 have U:(az (aE (es++[(j,od t,K)]))).getLast?=some (.tup [.str (nm j (od t)),.str (aw (bh K))]):=by
  rw [<-eR,<-hV,zL];rfl
 have B:ai (ai (ac 5) (ca (ab (.int 1)) eE) aH) (ab (.int 0)) aH (S4 seed p l7 (some (.str (aw (bh K)))) (some (.int (t:Int))) l10 l11 l12 (some (.str (aw (wd j)))) st1 nx)=some (.str (nm j (od t)),S4 seed p l7 (some (.str (aw (bh K)))) (some (.int (t:Int))) l10 l11 l12 (some (.str (aw (wd j)))) st1 nx):=
  av (p:=.tup [.str (nm j (od t)),.str (aw (bh K))]) (q:=.int 0) (av (p:=.loc p) (q:=.int (-1)) rfl rfl (qJ (σ:=S4 seed p l7 (some (.str (aw (bh K)))) (some (.int (t:Int))) l10 l11 l12 (some (.str (aw (wd j)))) st1 nx) J U)) rfl mM
 have Q:=rJ G;have M:=zQ (σ:=S4 seed p l7 (some (.str (aw (bh K)))) (some (.int (t:Int))) l10 l11 l12 (some (.str (aw (wd j)))) st1 nx) (j:=3) (l:=3) (rs:=aE es) (x:=nm j (od t)) (y:=aw (bh K)) (e2:=ac 8) rfl B rfl F (show 3<nx by exact Lf E) (cW j H (od t)).2.1 (mX G) Q.1 Q.2 (by rw [dy];exact aW 0xb44000011408000021 rfl I);rw [show aE es++[(nm j (od t),aw (bh K))]=aE (es++[(j,od t,K)])from eR es (j,od t,K)]at M
 refine⟨aG st1 3 (.list (az (aE (es++[(j,od t,K)])))),(aj P).trans ((aj ((bM (aS (p:=.bool false) (av (q:=.none) M rfl rfl) rfl)).trans rfl)).trans rfl),⟨?_,ba,?_,?_,?_,?_,h.pn,h.p5,h.n7,h.z.of ((aL (by decide)).trans (W 0 (by exact(fun Y=>T.elim (fun Z=>aW 0x5080028800008a22 rfl Y Z) (fun Z=>aW 0x1c200800008a22 rfl Y Z)))))⟩,fun i D N=>(aL D).trans (W i N)⟩
 .exact(aL (by decide)).trans ((W 2 (by exact(fun Y=>T.elim (fun Z=>aW 0x5080028800208a22 rfl Y Z) (fun Z=>aW 0x1c200800208a22 rfl Y Z)))).trans h.pc)
 .exact(aL (by decide)).trans ((W 4 (by exact(fun Y=>T.elim (fun Z=>aW 0x5080028800408a22 rfl Y Z) (fun Z=>aW 0x1c200800408a22 rfl Y Z)))).trans h.l)
 .exact(aL R).trans J
 .exact(aL (by decide)).trans ((W 6 (by exact(fun Y=>(eN O).elim (fun Z=>aW 0x6080010800608822 rfl Y Z) (fun Z=>aW 0x18210800608a22 rfl Y Z)))).trans h.d)
 .obtain⟨o,e⟩:=h.c
  exact⟨o,(aL (by decide)).trans ((W 1 (by exact(fun Y=>T.elim (fun Z=>aW 0x5080028800108a22 rfl Y Z) (fun Z=>aW 0x1c200800108a22 rfl Y Z)))).trans e)⟩
noncomputable abbrev UF:SR:=(ar (ck (aD "list" (ac 6) (ae (bT (ae (ga (au (ai (ac 9) (ab (.int 2)) dj)) (aD "str" (aI 1) al dG) (aI 1)) (ae (ac 8) al))) al) bu))
 (ar (dn (au (ai (bB 274 rP (ac 4) (ae (ai (ai (ac 6) (ca (ab (.int 1)) eE) aH) (ab (.int 0)) aH) (ae (ac 8) al))) (ab .none) dI)) (ar (bq (ab .none))
 aq) aq)
 aq))
theorem LC{i t K:Nat}(I:i<15)(H:K<10^10)(h:I4 es es ds p st nx)(J:ds.length<=80)(E:st.lookup 1=some (.cell (some (.str (aw (wd i)))))):
  ∃U,UF (S4 seed p l7 (some (.str (aw (bh K)))) (some (.int (t:Int))) l10 l11 l12 l13 st nx)=some (.next,S4 seed p l7 (some (.str (aw (bh K)))) (some (.int (t:Int))) l10 l11 l12 l13 U nx) /\
   I4 es es (ds++[(i,od t,K)]) p U nx:=by
 have M:=h.p5;have D:=h.n7;have P:p≠4:=by exact fun Z=>M.elim (fun W=>aW 0x5080028902000822 rfl Z W) (fun W=>aW 0x1c200902000822 rfl Z W)
 have Q:p≠6:=by exact fun Z=>M.elim (fun W=>aW 0x5080020982000a22 rfl Z W) (fun W=>aW 0x1c200982000822 rfl Z W)
 have C:=Gn (seed:=seed) (p:=p) (l7:=l7) (l8:=some (.str (aw (bh K)))) (l10:=l10) (l11:=l11) (l12:=l12) (l13:=l13) (st:=st) (nx:=nx) (t:=t) I (X:=aI 1) (bS (σ:=S4 seed p l7 (some (.str (aw (bh K)))) (some (.int (t:Int))) l10 l11 l12 l13 st nx) E);have R:=dF (a:=6) (i:=6) (σ:=S4 seed p l7 (some (.str (aw (bh K)))) (some (.int (t:Int))) l10 l11 l12 l13 st nx) (σ₁:=S4 seed p l7 (some (.str (aw (bh K)))) (some (.int (t:Int))) l10 l11 l12 l13 st nx) (ps₀:=az (aE ds)) (ps:=az (aE ds)) rfl h.d (eo (aC C (aC (f:=ac 8) (g:=al) (p:=.str (aw (bh K))) rfl rfl)) (show 2<=2^20 by decide)) h.d (by rw [bZ,dy];exact aW 0x1e84805000011408000021 rfl J);have T:az (aE ds)++[.tup [.str (nm i (od t)),.str (aw (bh K))]]=az (aE (ds++[(i,od t,K)])):=by
  rw [<-eR,<-hV];rfl
 rw [T]at R
 have N:(aG st 6 (.list (az (aE (ds++[(i,od t,K)]))))).lookup 6=some (.list (az (aE (ds++[(i,od t,K)])))):=ba;have G:(aG st 6 (.list (az (aE (ds++[(i,od t,K)]))))).lookup 4=some (.list (az (aE ds))):=(aL (by decide)).trans h.l;have Y:∀k,k≠6->(aG st 6 (.list (az (aE (ds++[(i,od t,K)]))))).lookup k=st.lookup k:=fun k F=>aL F
 have R:ck (aD "list" (ac 6) (ae (bT (ae (ga (au (ai (ac 9) (ab (.int 2)) dj)) (aD "str" (aI 1) al dG) (aI 1)) (ae (ac 8) al))) al) bu) (S4 seed p l7 (some (.str (aw (bh K)))) (some (.int (t:Int))) l10 l11 l12 l13 st nx)=some (.next,S4 seed p l7 (some (.str (aw (bh K)))) (some (.int (t:Int))) l10 l11 l12 l13 (aG st 6 (.list (az (aE (ds++[(i,od t,K)]))))) nx):=R;generalize aG st 6 (.list (az (aE (ds++[(i,od t,K)]))))=st1 at *
 have V:(az (aE (ds++[(i,od t,K)]))).getLast?=some (.tup [.str (nm i (od t)),.str (aw (bh K))]):=by
  rw [<-eR,<-hV,zL];rfl
 have B:ai (ai (ac 6) (ca (ab (.int 1)) eE) aH) (ab (.int 0)) aH (S4 seed p l7 (some (.str (aw (bh K)))) (some (.int (t:Int))) l10 l11 l12 l13 st1 nx)=some (.str (nm i (od t)),S4 seed p l7 (some (.str (aw (bh K)))) (some (.int (t:Int))) l10 l11 l12 l13 st1 nx):=
  av (p:=.tup [.str (nm i (od t)),.str (aw (bh K))]) (q:=.int 0) (av (p:=.loc 6) (q:=.int (-1)) rfl rfl (qJ (σ:=S4 seed p l7 (some (.str (aw (bh K)))) (some (.int (t:Int))) l10 l11 l12 l13 st1 nx) N V)) rfl mM
 have S:=rJ H;have O:=zQ (σ:=S4 seed p l7 (some (.str (aw (bh K)))) (some (.int (t:Int))) l10 l11 l12 l13 st1 nx) (j:=4) (l:=4) (rs:=aE ds) (x:=nm i (od t)) (y:=aw (bh K)) (e2:=ac 8) rfl B rfl G (show 4<nx by exact aW 0x10210800708021 rfl D) (cW i I (od t)).2.1 (mX H) S.1 S.2 (by rw [dy];exact aW 0xb44000011408000021 rfl J);rw [show aE ds++[(nm i (od t),aw (bh K))]=aE (ds++[(i,od t,K)])from eR ds (i,od t,K)]at O
 refine⟨aG st1 4 (.list (az (aE (ds++[(i,od t,K)])))),(aj R).trans ((aj ((bM (aS (p:=.bool false) (av (q:=.none) O rfl rfl) rfl)).trans rfl)).trans rfl),⟨?_,?_,ba,?_,?_,?_,h.pn,h.p5,h.n7,h.z.of ((aL (by decide)).trans (Y 0 (by exact(fun Z=>wN 0x182008a21 rfl Z))))⟩⟩
 .exact(aL (by decide)).trans ((Y 2 (by exact(fun Z=>wN 0x182208a21 rfl Z))).trans h.pc)
 .exact(aL (by decide)).trans ((Y 3 (by exact(fun Z=>wN 0x182308a21 rfl Z))).trans h.w)
 .exact(aL P).trans ((Y p Q).trans h.pp)
 .exact(aL (by decide)).trans N
 .obtain⟨o,e⟩:=h.c
  exact⟨o,(aL (by decide)).trans ((Y 1 (by exact(fun Z=>wN 0x182108a21 rfl Z))).trans e)⟩
end
noncomputable def xf(P:Params):SR:=
 (ar (dn (kG (au (ai (bB 274 px (ac 3) al) (ac 5) pA)) (kG (au (ai (bB 274 mA (ac 3) al) (dq 100 1 (cy (ac 5)) (ap 0) ff (ai (ac 0) (ab (.int 0)) aH)) pA)) (kG (au (ai (bB 274 px (ac 4) al) (ac 6) pA)) lG))) (ar (bq (ab .none))
 aq) aq)
 (ar (dn (au (ai (ac 5) (bH al) fE)) (ar (bq (ac 4))
 aq) aq)
 (ar (ck (aD "list" (bB 274 px (ac 3) al) (ae (bT (ae (ab (.str "abc")) (ae (ab (.str "")) al))) al) bu))
 (ar (am (ai (bB 274 mA (ac 3) al) (ab (.int 0)) aH) (ap 7))
 (ar (am (aD "str" (ac 7) al cR) (dQ 1))
 (ar (am (ga (au (ai (ac 7) (aI 1) fE)) (aD "str" (aI 1) al dG) (aI 1)) (ap 10))
 (ar (am (bB 274 pZ (ac 3) (ae (ac 10) al)) (ap 11))
 (ar (dn (au (ai (ac 11) (dq 100 1 (cy (ac 5)) (ap 0) (au (ai (aD "str" (ai (ac 0) (ab (.int 0)) aH) al cR) (aI 1) fE)) (ai (ac 0) (ab (.int 1)) aH)) pA)) (ar (bq (ab .none))
 aq) aq)
 (ar (jl 274 wo (ac 3) (ac 10))
 (ar (am (dq 100 1 (cy (ac 5)) (ap 0) (au (ai (aD "str" (ai (ac 0) (ab (.int 0)) aH) al cR) (aI 1) pA)) (ac 0)) (ap 5))
 (ar (am (aY xV (ae (aI 1) (ae (ai (ac 2) (ai (ai (ac 1) (ac 9) bk) (ab (.int 5)) dj) aH) al))) (ap 12))
 (ar (dn (au (ai (ac 12) (bH al) fE)) (ar (bq (ab .none))
 aq) aq)
 (ar (am (ai (ai (ab (.str "0__")) (aQ sr (ae (aQ Jd (ae (dq 100 1 (cy (ac 11)) (ap 0) ff (aY (zr P) (ae (ac 0) al))) al)) al)) bk) (ab (.str " ")) bk) (ap 8))
 (ar (dn (au (ai (ab (.bool true)) (ac 12) Rf)) (ar (er 100 (cy (aY tV (ae (aI 1) (ae (ac 12) (ae (ai (ac 1) (ac 9) bk) al))))) (ap 13) (ar (ck (aD "list" (ac 5) (ae (bT (ae (ga (au (ai (ac 9) (ab (.int 2)) dj)) (aD "str" (ac 13) al dG) (ac 13)) (ae (ac 8) al))) al) bu))
 (ar (dn (au (ai (bB 274 rP (ac 3) (ae (ai (ai (ac 5) (ca (ab (.int 1)) eE) aH) (ab (.int 0)) aH) (ae (ac 8) al))) (ab .none) dI)) (ar (bq (ab .none))
 aq) aq)
 aq)) aq)
 aq) (ar (ck (aD "list" (ac 6) (ae (bT (ae (ga (au (ai (ac 9) (ab (.int 2)) dj)) (aD "str" (aI 1) al dG) (aI 1)) (ae (ac 8) al))) al) bu))
 (ar (dn (au (ai (bB 274 rP (ac 4) (ae (ai (ai (ac 6) (ca (ab (.int 1)) eE) aH) (ab (.int 0)) aH) (ae (ac 8) al))) (ab .none) dI)) (ar (bq (ab .none))
 aq) aq)
 aq)))
 aq))))))))))))))
theorem BV:∀{l:List Nat} {k:Nat},k∈l->k<=l.sum
 |a::l,k,h=>by
  rw [List.sum_cons];rcases cC.mp h with rfl|h
  .exact Ek
  .have:=BV h;exact cq 0x8040100000840000021 rfl this
theorem Oa{i:Nat}{Z:List En}(Y:iM Z<=20000):(cg i Z).sum<=20000/\∀k∈cg i Z,k<=20000:=by
 have h:=vz i Z;have W:1<=2^fj i:=Nat.one_le_two_pow;have X:(cg i Z).sum<=(cg i Z).sum*2^fj i:=vr _ W;exact⟨by exact iF 0x13880a30002200c00080020040210413880a000023 rfl Y h X,fun k V=>by have:=BV V;exact su 0x4e202900008c040002200c00080020040210413880a000024 rfl Y h X this⟩
noncomputable def RN(i t:Nat)(Y W Z X:List En):Prop:=
 (0<fj i->∃k,k<fj i/\Z=gF i Y++[((gf i k).1,od t,(cg i Y).sum)]++[((gf i k).2,od t,(cg i Y).sum)]/\X=W)/\(fj i=0->Z=gF i Y/\X=W++[(i,od t,(cg i Y).sum)])
theorem LJ(i:Nat)(Z:List En):(gF i Z).length<=Z.length:=List.length_filter_le _ _
theorem DU(P:Params){seed:Int}{p t:Nat}{l7 l8 l10 l11 l12 l13:Option PV}{st:List (Nat×AO)}{Z:Nat}{i:Nat}{u:Bool}{k:Nat}{Y ds:List En}
  (h:I4 ((i,u,k)::Y) ((i,u,k)::Y) ds p st Z) (R:rX ((i,u,k)::Y)) (hd:rX ds) (hb:iM ((i,u,k)::Y)<=20000):
  ∃x y3 p' S b x2 x1 z2 z1 z0 a,xf P (S4 seed p l7 l8 (some (.int (t:Int))) l10 l11 l12 l13 st Z)=some (.next,S4 seed p' x2 x1 (some (.int (t:Int))) z2 z1 z0 a S b)/\I4 x x y3 p' S b/\RN i t ((i,u,k)::Y) ds x y3:=by
 obtain⟨T,_⟩:=R.2 _ (.head _);have T:i<15:=T;obtain⟨z6,x5⟩:=Oa (i:=i) hb;have hK:(cg i ((i,u,k)::Y)).sum<10^10:=by exact AB z6
 have x4:(cg i ((i,u,k)::Y)).length<=90:=by
  have h1:(cg i ((i,u,k)::Y)).length<=((i,u,k)::Y).length:=by
   unfold cg;rw [db];exact List.length_filter_le _ _
  have:=R.1;exact bD 0x2d10000043c204000840000022 rfl h1 this
 generalize z7:((i,u,k)::Y:List En)=es at *
 have x3:es≠[]:=by rw [<-z7];exact(fun h=>EG h)
 obtain⟨s1,e1,g1⟩:=SY (seed:=seed) (l7:=l7) (l8:=l8) (l9:=some (.int (t:Int))) (l10:=l10) (l11:=l11) (l12:=l12) (l13:=l13) h R hd (f:=(ar (bq (ab .none)) aq));have h1:=h.ag g1 (eX Z 4);obtain⟨s2,e2,g2⟩:=Uf (seed:=seed) (l7:=l7) (l8:=l8) (l9:=some (.int (t:Int))) (l10:=l10) (l11:=l11) (l12:=l12) (l13:=l13) h1 R x3 (f:=(ar (bq (ac 4)) aq));have h2:=h1.ag g2 (eX _ 1);obtain⟨s3,e3,g3⟩:=Up (seed:=seed) (l7:=l7) (l8:=l8) (l9:=some (.int (t:Int))) (l10:=l10) (l11:=l11) (l12:=l12) (l13:=l13) h2 R;have h3:=h2.ag g3 (eX _ 1);obtain⟨s4,e4,g4⟩:∃S,am (ai (bB 274 mA (ac 3) al) (ab (.int 0)) aH) (ap 7) (S4 seed p l7 l8 (some (.int (t:Int))) l10 l11 l12 l13 s3 (Z+4+1+1))=some (.next,S4 seed p (some (.str (nm i u))) l8 (some (.int (t:Int))) l10 l11 l12 l13 S (Z+4+1+1+1))/\Ag s3 (Z+4+1+1) S:=by
  subst z7;exact TN h3 R
 have O:=h3.ag g4 (eX _ 1);obtain⟨s5,e5,v,c5⟩:=Uq (seed:=seed) (l8:=l8) (l9:=some (.int (t:Int))) (l10:=l10) (l11:=l11) (l12:=l12) (l13:=l13) (u:=u) T O;have z4:=h.p5;have h5:I4 es es ds p s5 (Z+4+1+1+1):=⟨(v 2 (by decide)).trans O.pc,(v 3 (by decide)).trans O.w,(v 4 (by decide)).trans O.l,(v p (by exact(fun U=>z4.elim (fun F=>aW 0x5080028842000822 rfl U F) (fun F=>aW 0x1c200842000822 rfl U F)))).trans O.pp,(v 6 (by decide)).trans O.d,⟨_,c5⟩,O.pn,O.p5,O.n7,O.z.of (v 0 (by decide))⟩;have e6:=TZ (seed:=seed) (p:=p) (l8:=l8) (l9:=some (.int (t:Int))) (l10:=l10) (l11:=l11) (l12:=l12) (l13:=l13) (nx:=Z+4+1+1+1) (u:=u) T c5;obtain⟨s7,e7,g7,q7⟩:=Ue (seed:=seed) (l7:=some (.str (nm i u))) (l8:=l8) (l9:=some (.int (t:Int))) (l11:=l11) (l12:=l12) (l13:=l13) (u:=!u) T h5 R;have h7:=h5.ag g7 (eX _ 1);have c7:=(g7 1 (by exact(aW 0x42108424080021084108420 rfl))).trans c5;obtain⟨s8,e8,g8⟩:=Uc (seed:=seed) (l7:=some (.str (nm i u))) (l8:=l8) (l9:=some (.int (t:Int))) (l10:=some (.str (nm i (!u)))) (l12:=l12) (l13:=l13) T h7 R c7 q7 (gQ _) (f:=(ar (bq (ab .none)) aq));have h8:=h7.ag g8 (eX _ 1);have c8:=(g8 1 (by exact(aW 0x210842108481000421084108420 rfl))).trans c7;have q8:=(g8 (Z+4+1+1+1) (by exact(aW 0x210842108481000421084108421090200084210420 rfl))).trans q7;obtain⟨s9,e9,g9,h9⟩:=Ua (seed:=seed) (l7:=some (.str (nm i u))) (l8:=l8) (l9:=some (.int (t:Int))) (l11:=some (.loc (Z+4+1+1+1))) (l12:=l12) (l13:=l13) (u:=!u) T h8 R (by exact(fun U=>z4.elim (fun F=>aW 0x50800288c2000822 rfl U F) (fun F=>aW 0x1c2008c2000822 rfl U F)));have c9:=(g9 1 (by decide)).trans c8;have q9:=(g9 (Z+4+1+1+1) (by exact(fun U=>aW 0xc2108421090200084210821 rfl U))).trans q8;obtain⟨v7,v2,y0,z9⟩:=Tg (seed:=seed) (l7:=some (.str (nm i u))) (l8:=l8) (l9:=some (.int (t:Int))) (l10:=some (.str (nm i (!u)))) (l11:=some (.loc (Z+4+1+1+1))) (l12:=l12) (l13:=l13) T h9 R c9;have y5:=(y0 1 (by exact(aW 0x1084210842109020008421084108420 rfl))).trans c9;have x0:=(y0 (Z+4+1+1+1) (by exact(aW 0x1084210842109020008421084108421090200084210420 rfl))).trans q9;obtain⟨v6,v1,y,e⟩:=SJ (seed:=seed) (l7:=some (.str (nm i u))) (l8:=l8) (t:=(t:Int)) (l10:=some (.str (nm i (!u)))) (l11:=some (.loc (Z+4+1+1+1))) (l12:=l12) (l13:=l13) T z9 y5;have w2:=z9.ag y (eX _ 1);have v4:=(y 1 (by exact(aW 0x8421084210842120400108421084108420 rfl))).trans y5;have j:=(y (Z+4+1+1+1) (by exact(aW 0x8421084210842120400108421084108421090200084210420 rfl))).trans x0;obtain⟨v5,v0,I⟩:=Si (seed:=seed) (p:=Z+4+1+1+1+1+1) (l7:=some (.str (nm i u))) (l8:=l8) (l9:=some (.int (t:Int))) (l10:=some (.str (nm i (!u)))) (l11:=some (.loc (Z+4+1+1+1))) (l13:=l13) T e (gQ _) (f:=(ar (bq (ab .none)) aq));have w1:=w2.ag I (eX _ 1);have v3:=(I 1 (by exact(aW 0x42108421084210842408002108421084108420 rfl))).trans v4;have m:=(I (Z+4+1+1+1) (by exact(aW 0x42108421084210842408002108421084108421090200084210420 rfl))).trans j;have y9:=(I (Z+4+1+1+1+1+1+1) (by exact(aW 0x8421084210842108481000421084210821084210842108481000421084210420 rfl))).trans e;obtain⟨X,w9,A⟩:=QR (seed:=seed) (p:=Z+4+1+1+1+1+1) (l7:=some (.str (nm i u))) (l8:=l8) (l9:=some (.int (t:Int))) (l10:=some (.str (nm i (!u)))) (l12:=some (.loc (Z+4+1+1+1+1+1+1))) (l13:=l13) (nx:=Z+4+1+1+1+1+1+1+1+1) P x5 x4 z6 m (by exact(aW 0x210842108421084210848100042108421084108421090200084210420 rfl));have J:=w1.ag A (eX _ 1);have y4:=(A 1 (by exact(aW 0x210842108421084210848100042108421084108420 rfl))).trans v3;have D:=(A (Z+4+1+1+1+1+1+1) (by exact(aW 0x42108421084210842109020008421084210821084210842108481000421084210420 rfl))).trans y9;have z3:=LJ i es;have z5:=R.1;have c:∀{r},(dn (au (ai (ab (.bool true)) (ac 12) Rf)) (ar (er 100 (cy (aY tV (ae (aI 1) (ae (ac 12) (ae (ai (ac 1) (ac 9) bk) al))))) (ap 13) PA aq) aq) UF) (S4 seed (Z+4+1+1+1+1+1) (some (.str (nm i u))) (some (.str (aw (bh (cg i es).sum)))) (some (.int (t:Int))) (some (.str (nm i (!u)))) (some (.loc (Z+4+1+1+1))) (some (.loc (Z+4+1+1+1+1+1+1))) l13 X (Z+4+1+1+1+1+1+1+1+1+1))=some (.next,r)->xf P (S4 seed p l7 l8 (some (.int (t:Int))) l10 l11 l12 l13 st Z)=some (.next,r):=fun hr=>
  (aj e1).trans ((aj e2).trans ((aj e3).trans ((aj e4).trans ((aj e5).trans ((aj e6).trans ((aj e7).trans ((aj e8).trans ((aj e9).trans ((aj v2).trans ((aj v1).trans ((aj v0).trans ((aj w9).trans ((aj hr).trans rfl)))))))))))))
 have N:=Tc (seed:=seed) (p:=Z+4+1+1+1+1+1) (l7:=some (.str (nm i u))) (l8:=some (.str (aw (bh (cg i es).sum)))) (l9:=some (.int (t:Int))) (l10:=some (.str (nm i (!u)))) (l11:=some (.loc (Z+4+1+1+1))) (l13:=l13) (nx:=Z+4+1+1+1+1+1+1+1+1+1) T D
 by_cases h0:0<fj i
 .rw [dO h0]at N
  obtain⟨W,H,Oj⟩:=OK i T h0 (seed+t);obtain⟨ha,x6,_,_⟩:=Iq i T W H;generalize hQ:Z+4+1+1+1+1+1+1=Q at *
  generalize x8:Z+4+1+1+1+1+1=PP at *
  generalize hM:Q+1+1+1=M at *
  have x7:Q<M:=by exact bD 0x200002108021084210004210821 rfl hM
  let G:Option PV->List (Nat×AO)->Nat->AS:=fun l13 st k=>S4 seed PP (some (.str (nm i u))) (some (.str (aw (bh (cg i es).sum)))) (some (.int (t:Int))) (some (.str (nm i (!u)))) (some (.loc (Z+4+1+1+1))) (some (.loc Q)) l13 st k
  have v8:PP<M:=J.pn;have y1:dH (fun i=>[Q].idxOf i) [.str (aw (wd i)),.loc Q,.int (seed+t)]=[.str (aw (wd i)),.loc 0,.int (seed+t)]:=by
   show [PV.str (aw (wd i)),.loc ([Q].idxOf Q),.int (seed+t)]=_;rw [show [Q].idxOf Q=0 by simp]
  have V:=dp (C:=tV) (fs:=ae (aI 1) (ae (ac 12) (ae (ai (ac 1) (ac 9) bk) al))) (ids:=[Q]) (os:=[.list (Km (ou i))]) (ps:=[.str (aw (wd i)),.loc Q,.int (seed+t)]) (p:=.loc 1) (ns:=[.list [.str (aw (wd (gf i W).1)),.str (aw (wd (gf i W).2))]])
   (σ:=G l13 X M)
   (σ₁:=G l13 X M)
   (aC (bS (σ:=G l13 X M) y4) (aC (f:=ac 12) (p:=.loc Q) rfl (aC (f:=ai (ac 1) (ac 9) bk) (g:=al) (p:=.int (seed+t)) (av rfl rfl rfl) rfl)))
   rfl (by show [X.lookup Q]=_;rw [D];rfl) (fun ao h=>by rw [cJ.mp h];exact Mf _) (pV x7 (by simp [iu,bA,eZ])) (by rw [y1];exact Oj) rfl rfl (fun ao h=>by rw [cJ.mp h];rfl)
  have V:aY tV (ae (aI 1) (ae (ac 12) (ae (ai (ac 1) (ac 9) bk) al))) (G l13 X M)=some (.loc M,G l13 ((M,.list [.str (aw (wd (gf i W).1)),.str (aw (wd (gf i W).2))])::aG X Q (.list (Km (ou i)))) (M+1)):=V;have w5:Ag X M ((M,.list [.str (aw (wd (gf i W).1)),.str (aw (wd (gf i W).2))])::aG X Q (.list (Km (ou i)))):=Ag.new D;have B:=J.ag w5 (eX _ 1);have E:((M,AO.list [.str (aw (wd (gf i W).1)),.str (aw (wd (gf i W).2))])::aG X Q (.list (Km (ou i)))).lookup M=some (.list [.str (aw (wd (gf i W).1)),.str (aw (wd (gf i W).2))]):=cm;generalize ((M,AO.list [.str (aw (wd (gf i W).1)),.str (aw (wd (gf i W).2))])::aG X Q (.list (Km (ou i))))=s at *
  have z8:M≠3:=by have:=J.n7;exact fun U=>iF 0xc2300823004210842200842104400842010821004210842108424080021084210824 rfl x8 hQ hM U
  obtain⟨y7,w7,w0,w4⟩:=wh (seed:=seed) (l7:=some (.str (nm i u))) (t:=t) (K:=(cg i es).sum) (l10:=some (.str (nm i (!u)))) (l11:=some (.loc (Z+4+1+1+1))) (l12:=some (.loc Q)) ha hK B (by exact(bD 0x2810000043c204000840000022 rfl z3 z5));have q:=(w4 M z8 (by exact(fun U=>cq 0x200822004210842100842104200840010823 rfl hQ hM U))).trans E;obtain⟨y6,w6,x9,w3⟩:=wh (seed:=seed) (l7:=some (.str (nm i u))) (t:=t) (K:=(cg i es).sum) (l10:=some (.str (nm i (!u)))) (l11:=some (.loc (Z+4+1+1+1))) (l12:=some (.loc Q)) x6 hK w0 (by rw [jL];simp only [ge,qP];exact bD 0x14081080020043c204000840000022 rfl z3 z5);have y8:=(w3 M z8 (by exact(fun U=>cq 0x200822004210842100842104200840010823 rfl hQ hM U))).trans q;have y2:=(iR (n:=100) (tg:=ap 13) (f:=PA) (o:=aq) V E).trans ((gR (n:=99) (σ:=G l13 s (M+1)) E rfl rfl w7).trans ((gR (n:=98) (σ:=G (some (.str (aw (wd (gf i W).1)))) y7 (M+1)) q rfl rfl w6).trans (mI (n:=97) (σ:=G (some (.str (aw (wd (gf i W).2)))) y6 (M+1)) y8 rfl)));exact⟨_,_,_,_,_,_,_,_,_,_,_,c ((cK N).trans ((aj (y2.trans rfl)).trans rfl)),x9,fun _=>⟨W,H,rfl,rfl⟩,fun h=>absurd h (by exact(fun U=>Im h0 h))⟩
 .rw [ix h0]at N
  obtain⟨s,w8,B⟩:=LC (seed:=seed) (l7:=some (.str (nm i u))) (t:=t) (l10:=some (.str (nm i (!u)))) (l11:=some (.loc (Z+4+1+1+1))) (l12:=some (.loc (Z+4+1+1+1+1+1+1))) (l13:=l13) T hK J (by have:=hd.1;exact aW 0xa04000010f08000021 rfl this) y4;exact⟨_,_,_,_,_,_,_,_,_,_,_,c ((bM N).trans w8),B,fun h=>absurd h h0,fun _=>⟨rfl,rfl⟩⟩
noncomputable def gW(Z:List En):Prop:=∀e∈Z,e.1<15/\e.2.2<10^10
theorem tA{a c:Nat}(h:a<c):2*2^a<=2^c:=by
 rw [<-Nat.pow_succ'];exact kd (by decide) h
theorem wc{i:Nat}{Z:List En}(h:gW Z):gW (gF i Z):=fun e Y=>h e (List.mem_filter.mp Y).1
theorem FI{i t:Nat}{u:Bool}{k:Nat}{Z J V T:List En}(h:RN i t ((i,u,k)::Z) J V T)(F:gW ((i,u,k)::Z))(x:gW J)(D:iM ((i,u,k)::Z)<=20000):
  pB V<pB ((i,u,k)::Z)/\pB V+T.length<=pB ((i,u,k)::Z)+J.length/\gW V/\gW T/\iM V<=20000/\∀P,val P V+val P T=val P ((i,u,k)::Z)+val P J:=by
 have G:i<15:=(F _ (.head _)).1;obtain⟨S,_⟩:=Oa (i:=i) D;have W:=FS (i:=i) (u:=u) (k:=k) (es:=Z);have N:=vz i ((i,u,k)::Z);have O:=fun P=>vi P i ((i,u,k)::Z)
 generalize ((i,u,k)::Z:List En)=es at *
 have j:=Hp i
 by_cases v:0<fj i
 .obtain⟨Y,y,rfl,rfl⟩:=h.1 v
  obtain⟨n,E,q,r⟩:=Iq i G Y y;have H:=tA q;have I:=tA r;have U:wE i=2*2^fj i-1:=by unfold wE;rw [Nat.pow_succ']
  have Q:wE (gf i Y).1=2*2^fj (gf i Y).1-1:=by unfold wE;rw [Nat.pow_succ']
  have R:wE (gf i Y).2=2*2^fj (gf i Y).2-1:=by unfold wE;rw [Nat.pow_succ']
  have s:pB (gF i es++[((gf i Y).1,od t,(cg i es).sum)]++[((gf i Y).2,od t,(cg i es).sum)])=pB (gF i es)+wE (gf i Y).1+wE (gf i Y).2:=by
   rw [CW,CW];rfl
  have z:1<=2^fj i:=Nat.one_le_two_pow;have A:1<=2^fj (gf i Y).1:=Nat.one_le_two_pow;have B:1<=2^fj (gf i Y).2:=Nat.one_le_two_pow;refine⟨by rw [s];exact rV [_,_,_,_,_,_,_,_,_,_,_] [] 0x2024070000210425008610a8021046010c21400420900218426008515012010500380413002014480280430048018043004400800010029 rfl W H I U Q R (aV (DY z)) (aV (DY A)) (aV (DY B)),by rw [s];exact rV [_,_,_,_,_,_,_,_,_,_,_,_] [] 0x2c0200960480e00004210025008610a8021046010c21400420900218426008515012010500380413002014480280430048018043004400800010029 rfl W H I U Q R (aV (DY z)) (aV (DY A)) (aV (DY B)),fun e X=>?_,x,?_,fun P=>?_⟩
  .rcases ku.mp X with X|X
   .rcases ku.mp X with X|X
    .exact wc F e X
    .rw [cJ.mp X];exact⟨n,show(cg i es).sum<10^10 by exact AB S⟩
   .rw [cJ.mp X];exact⟨E,show(cg i es).sum<10^10 by exact AB S⟩
  .rw [Cw,Cw]
   have M:iM [((gf i Y).1,od t,(cg i es).sum)]=(cg i es).sum*2^fj (gf i Y).1:=by rfl
   have C:iM [((gf i Y).2,od t,(cg i es).sum)]=(cg i es).sum*2^fj (gf i Y).2:=by rfl
   rw [M,C];have o:(cg i es).sum*(2*2^fj (gf i Y).1)<=(cg i es).sum*2^fj i:=qF _ H;have p:(cg i es).sum*(2*2^fj (gf i Y).2)<=(cg i es).sum*2^fj i:=qF _ I;have l:(cg i es).sum*(2*2^fj (gf i Y).1)=2*((cg i es).sum*2^fj (gf i Y).1):=GP ..;have m:(cg i es).sum*(2*2^fj (gf i Y).2)=2*((cg i es).sum*2^fj (gf i Y).2):=GP ..;exact Tr 0x13880a6014010084011802190028940218c02888040002200c00080020040210813880a000046 rfl D N o p l m
  .rw [uK,uK]
   have M:val P [((gf i Y).1,od t,(cg i es).sum)]=((cg i es).sum:Int)*dD P (gf i Y).1:=by simp [val]
   have C:val P [((gf i Y).2,od t,(cg i es).sum)]=((cg i es).sum:Int)*dD P (gf i Y).2:=by simp [val]
   rw [M,C];have:=O P;rw [Ry P i G Y y,Int.mul_add]at this
   exact cX (rV [] [_,_,_,_,_] 0x110340888120280204212023409014080812821 rfl this) (rV [] [_,_,_,_,_] 0x110240500408422206812023409014080812a21 rfl this)
 .have w:fj i=0:=by exact bY (aW 0x80000800009021 rfl v) (aW 0x8020 rfl)
  obtain⟨rfl,rfl⟩:=h.2 w;have U:wE i=1:=by unfold wE;rw [w]
  refine⟨by exact cq 0x400002108420144400800010022 rfl W U,by rw [jL];simp only [ge,qP];exact iF 0xc0200821180400080108420144400800010022 rfl W U,wc F,fun e X=>?_,by exact cq 0x4e2028400080020040210413880a000022 rfl D N,fun P=>?_⟩
  .rcases ku.mp X with X|X
   .exact x e X
   .rw [cJ.mp X];exact⟨G,show(cg i es).sum<10^10 by exact AB S⟩
  .rw [uK]
   have M:val P [(i,od t,(cg i es).sum)]=((cg i es).sum:Int)*dD P i:=by simp [val]
   rw [M];have:=O P;exact cX (UO 0x3409020a06810102404480a00812821 rfl this) (UO 0x140d020204340902404480a00812a21 rfl this)
theorem EO(P:Params){seed:Int}{p:Nat}{l7 l8 l9 l10 l11 l12 l13:Option PV}{st:List (Nat×AO)}{Y:Nat}{W:List En}(h:I4 [] [] W p st Y)(T:rX W):
  ∃Z,xf P (S4 seed p l7 l8 l9 l10 l11 l12 l13 st Y)=some (.ret (.hdr 274 4),Z)/\Z.st.lookup 4=some (.list (az (aE W)))/\Z.st.lookup 0=st.lookup 0:=by
 have X:=h.n7;obtain⟨O,R,g1⟩:=SY (seed:=seed) (l7:=l7) (l8:=l8) (l9:=l9) (l10:=l10) (l11:=l11) (l12:=l12) (l13:=l13) h ⟨by decide,fun e U=>by cases U⟩ T (f:=(ar (bq (ab .none)) aq));have V:=h.ag g1 (eX Y 4);obtain⟨Q,S,g2⟩:=Ta (seed:=seed) (l7:=l7) (l8:=l8) (l9:=l9) (l10:=l10) (l11:=l11) (l12:=l12) (l13:=l13) V (f:=aq);exact⟨_,(aj R).trans (aR S),(g2 4 (by exact(aW 0x20400110210800708021 rfl X))).trans V.l,(g2 0 (by exact(aW 0x20400100210800708021 rfl X))).trans (g1 0 (by exact(aW 0x210800708021 rfl X)))⟩
theorem NV(P:Params){seed:Int}{o:SR}:∀(n t:Nat) (Q R:List En) (p:Nat) (S T H W X Y Z:Option PV) (st:List (Nat×AO)) (O:Nat),I4 Q Q R p st O->pB Q<n->pB Q+R.length<=30->gW Q->gW R->iM Q<=20000->
  ∃U V,jK (ap 9) (xf P) o (sy (t:Int) n) (S4 seed p S T H W X Y Z st O)=some (.ret (.hdr 274 4),V)/\V.st.lookup 4=some (.list (az (aE U)))/\Z0 V.st/\U.length<=30/\gW U/\∀P,val P U=val P Q+val P R
 |0,_,_,_,_,_,_,_,_,_,_,_,_,_,_,G,_,_,_,_=>absurd G (fg _)
 |n+1,t,[],R,p,S,T,H,W,X,Y,Z,st,O,h,G,M,x,J,w=>by
  have I:R.length<=30:=by exact bD 0xf0420007c10800010021 rfl M
  obtain⟨V,e,g,z⟩:=EO P (seed:=seed) (l7:=S) (l8:=T) (l9:=some (.int (t:Int))) (l10:=W) (l11:=X) (l12:=Y) (l13:=Z) h ⟨by exact aW 0x3c200000f82000021 rfl I,J⟩;exact⟨R,V,wv (σ₁:=S4 seed p S T (some (.int (t:Int))) W X Y Z st O) rfl e,g,h.z.of z,by exact aW 0x1e080000f82000021 rfl I,J,fun P=>by simp [val]⟩
 |n+1,t,(i,u,k)::N,R,p,S,T,H,W,X,Y,Z,st,O,h,G,M,x,J,w=>by
  have y:=Bq ((i,u,k)::N);obtain⟨v,s,f,F,E,c,d,A,B,C,D,e,h',ht⟩:=DU P (seed:=seed) (t:=t) (l7:=S) (l8:=T) (l10:=W) (l11:=X) (l12:=Y) (l13:=Z) h ⟨by exact cq 0x7841000100040007c10800010022 rfl M y,x⟩ ⟨by exact bD 0x1e1020007c10800010021 rfl M,J⟩ w;obtain⟨i1,i2,i3,i4,a,b⟩:=FI ht x J w;obtain⟨U,V,e',j,r,l,m,q⟩:=NV P (seed:=seed) (o:=o) n (t+1) v s f c d (some (.int (t:Int))) A B C D F E h' (by exact(cq 0x201002100040084210804000422 rfl G i1)) (by exact(iF 0x782300802004200004300802007c10800010022 rfl M i2)) i3 i4 a;refine⟨U,V,(cZ (σ₁:=S4 seed p S T (some (.int (t:Int))) W X Y Z st O) rfl e).trans ?_,j,r,l,m,fun P=>(q P).trans (b P)⟩;rw [show((t:Int)+1)=((t+1:Nat):Int)by exact cX (aW 0x8400124214800912020 rfl) (aW 0x852002441080024a020 rfl)];exact e'
noncomputable def Dr(P:Params):bz:=bW Cq xP yx (fun _=>[]) [] (fun n=>yg rP px mA pZ wo xV (zr P) tV 100 n)
theorem Nc(s:PV)(o:AO):cH Cq xP yx ([.loc 0,s]++[]) ([o]++[])=⟨[cL 0,some s,none,none,none,none,none,none,none,none,none,none,none,none],[(0,o),(1,.cell none)],2⟩:=by left
noncomputable def ty(W Y X Z:Nat):List PV:=[.tup [.str (aw (wd W)),.int (Y:Int)],.tup [.str (aw (wd X)),.int (Z:Int)]]
noncomputable def EH(W Y X Z:Nat):List En:=[(W,false,Y),(X,true,Z)]
noncomputable abbrev Sl:SR:=(ar (dn (au (ai (bB 274 rP (ac 3) (ae (ac 7) (ae (ac 8) al))) (ab .none) dI)) (ar (bq (ab .none))
 aq) aq)
 aq)
noncomputable abbrev Uv(j:Int):ER:=(ai (ai (ab (.str "0__")) (aQ sr (ae (ai (ai (ac 0) (ab (.int j)) aH) (ab (.int 1)) aH) al)) bk) (ab (.str " ")) bk)
theorem Ch{σ:AS}{j:Int}{w:PV}{k:Nat}(Y:k<=20000)(h:ai (ac 0) (ab (.int j)) aH σ=some (.tup [w,.int (k:Int)],σ)):Uv j σ=some (.str (aw (bh k)),σ):=by
 have X:=ig (k:=k) (n:=10) (by decide) (by exact(AB Y));have Z:aQ sr (ae (ai (ai (ac 0) (ab (.int j)) aH) (ab (.int 1)) aH) al) σ=some (.str (aw (dJ k)),σ):=by
  refine ce (ps:=[.int (k:Int)]) (aC (av h rfl Fj) rfl) ?_
  show(if k<2^1000 then some (PV.str (Str.ofString (toString ((k:Nat):Int))),_)else none)=_;rw [aJ (jO (n:=k) Y (by decide +kernel)),tq]
 exact av (p:=.str (aw ([48,95,95]++dJ k))) (q:=.str (aw [32])) (av (p:=.str (aw [48,95,95])) rfl Z (add_str (by simp;exact aW 0x3e81400184400a82000021 rfl X))) rfl (add_str (by simp;exact aW 0x7cc280000a82000021 rfl X))
theorem xZ{seed:Int}{p:Nat}{l9 l10 l11 l12 l13:Option PV}{st:List (Nat×AO)}{nx:Nat}{ew:List En}{e:En}(Z:e.1<15/\e.2.2<10^10)(h:st.lookup 3=some (.list (az (aE ew))))(V:ew.length<=80)(W:3<nx):
  Sl (S4 seed p (some (.str (cA e).1)) (some (.str (cA e).2)) l9 l10 l11 l12 l13 st nx)=some (.next,S4 seed p (some (.str (cA e).1)) (some (.str (cA e).2)) l9 l10 l11 l12 l13 (aG st 3 (.list (az (aE (ew++[e]))))) nx):=by
 have X:=rJ Z.2;have Y:=zQ (σ:=S4 seed p (some (.str (cA e).1)) (some (.str (cA e).2)) l9 l10 l11 l12 l13 st nx) (j:=3) (l:=3) (rs:=aE ew) (x:=(cA e).1) (y:=(cA e).2) (e1:=ac 7) (e2:=ac 8) rfl rfl rfl h W (cW _ Z.1 _).2.1 (mX Z.2) X.1 X.2 (by rw [dy];exact aW 0xb44000011408000021 rfl V);rw [show aE ew++[((cA e).1,(cA e).2)]=aE (ew++[e])from eR ew e]at Y
 exact(aj ((bM (aS (p:=.bool false) (av (q:=.none) Y rfl rfl) rfl)).trans rfl)).trans rfl
theorem Pt(P:Params){X U Y W:Nat}(y:X<15)(B:Y<15)(M:U<=1000)(N:W<=1000)(Z:Int):
  ∃T L,Dr P [.loc 0,.int Z] [.list (ty X U Y W)]=some (.hdr 274 1,[.list L],[.list (az (aE T))])/\dc (.list L)=[]/\T.length<=30/\gW T/\∀Q,val Q T=(U:Int)*dD Q X+(W:Int)*dD Q Y:=by
 let V:AS:=⟨[cL 0,cI Z,cL 2,some (.hdr 274 3),some (.hdr 274 4),none,none,none,none,none,none,none,none,none],[(4,.list []),(3,.list []),(2,.list (bO Mq)),(0,.list (ty X U Y W)),(1,.cell none)],5⟩
 let O:List (Nat×AO):=[(6,.list []),(5,.list (az (aE (EH X U Y W)))),(4,.list []),(3,.list []),(2,.list (bO Mq)),(0,.list (ty X U Y W)),(1,.cell none)]
 have j:=Ie X y;have l:=Ie Y B;have C:2^fj X<=2^3:=kd (by decide) j;have D:2^fj Y<=2^3:=kd (by decide) l;have A:gW (EH X U Y W):=fun e H=>by
  rcases cC.mp H with rfl|H
  .exact⟨y,show U<10^10 by exact aW 0x4a817c800600021fa08000021 rfl M⟩
  .rw [cJ.mp H];exact⟨B,show W<10^10 by exact aW 0x4a817c800600021fa08000021 rfl N⟩
 have R:pB (EH X U Y W)<=30:=by
  have e:pB (EH X U Y W)=wE X+wE Y:=by rfl
  have w0:wE X=2*2^fj X-1:=by unfold wE;rw [Nat.pow_succ']
  have w1:wE Y=2*2^fj Y-1:=by unfold wE;rw [Nat.pow_succ']
  omega
 have G:iM (EH X U Y W)<=20000:=by
  have e:iM (EH X U Y W)=U*2^fj X+W*2^fj Y:=by rfl
  have d:U*2^fj X<=1000*2^3:=nM M C;have h:W*2^fj Y<=1000*2^3:=nM N D;exact cq 0x9c4050000101f4028800080fa01420004400804000823 rfl e d h
 unfold Dr;rw [bX (σ:=⟨[cL 0,cI Z,none,none,none,none,none,none,none,none,none,none,none,none],[(0,.list (ty X U Y W)),(1,.cell none)],2⟩) rfl (Nc _ _)];show ∃T L,fM ([AO.list (ty X U Y W)]:List AO).length (yg rP px mA pZ wo xV (zr P) tV 100 1 _)=_/\_;unfold yg;rw [aj (σ₁:=⟨[cL 0,cI Z,cL 2,none,none,none,none,none,none,none,none,none,none,none],[(2,.list (bO Mq)),(0,.list (ty X U Y W)),(1,.cell none)],3⟩) rfl];rw [aj (σ₁:=⟨[cL 0,cI Z,cL 2,some (.hdr 274 3),none,none,none,none,none,none,none,none,none,none],[(3,.list []),(2,.list (bO Mq)),(0,.list (ty X U Y W)),(1,.cell none)],4⟩) rfl];rw [aj (σ₁:=V) rfl];have w:ai (ac 0) (ab (.int 0)) aH V=some (.tup [.str (aw (wd X)),.int (U:Int)],V):=av rfl rfl rfl;have x:ai (ac 0) (ab (.int 1)) aH V=some (.tup [.str (aw (wd Y)),.int (W:Int)],V):=av rfl rfl rfl;have b0:=Ch (by exact(aW 0x9c40500001fa08000021 rfl M)) w;have b1:=Ch (by exact(aW 0x9c40500001fa08000021 rfl N)) x;have c0:=av (g:=aH) (f₂:=ab (.int 0)) w rfl (mM (a:=.str (aw (wd X))) (b:=.int (U:Int)));have z:=av (g:=aH) (f₂:=ab (.int 0)) x rfl (mM (a:=.str (aw (wd Y))) (b:=.int (W:Int)));obtain⟨u,v⟩:=nd Y B;have c1:aD "str" (ai (ai (ac 0) (ab (.int 1)) aH) (ab (.int 0)) aH) al dG V=some (.str (nm Y true),V):=by
  refine cf (ps:=[]) z rfl rfl ?_
  show(if nC (Txt.upper (aw (wd Y)))=false then some (PV.str (Txt.upper (aw (wd Y))),_)else none)=_;rw [u,aJ v]
 have el:=pW (aC (eo (aC c0 (aC (g:=al) b0 rfl)) (show 2<=2^20 by decide)) (aC (g:=al) (eo (aC c1 (aC (g:=al) b1 rfl)) (show 2<=2^20 by decide)) rfl)) (show 2<=2^20 by decide);rw [aj (aB el (σ₂:=⟨[cL 0,cI Z,cL 2,some (.hdr 274 3),some (.hdr 274 4),cL 5,none,none,none,none,none,none,none,none],[(5,.list (az (aE (EH X U Y W)))),(4,.list []),(3,.list []),(2,.list (bO Mq)),(0,.list (ty X U Y W)),(1,.cell none)],6⟩) rfl)];rw [aj (σ₁:=S4 Z 5 none none none none none none none O 7) rfl];have f1:=xZ (seed:=Z) (p:=5) (l9:=none) (l10:=none) (l11:=none) (l12:=none) (l13:=none) (st:=O) (nx:=7) (ew:=[]) (e:=(X,false,U)) (A _ (.head _)) rfl (by decide) (by decide);have S:∀i,i≠3->(aG O 3 (.list (az (aE ([]++[(X,false,U)]))))).lookup i=List.lookup i O:=fun i c=>aL c
 have f2:=xZ (seed:=Z) (p:=5) (l9:=none) (l10:=none) (l11:=none) (l12:=none) (l13:=none) (st:=aG O 3 (.list (az (aE ([]++[(X,false,U)]))))) (nx:=7) (ew:=[]++[(X,false,U)]) (e:=(Y,true,W)) (A _ (.tail _ (.head _))) ba (by simp) (by decide);generalize hA:aG O 3 (.list (az (aE ([]++[(X,false,U)]))))=sA at *
 have F:=(iR (n:=100) (e:=ac 5) (tg:=dk 2 (aU (ap 7) (aU (ap 8) cp))) (f:=Sl) (o:=aq) (σ:=S4 Z 5 none none none none none none none O 7) (i:=5) (ps:=az (aE (EH X U Y W))) rfl rfl).trans
  ((gR (n:=99) (p:=jq (cA (X,false,U))) (rest:=[jq (cA (Y,true,W))]) rfl rfl rfl f1).trans ((gR (n:=98) (p:=jq (cA (Y,true,W))) (rest:=[]) (σ:=S4 Z 5 (some (.str (cA (X,false,U)).1)) (some (.str (cA (X,false,U)).2)) none none none none none sA 7) ((S 5 (by decide)).trans rfl) rfl rfl f2).trans (mI (n:=97) (σ:=S4 Z 5 (some (.str (cA (Y,true,W)).1)) (some (.str (cA (Y,true,W)).2)) none none none none none (aG sA 3 (.list (az (aE ([]++[(X,false,U)]++[(Y,true,W)]))))) 7) ((aL (by decide)).trans ((S 5 (by decide)).trans rfl)) rfl)))
 rw [aj (F.trans rfl)];have hI:I4 (EH X U Y W) (EH X U Y W) [] 5 (aG sA 3 (.list (az (aE ([]++[(X,false,U)]++[(Y,true,W)]))))) 7:=
  ⟨(aL (by decide)).trans ((S 2 (by decide)).trans rfl),ba,(aL (by decide)).trans ((S 4 (by decide)).trans rfl),(aL (by decide)).trans ((S 5 (by decide)).trans rfl),(aL (by decide)).trans ((S 6 (by decide)).trans rfl),⟨none,(aL (by decide)).trans ((S 1 (by decide)).trans rfl)⟩,by decide,.inl rfl,by decide,⟨ty X U Y W,(aL (by decide)).trans ((S 0 (by decide)).trans rfl),rfl⟩⟩
 obtain⟨T,E,e,m,⟨L,t,I⟩,q,r,s⟩:=NV P (seed:=Z) (o:=aq) 40 0 (EH X U Y W) [] 5 (some (.str (cA (Y,true,W)).1)) (some (.str (cA (Y,true,W)).2)) none none none none none _ 7 hI (by exact(aW 0x28200010f82000021 rfl R)) (by simpa using R) A (fun e H=>by cases H) G;have J:er 100 (cy (aQ eC (ae (ab (.int 40)) al))) (ap 9) (xf P) aq (S4 Z 5 (some (.str (cA (Y,true,W)).1)) (some (.str (cA (Y,true,W)).2)) none none none none none (aG sA 3 (.list (az (aE ([]++[(X,false,U)]++[(Y,true,W)]))))) 7)=some (.ret (.hdr 274 4),E):=by
  refine(gP (k:=.rng 0 40) (ps:=sy 0 40) (gV (p:=.rng 0 40) (ce (ps:=[.int 40]) rfl rfl) (rp (by decide))) rfl (by rw [qb];decide)).trans e
 refine⟨T,L,?_,I,q,r,fun Q=>?_⟩
 .refine(bw (fM ([AO.list (ty X U Y W)]:List AO).length) (aR J)).trans ?_
  exact cY (ids:=[0,4]) rfl (bK t I (bK m (bo _) rfl)) rfl
 .rw [s];simp [val,EH]
noncomputable def DM(P:Params):bz:=bW Bu xF wm (fun _=>[]) [] (fun n=>Cc mA ny pZ (zr P) 100 n)
theorem Ls(a b:AO):cH Bu xF wm ([.hdr 274 0,.loc 1]++[]) ([a,b]++[])=⟨[some (.hdr 274 0),cL 1,none,none,none,none,none,none],[(0,a),(1,b)],2⟩:=by left
noncomputable abbrev Tt(P:Params):SR:=(ar (fA (ac 2) (ai (ai (ai (aY (zr P) (ae (ac 7) al)) (ai (ac 6) (ab (.int 0)) aH) cO) (ai (ac 6) (ab (.int 1)) aH) cO) (ai (ac 6) (ab (.int 2)) aH) cO) gv (ap 2)) aq)
noncomputable def T2(t:Int)(V W X Y:Option PV)(st:List (Nat×AO))(Z:Nat):AS:=⟨[some (.hdr 274 0),cL 1,cI t,cL 2,V,W,X,Y],st,Z⟩
theorem Eu{P:Nat->Int×Int}(Z:ly P){i k:Nat}(X:i<15)(Y:k<3):(dP P i k).natAbs<2*10^120:=by
 obtain⟨g1,g2⟩:=Fn i X k Y;obtain⟨R,S⟩:=Z _ g1;obtain⟨T,U⟩:=Z _ g2;unfold dP sp;have V:((P (pf i k)).1*(P (pl i k)).2).natAbs<10^120:=by
  rw [vC];exact jO (nM (Nat.le_of_lt_succ (oO R)) (bU _)) (by
   have:=Nat.mul_lt_mul_of_pos_left U (show 0<10^60 by decide +kernel)
   rwa [show(10^60*10^60:Nat)=10^120 by decide +kernel]at this)
 have W:((P (pl i k)).1*(P (pf i k)).2).natAbs<10^120:=by
  rw [vC];exact jO (nM (Nat.le_of_lt_succ (oO T)) (bU _)) (by
   have:=Nat.mul_lt_mul_of_pos_left S (show 0<10^60 by decide +kernel)
   rwa [show(10^60*10^60:Nat)=10^120 by decide +kernel]at this)
 rw [Nat.two_mul];exact jO (Int.natAbs_sub_le _ _) (Nat.add_lt_add V W)
theorem CA{a b:Int}{m n:Nat}(Y:a.natAbs<2^m)(Z:b.natAbs<2^n):(a*b).natAbs<2^(m+n):=by
 rw [vC,iE];exact jO (qF _ (kr Z)) (Nat.mul_lt_mul_of_pos_right Y (iY n))
theorem QK{P:Nat->Int×Int}(X:ly P){i k:Nat}(Y:i<15)(Z:k<3):(dP P i k).natAbs<2^400:=ow (Eu X Y Z) (by decide +kernel)
theorem Er{a:Int}{n:Nat}(h:a.natAbs<2^n)(Z:n<=100000):fits a=true:=jt Z h
theorem Iw(P:Params){Q:Nat->Int×Int}(V:ly Q){i k:Nat}(W:i<15)(U:k<10^10){t:Int}{X Y:Option PV}{s:Nat}{st:List (Nat×AO)}{Z:Nat}(J:st.lookup s=some (.list ([dP Q i 0,dP Q i 1,dP Q i 2].map .int))):
  Tt P (T2 t X Y (some (.loc s)) (some (.str (aw (bh k)))) st Z)=some (.next,T2 (t+k*dD Q i) X Y (some (.loc s)) (some (.str (aw (bh k)))) st Z):=by
 have I:aY (zr P) (ae (ac 7) al) (T2 t X Y (some (.loc s)) (some (.str (aw (bh k)))) st Z)=some (.int (k:Int),T2 t X Y (some (.loc s)) (some (.str (aw (bh k)))) st Z):=dp (C:=zr P) (fs:=ae (ac 7) al) (ids:=[]) (os:=[]) (ps:=[.str (aw (bh k))]) (p:=.int (k:Int)) (ns:=[]) (σ:=T2 t X Y (some (.loc s)) (some (.str (aw (bh k)))) st Z) (σ₁:=T2 t X Y (some (.loc s)) (some (.str (aw (bh k)))) st Z) rfl rfl rfl (fun G h=>by cases h) rfl (HQ P U) rfl rfl (fun G h=>by cases h);have g:∀j:Nat,∀v,DT [dP Q i 0,dP Q i 1,dP Q i 2] (j:Int)=some v->ai (ac 6) (ab (.int (j:Int))) aH (T2 t X Y (some (.loc s)) (some (.str (aw (bh k)))) st Z)=some (.int v,T2 t X Y (some (.loc s)) (some (.str (aw (bh k)))) st Z):=fun j v M=>av rfl rfl (pH (σ:=T2 t X Y (some (.loc s)) (some (.str (aw (bh k)))) st Z) J M)
 have S:((k:Nat):Int).natAbs<2^40:=by rw [Int.natAbs_natCast];exact ow U (by decide +kernel)
 have T:=CA S (QK V W (show 0<3 by decide));have H:=CA T (QK V W (show 1<3 by decide));have N:oz (k:Int) (dP Q i 0)=some ((k:Int)*dP Q i 0):=by unfold oz;rw [Er S (by decide),Er (QK V W (show 0<3 by decide)) (by decide)];rfl
 have O:oz ((k:Int)*dP Q i 0) (dP Q i 1)=some ((k:Int)*dP Q i 0*dP Q i 1):=by unfold oz;rw [Er T (by decide),Er (QK V W (show 1<3 by decide)) (by decide)];rfl
 have R:oz ((k:Int)*dP Q i 0*dP Q i 1) (dP Q i 2)=some ((k:Int)*dP Q i 0*dP Q i 1*dP Q i 2):=by unfold oz;rw [Er H (by decide),Er (QK V W (show 2<3 by decide)) (by decide)];rfl
 have e:=av (av (av I (g 0 _ rfl) (cF N)) (g 1 _ rfl) (cF O)) (g 2 _ rfl) (cF R);rw [show(k:Int)*dD Q i=(k:Int)*dP Q i 0*dP Q i 1*dP Q i 2 by unfold dD;rw [lQ,lQ,lQ]];exact(aj (ot (f:=ac 2) (g:=gv) (q:=.int ((k:Int)*dP Q i 0*dP Q i 1*dP Q i 2)) rfl e rfl rfl)).trans rfl
theorem Hu(P:Params){Q:Nat->Int×Int}(N:ly Q){i:Nat}(O:i<15){l4 l5:Option PV}{s m:Nat}{st:List (Nat×AO)}{nx:Nat}(R:st.lookup s=some (.list ([dP Q i 0,dP Q i 1,dP Q i 2].map .int))){L:List PV}(U:st.lookup m=some (.list L)):∀(Z:List Nat) (t:Int) (X:Option PV) (j n:Nat),L.drop j=bO (Z.map fun k=>aw (bh k))->Z.length<n->(∀k∈Z,k<10^10)->
  ∃Y,gU (ap 7) (Tt P) aq n (.lst m j) (T2 t l4 l5 (some (.loc s)) X st nx)=some (.next,T2 (t+(Z.sum:Nat)*dD Q i) l4 l5 (some (.loc s)) Y st nx)
 |Z,t,X,j,0,_,V,_=>absurd V (fg _)
 |[],t,X,j,n+1,S,V,T=>⟨X,(mI (σ:=T2 t l4 l5 (some (.loc s)) X st nx) U S).trans (by simp;rfl)⟩
 |k::Z,t,X,j,n+1,S,V,T=>by
  have W:L.drop j=.str (aw (bh k))::bO (Z.map fun k=>aw (bh k)):=S;obtain⟨Y,e⟩:=Hu P N O R U Z (t+k*dD Q i) (some (.str (aw (bh k)))) (j+1) n (fe W) (by have:(k::Z).length=Z.length+1:=rfl;exact cq 0x1008010842200800144210804000422 rfl V this) (fun x M=>T x (.tail _ M));refine⟨Y,(gR (σ:=T2 t l4 l5 (some (.loc s)) X st nx) (σ₁:=T2 t l4 l5 (some (.loc s)) (some (.str (aw (bh k)))) st nx) U W rfl (Iw P N O (T k (.head _)) R)).trans (e.trans ?_)⟩;rw [List.sum_cons,show t+(k:Int)*dD Q i+((Z.sum:Nat):Int)*dD Q i=t+((k+Z.sum:Nat):Int)*dD Q i by rw [Int.natCast_add,vo,Int.add_assoc]]
noncomputable abbrev PD(P:Params):SR:=(ar (am (aD "str" (ac 4) al cR) (ap 5))
 (ar (dn (au (ai (ac 5) (ac 3) kZ)) (ar (ck (aD "list" (ac 3) (ae (ac 5) al) bu))
 (ar (am (aY ny (ae (ac 5) (ae (ac 1) al))) (ap 6))
 (ar (er 100 (cy (bB 274 pZ (ac 0) (ae (aD "str" (ac 5) al dG) al))) (ap 7) (Tt P) aq)
 aq))) aq)
 aq))
structure I2(ds:List En)(Q:Nat->Int×Int)(ws:List Nat)(st:List (Nat×AO))(nx:Nat):Prop where
 w:st.lookup 0=some (.list (az (aE ds)))
 p:st.lookup 1=some (.list (cV Q))
 v:st.lookup 2=some (.list (bO (ws.map fun i=>aw (wd i))))
 k:st.lookup 3=some (.list (bO ((aE ds).map (·.1))))
 n:4<=nx
 b:∀i∈ws,i<15
noncomputable def pr(Z:List Nat)(Y:List En):List En:=Y.filter fun e=>!(Z.contains e.1)
theorem vP{l:List Str}(h:∀x∈l,(PyData.str x).canLay0=true):SeqAt.shaped (.list (l.map PyData.str))=true:=gN fun d Y=>by
 obtain⟨x,Z,rfl⟩:=da.mp Y;exact⟨h x Z,ki _⟩
theorem IS:∀i,i<15->(PyData.str (aw (wd i))).canLay0=true/\SeqAt.shaped (.str (aw (wd i)))=true:=by decide +kernel
theorem Ic{i:Nat}(Y:i<15):∀Z:List Nat,(∀j∈Z,j<15)->((Z.map fun j=>PyData.str (aw (wd j))).any fun y=>PyData.eqv y (.str (aw (wd i))))=Z.contains i
 |[],_=>rfl
 |j::Z,h=>by
  have X:=Ic Y Z fun x W=>h x (.tail _ W)
  have V:=h j (.head _);rw [eh,List.any_cons,X,List.contains_cons]
  congr 1
  show(aw (wd j)==aw (wd i))=(i==j);rw [zs _ V _ Y];exact Bool.eq_iff_iff.mpr (by rw [gL,gL];exact eq_comm)
theorem Qu{ds:List En}{Q:Nat->Int×Int}{Z:List Nat}{σ:AS}(U:σ.st.lookup 2=some (.list (bO (Z.map fun i=>aw (wd i)))))(X:∀i∈Z,i<15){i:Nat}(Y:i<15):kZ (.str (aw (wd i))) (.loc 2) σ=some (.bool (!(Z.contains i)),σ):=by
 have R:jb σ.st (.loc 2)=some (.list (Z.map fun j=>PyData.str (aw (wd j)))):=by
  show(match σ.st.lookup 2 with|some (.list W)=>(di W).map PyData.list|_=>none)=_;rw [U];dsimp only;rw [show bO (Z.map fun i=>aw (wd i))=Z.map fun i=>PV.str (aw (wd i))by simp [bO],gK (f:=fun i=>PV.str (aw (wd i))) (g:=fun i=>PyData.str (aw (wd i))) (fun _=>rfl) Z];rfl
 have T:SeqAt.shaped (.list (Z.map fun j=>PyData.str (aw (wd j))))=true:=by
  have:=vP (l:=Z.map fun i=>aw (wd i)) (fun x V=>by
   obtain⟨j,S,rfl⟩:=da.mp V;exact(IS j (X j S)).1)
  rwa [lK]at this
 unfold kZ kJ;rw [R,show jb σ.st (.str (aw (wd i)))=some (.str (aw (wd i)))from rfl,fx,fx];show(QG (.list (Z.map fun j=>PyData.str (aw (wd j))))).bind _=_;rw [show QG (.list (Z.map fun j=>PyData.str (aw (wd j))))=some (Z.map fun j=>PyData.str (aw (wd j)))from rfl,fx,(IS i Y).2,T];simp only [Bool.and_self,hO];rw [Ic Y Z X]
theorem LG{Z:List Nat}{i:Nat}(h:Z.contains i=false)(Y:List En):pr (Z++[i]) Y=gF i (pr Z Y)/\cg i (pr Z Y)=cg i Y:=by
 unfold pr gF cg;rw [List.filter_filter,List.filter_filter];constructor
 .congr 1
  funext e
  by_cases V:e.1=i<;>by_cases W:e.1∈Z<;>simp [V,W]
 .congr 1
  apply List.filter_congr;intro e U;cases X:e.1==i
  .rfl
  .rw [lR X,h];rfl
theorem MY{i:Nat}{Z:List En}(h:gW Z):(∀k∈cg i Z,k<10^10)/\(cg i Z).length<=Z.length:=by
 unfold cg;refine⟨fun k Y=>?_,by rw [db];exact List.length_filter_le _ _⟩;obtain⟨e,X,rfl⟩:=da.mp Y;exact(h e (List.mem_filter.mp X).1).2
theorem Jr(P:Params){Q:Nat->Int×Int}(hQ:ly Q){Y:List En}(y:gW Y)(hl:Y.length<=30){ws:List Nat}{e:En}(S:e.1<15)(hw:ws.length<=30){t:Int}{l5 l6 l7:Option PV}{st:List (Nat×AO)}{Z:Nat}(h:I2 Y Q ws st Z)(c:t+val Q (pr ws Y)=val Q Y):
  ∃g A B J X N M,PD P (T2 t (some (.str (cA e).1)) l5 l6 l7 st Z)=some (.next,T2 g (some (.str (cA e).1)) A B J N M)/\I2 Y Q X N M/\g+val Q (pr X Y)=val Q Y/\e.1∈X/\(∀i∈ws,i∈X)/\X.length<=ws.length+1:=by
 have z:rX Y:=⟨by exact aW 0x3c200000f82000021 rfl hl,y⟩;obtain⟨f1,_,f3,_⟩:=cW e.1 S e.2.1;have e1:am (aD "str" (ac 4) al cR) (ap 5) (T2 t (some (.str (cA e).1)) l5 l6 l7 st Z)=some (.next,T2 t (some (.str (cA e).1)) (some (.str (aw (wd e.1)))) l6 l7 st Z):=by
  refine aB (p:=.str (aw (wd e.1))) (cf (p:=.str (nm e.1 e.2.1)) (ps:=[]) (σ₁:=T2 t (some (.str (cA e).1)) l5 l6 l7 st Z) (σ₂:=T2 t (some (.str (cA e).1)) l5 l6 l7 st Z) rfl rfl rfl (r:=some (.str (aw (wd e.1)),T2 t (some (.str (cA e).1)) l5 l6 l7 st Z)) ?_) rfl;rw [mm (by rw [f1];exact f3),f1]
 have F:au (ai (ac 5) (ac 3) kZ) (T2 t (some (.str (cA e).1)) (some (.str (aw (wd e.1)))) l6 l7 st Z)=some (!(ws.contains e.1),T2 t (some (.str (cA e).1)) (some (.str (aw (wd e.1)))) l6 l7 st Z):=aS (av (p:=.str (aw (wd e.1))) (q:=.loc 2) rfl rfl (Qu (ds:=Y) (Q:=Q) (σ:=T2 t (some (.str (cA e).1)) (some (.str (aw (wd e.1)))) l6 l7 st Z) h.v h.b S)) rfl
 by_cases O:ws.contains e.1=true
 .rw [O]at F
  exact⟨t,_,_,_,ws,st,Z,(aj e1).trans ((aj ((bM F).trans rfl)).trans rfl),h,c,by simpa using O,fun i T=>T,iG _⟩
 .have O:ws.contains e.1=false:=by simpa using O
  rw [O]at F
  have V:=h.n;have a1:=dF (a:=3) (i:=2) (e:=ac 5) (σ:=T2 t (some (.str (cA e).1)) (some (.str (aw (wd e.1)))) l6 l7 st Z) (σ₁:=T2 t (some (.str (cA e).1)) (some (.str (aw (wd e.1)))) l6 l7 st Z) (p:=.str (aw (wd e.1))) rfl h.v rfl h.v (by rw [nT,db];exact aW 0xf4240280000f82000021 rfl hw);rw [show bO (ws.map fun i=>aw (wd i))++[.str (aw (wd e.1))]=bO ((ws++[e.1]).map fun i=>aw (wd i))by simp [bO]]at a1
  generalize W:aG st 2 (.list (bO ((ws++[e.1]).map fun i=>aw (wd i))))=s1 at *
  have m:ck (aD "list" (ac 3) (ae (ac 5) al) bu) (T2 t (some (.str (cA e).1)) (some (.str (aw (wd e.1)))) l6 l7 st Z)=some (.next,T2 t (some (.str (cA e).1)) (some (.str (aw (wd e.1)))) l6 l7 s1 Z):=by rw [<-W];exact a1
  have w1:s1.lookup 0=some (.list (az (aE Y))):=by rw [<-W,aL (by decide)];exact h.w
  have D:s1.lookup 1=some (.list (cV Q)):=by rw [<-W,aL (by decide)];exact h.p
  have v1:s1.lookup 2=some (.list (bO ((ws++[e.1]).map fun i=>aw (wd i)))):=by rw [<-W,ba]
  have k1:s1.lookup 3=some (.list (bO ((aE Y).map (·.1)))):=by rw [<-W,aL (by decide)];exact h.k
  have a2:aY ny (ae (ac 5) (ae (ac 1) al)) (T2 t (some (.str (cA e).1)) (some (.str (aw (wd e.1)))) l6 l7 s1 Z)=some (.loc Z,T2 t (some (.str (cA e).1)) (some (.str (aw (wd e.1)))) l6 l7 ((Z,.list ([dP Q e.1 0,dP Q e.1 1,dP Q e.1 2].map .int))::aG s1 1 (.list (cV Q))) (Z+1)):=
   dp (C:=ny) (fs:=ae (ac 5) (ae (ac 1) al)) (ids:=[1]) (os:=[.list (cV Q)]) (ps:=[.str (aw (wd e.1)),.loc 1]) (p:=.loc 1) (ns:=[.list ([dP Q e.1 0,dP Q e.1 1,dP Q e.1 2].map .int)]) (σ:=T2 t (some (.str (cA e).1)) (some (.str (aw (wd e.1)))) l6 l7 s1 Z) (σ₁:=T2 t (some (.str (cA e).1)) (some (.str (aw (wd e.1)))) l6 l7 s1 Z) rfl rfl (by show [s1.lookup 1]=_;rw [D];rfl) (fun ao h=>by rw [cJ.mp h];exact mK Q) (pV (show 1<Z by exact aW 0x4210800408021 rfl V) (by rfl)) (JW hQ S) rfl rfl (fun ao h=>by rw [cJ.mp h];exact ie _)
  generalize H:((Z,AO.list ([dP Q e.1 0,dP Q e.1 1,dP Q e.1 2].map .int))::aG s1 1 (.list (cV Q)))=s2 at *
  have s:am (aY ny (ae (ac 5) (ae (ac 1) al))) (ap 6) (T2 t (some (.str (cA e).1)) (some (.str (aw (wd e.1)))) l6 l7 s1 Z)=some (.next,T2 t (some (.str (cA e).1)) (some (.str (aw (wd e.1)))) (some (.loc Z)) l7 s2 (Z+1)):=aB a2 rfl;have R:Ag s1 Z s2:=by rw [<-H];exact Ag.new D
  have q2:s2.lookup Z=some (.list ([dP Q e.1 0,dP Q e.1 1,dP Q e.1 2].map .int)):=by rw [<-H];exact cm
  have E:=(R 0 (by exact(aW 0x210800408021 rfl V))).trans w1;obtain⟨g1,g2⟩:=nd e.1 S;have eu:aD "str" (ac 5) al dG (T2 t (some (.str (cA e).1)) (some (.str (aw (wd e.1)))) (some (.loc Z)) l7 s2 (Z+1))=some (.str (nm e.1 true),T2 t (some (.str (cA e).1)) (some (.str (aw (wd e.1)))) (some (.loc Z)) l7 s2 (Z+1)):=by
   refine cf (p:=.str (aw (wd e.1))) (ps:=[]) rfl rfl rfl ?_
   show(if nC (Txt.upper (aw (wd e.1)))=false then some (PV.str (Txt.upper (aw (wd e.1))),_)else none)=_;rw [g1,aJ g2]
  have a3:=Ja (σ:=T2 t (some (.str (cA e).1)) (some (.str (aw (wd e.1)))) (some (.loc Z)) l7 s2 (Z+1)) (j:=0) (l:=0) (rs:=aE Y) rfl eu E (show 0<Z+1 by exact aW 0x8400100210800408021 rfl V) (Gi S true) z.rows;rw [(cW e.1 S true).1,Mi S Y fun x hx=>(y x hx).1]at a3
  have u:bB 274 pZ (ac 0) (ae (aD "str" (ac 5) al dG) al) (T2 t (some (.str (cA e).1)) (some (.str (aw (wd e.1)))) (some (.loc Z)) l7 s2 (Z+1))=some (.loc (Z+1),T2 t (some (.str (cA e).1)) (some (.str (aw (wd e.1)))) (some (.loc Z)) l7 ((Z+1,.list (bO ((cg e.1 Y).map fun k=>aw (bh k))))::aG s2 0 (.list (az (aE Y)))) (Z+1+1)):=a3;generalize I:((Z+1,AO.list (bO ((cg e.1 Y).map fun k=>aw (bh k))))::aG s2 0 (.list (az (aE Y))))=s3 at *
  have U:Ag s2 (Z+1) s3:=by rw [<-I];exact Ag.new E
  have d:s3.lookup (Z+1)=some (.list (bO ((cg e.1 Y).map fun k=>aw (bh k)))):=by rw [<-I];exact cm
  obtain⟨kg,kl⟩:=MY (i:=e.1) y;obtain⟨J,a4⟩:=Hu P hQ S (l4:=some (.str (cA e).1)) (l5:=some (.str (aw (wd e.1)))) (nx:=Z+1+1) ((U Z (by exact(aW 0x210004000420 rfl))).trans q2) d (cg e.1 Y) t l7 0 100 rfl (by exact(bD 0x1908100420004000f82000022 rfl hl kl)) kg;have G:=(iR (n:=100) (tg:=ap 7) (f:=Tt P) (o:=aq) u d).trans a4;refine⟨_,_,_,_,ws++[e.1],s3,Z+1+1,(aj e1).trans ((aj ((cK F).trans ((aj m).trans ((aj s).trans ((aj G).trans rfl))))).trans rfl),?_,?_,by exact zh _ rh,fun i T=>by simp [T],by simp⟩
  .exact⟨(U 0 (by exact(aW 0x8400100210800408021 rfl V))).trans E,(U 1 (by exact(aW 0x8400104210800408021 rfl V))).trans ((R 1 (by exact(aW 0x4210800408021 rfl V))).trans D),(U 2 (by exact(aW 0x8400108210800408021 rfl V))).trans ((R 2 (by exact(aW 0x8210800408021 rfl V))).trans v1),(U 3 (by exact(aW 0x840010c210800408021 rfl V))).trans ((R 3 (by exact(aW 0xc210800408021 rfl V))).trans k1),by exact aW 0x42108002110200800408021 rfl V,fun i T=>by
    rcases ku.mp T with T|T
    .exact h.b i T
    .rw [cJ.mp T];exact S⟩
  .obtain⟨n1,n2⟩:=LG O Y
   have:=vi Q e.1 (pr ws Y);rw [n2]at this
   rw [n1,<-c,<-this];exact cX (QH 0x50240808109014010212020 rfl) (QH 0x50240102109014080812020 rfl)
theorem CN(P:Params){Q:Nat->Int×Int}(m:ly Q){Z:List En}(s:gW Z)(o:Z.length<=30):∀(W:List En) (X:List Nat) (t:Int) (I S T U:Option PV) (st:List (Nat×AO)) (V j n:Nat),(bO ((aE Z).map (·.1))).drop j=bO ((aE W).map (·.1))->W.length<n->(∀e∈W,e∈Z)->(∀e∈Z,e.1∈X\/e∈W)->X.length+W.length<=30->I2 Z Q X st V->t+val Q (pr X Z)=val Q Z->
  ∃C J M N Y O,gU (ap 4) (PD P) aq n (.lst 3 j) (T2 t I S T U st V)=some (.next,T2 (val Q Z) C J M N Y O)/\Y.lookup 0=some (.list (az (aE Z)))/\Y.lookup 1=some (.list (cV Q))
 |_,X,t,I,S,T,U,st,V,j,0,_,E,_,_,_,_,_=>absurd E (fg _)
 |[],X,t,I,S,T,U,st,V,j,n+1,u,E,v,q,z,h,F=>by
  have:pr X Z=[]:=by
   unfold pr;rw [List.filter_eq_nil_iff];intro e he;rcases q e he with h|h
   .simp [h]
   .cases h
  rw [this,show val Q []=0 from rfl,Int.add_zero]at F
  exact⟨_,_,_,_,st,V,(mI (σ:=T2 t I S T U st V) h.k u).trans (by rw [F];rfl),h.w,h.p⟩
 |e::W,X,t,I,S,T,U,st,V,j,n+1,u,E,v,q,z,h,F=>by
  have G:(bO ((aE Z).map (·.1))).drop j=.str (cA e).1::bO ((aE W).map (·.1)):=u;have R:(e::W).length=W.length+1:=rfl;obtain⟨l,J,M,N,D,Y,O,e1,h',y,a,H,A⟩:=Jr P m s o (e:=e) (s e (v e (.head _))).1 (ws:=X) (by exact(bD 0xf0400007c10800010021 rfl z)) (t:=t) (l5:=S) (l6:=T) (l7:=U) h F;obtain⟨b,c,d,f,i,g,e2,r⟩:=CN P m s o W D l (some (.str (cA e).1)) J M N Y O (j+1) n (fe G) (by exact(cq 0x1008010842200800144210804000422 rfl E R)) (fun x B=>v x (.tail _ B)) (fun x B=>by
   rcases q x B with h|h
   .exact .inl (H _ h)
   .rcases cC.mp h with rfl|h
    .exact .inl a
    .exact .inr h) (by exact(iF 0x1e08803008010840010c000842200820147c10800010023 rfl z R A)) h' y
  exact⟨b,c,d,f,i,g,(gR (σ:=T2 t I S T U st V) (σ₁:=T2 t (some (.str (cA e).1)) S T U st V) h.k G rfl e1).trans e2,r⟩
theorem OV(P:Params){Q:Nat->Int×Int}(R:ly Q){Z:List En}(V:gW Z)(Y:Z.length<=30):DM P [.hdr 274 0,.loc 1] [.list (az (aE Z)),.list (cV Q)]=some (.int (val Q Z),[.list (az (aE Z)),.list (cV Q)],[]):=by
 have X:rX Z:=⟨by exact aW 0x3c200000f82000021 rfl Y,V⟩;unfold DM;rw [bX (σ:=⟨[some (.hdr 274 0),cL 1,none,none,none,none,none,none],[(0,.list (az (aE Z))),(1,.list (cV Q))],2⟩) rfl (Ls _ _)];unfold Cc;rw [aj (σ₁:=⟨[some (.hdr 274 0),cL 1,cI 0,none,none,none,none,none],[(0,.list (az (aE Z))),(1,.list (cV Q))],2⟩) rfl];rw [aj (σ₁:=T2 0 none none none none [(2,.list []),(0,.list (az (aE Z))),(1,.list (cV Q))] 3) rfl];have N:=vj (σ:=T2 0 none none none none [(2,.list []),(0,.list (az (aE Z))),(1,.list (cV Q))] 3) (j:=0) (l:=0) (rs:=aE Z) rfl rfl (show 0<3 by decide) X.rows.1;have W:bB 274 mA (ac 0) al (T2 0 none none none none [(2,.list []),(0,.list (az (aE Z))),(1,.list (cV Q))] 3)=some (.loc 3,T2 0 none none none none [(3,.list (bO ((aE Z).map (·.1)))),(2,.list []),(0,.list (az (aE Z))),(1,.list (cV Q))] 4):=N;obtain⟨G,H,I,J,st,M,O,T,U⟩:=CN P R V Y Z [] 0 none none none none [(3,.list (bO ((aE Z).map (·.1)))),(2,.list []),(0,.list (az (aE Z))),(1,.list (cV Q))] 4 0 100 rfl (by exact(aW 0x64200010f82000021 rfl Y)) (fun e h=>h) (fun e h=>.inr h) (by simpa using Y) ⟨rfl,rfl,rfl,rfl,by decide,fun i S=>by cases S⟩ (by
  rw [show pr [] Z=Z by unfold pr;rw [List.filter_eq_self];intro e F;rfl];exact cX (mh 0x1004002912020 rfl) (mh 0x1000a44042020 rfl))
 rw [aj ((iR (n:=100) (tg:=ap 4) (f:=PD P) (o:=aq) W rfl).trans O)];refine(bw (fM ([AO.list (az (aE Z)),.list (cV Q)]:List AO).length) (aR (cP (p:=.int (val Q Z)) rfl))).trans ?_
 exact cY (ids:=[0,1]) rfl (bK T (bo _) (bK U (mK Q) rfl)) rfl
theorem ta.of2{a b:Nat}(Z:0<b)(Y:Builtin.Int.intBits (b:Int)<=7000)(V:Builtin.Int.intBits (a:Int)<=50*Builtin.Int.intBits (b:Int))(W:Builtin.Int.intBits (a:Int)<=30000):ta a b:=by
 have X:0<Builtin.Int.intBits (b:Int):=by
  rcases AU (Builtin.Int.intBits (b:Int))with h|h
  .have:=mJ b;rw [h]at this;simp [Sm]at this;exact(Im Z this:False).elim
  .exact h
 refine⟨Z,by exact aW 0xdac140000406d60a000021 rfl Y,?_,?_⟩
 .exact Nat.div_le_of_le_mul (by omega)
 .exact bP (Nat.div_mul_le_self _ _) (by exact(cq 0x9c4028800080010082110042083a98142000406d60a000023 rfl Y W (aV (bD 0x20104200800008421 rfl X))))
theorem IR(a:Int):xO a<=a.natAbs:=by
 unfold xO;cases a with
 |ofNat n=>rw [aJ (show 0<=Int.ofNat n from sM n)];exact bU n
 |negSucc n=>
  rw [aO (zF.mpr (Int.negSucc_lt_zero n)),Int.neg_negSucc,show((n.succ:Nat):Int)-1=n by exact cX (Mb) (LP)];exact iG n
theorem Pl(P:Params){w d:Int}{U L:Nat}{Y:Int}(G:Y=1\/Y=-1)(X:0<d)(F:2^95<=U)(Q:Sm 4300 U)(O:L<U)(R:eP 820 d)(H:eP (Builtin.Int.intBits (U:Int)+402) w):
  Lu P [.int (Y*(d*w*U+L)),.int (Y*d*U)] []=qK w (Y*L):=by
 have Z:(0:Int)<d*U:=Int.mul_pos X (by omega);obtain⟨S,T⟩:=Oe (v:=d*w) X O;have z:Int.fdiv (d*w) d=w:=Int.mul_fdiv_cancel_left _ (by exact(fun M=>mh 0x2902141020014a422 rfl X M));have A:Int.fmod (d*w) d=0:=Int.mul_fmod_right _ _;rw [z]at S
 rw [A,Int.zero_mul,Int.zero_add]at T
 have C:=Az F;have E:Builtin.Int.intBits (U:Int)<=Builtin.Int.intBits (((d*U).toNat:Nat):Int):=DH (by
  obtain⟨D,rfl⟩:∃D:Nat,d=D:=⟨d.toNat,by exact cX (It (eO (zW X))) (Jb (eO (zW X)))⟩;rw [<-zE,iV];exact zP _ (by exact(aW 0x8420024014a421 rfl X)))
 have I:eP (Builtin.Int.intBits (U:Int)) (L:Int):=eP.nat ((mJ U).le (by exact(ii O)));have V:eP (Builtin.Int.intBits (((d*U).toNat:Nat):Int)) (d*U):=by
  have:=mJ (d*(U:Int)).toNat;unfold eP
  rwa [show(d*(U:Int)).natAbs=(d*(U:Int)).toNat by exact bY (Le (tS (zW Z)) (eO (zW Z))) (Le (eO (zW Z)) (tS (zW Z)))]
 have N:Builtin.Int.intBits (((d*U).toNat:Nat):Int)<=820+4300:=by
  refine uu ?_
  have:=R.mul (eP.nat Q);rw [show(d*(U:Int)).toNat=(d*(U:Int)).natAbs by exact bY (Le (eO (zW Z)) (tS (zW Z))) (Le (tS (zW Z)) (eO (zW Z)))];exact this
 have J:eP (Builtin.Int.intBits (((d*U).toNat:Nat):Int)+(Builtin.Int.intBits (U:Int)+402)+1) (d*w*U+L):=by
  have:=V.mul H;rw [Jm]at this
  exact this.add (I.mono (by exact(bD 0x192200020804000020 rfl)))
 have W:ta (xO (d*w*U+L)) (d*U).toNat:=by
  have:=uu (Sm.le J (IR _));exact ta.of2 (by exact(uV 0x210810002551020014a422 rfl Z (eO (zW Z)))) (by exact(aW 0xdac140000405000a000021 rfl N)) (by omega) (by exact(cq 0xea605100010859220002080421000101400284001040000023 rfl E N this))
 rcases G with rfl|rfl
 .rw [nO,nO,nO]
  have:=Bg P (jV P zv) Z W;rw [S,T]at this
  exact this
 .have B:=Bg P zv Z W
  have:=MB P (jV P (jV P zv)) Z B;rw [S,T]at this
  rw [show -1*(d*w*(U:Int)+L)=-(d*w*U+L)by exact cX (QF 0x242813408404004850208da042821 rfl (jz _ _)) (QF 0x400090a04d404004850208da042a21 rfl (jz _ _)),show -1*d*(U:Int)=-(d*U)by rw [jz,nO,jz],show -1*(L:Int)=-(L:Int)by exact cX (uV 0x9681080800908da042821 rfl (jz _ _)) (uV 0x100025a80800908da042a21 rfl (jz _ _))];exact this
noncomputable def Mr(P:Params):bz:=bW oF gy gr (fun _=>[]) [] (fun n=>Cj (Lu P) 100 n)
theorem BE(a b c:PV)(o:AO):cH oF gy gr ([a,.loc 0,b,c]++[]) ([o]++[])=⟨[some a,cL 0,some b,some c,none,none,none,none,none],[(0,o)],1⟩:=by left
noncomputable abbrev S9(Z Y X:Int)(S T U V W:Option PV)(o:AO):AS:=⟨[cI Z,cL 0,cI Y,cI X,S,T,U,V,W],[(0,o)],1⟩
theorem Ul{k:Nat}(Z:k<2600):Sm 4300 (3^(60+k))/\2^95<=3^(60+k):=by
 constructor
 .exact jO (kd (by decide) (show 60+k<=2659 by exact aW 0x53194000f082004028a0a000421 rfl Z)) (by decide +kernel)
 .exact bP (by decide +kernel:2^95<=3^60) (kd (by decide) (by exact(aW 0x3c2083c20020 rfl)))
theorem LW{a b:Int}{σ:AS}:fE (.tup [.int a,.int b]) (.tup [.int a,.int b]) σ=some (.bool true,σ):=by
 show eg false _ _ σ=_;unfold eg;rw [show jb σ.st (.tup [.int a,.int b])=some (.tuple [.int a,.int b])from rfl,fx,fx];have Z:SeqAt.shaped (.tuple [.int a,.int b])=true:=rfl;rw [Z,Ih _ (xb Z)];rfl
theorem Pz(P:Params){R S X Y W:Int}(r:eP 400 R)(s:eP 400 S)(h2:eP 400 X)(c:eP 16 Y)(f:R*S*Y≠0):
  Mr P [.int (Y*R*S*X),.loc 0,.int Y,.int W] [.list ([R,S,X].map .int)]=some (.bool true,[.list ([R,S,X].map .int)],[]):=by
 obtain⟨k,e,ek⟩:=fV (n:=W) (m:=2600) (by decide);obtain⟨M,I⟩:=Ul e;generalize hU:3^(60+k)=U at *
 have t:0<U:=eB (by decide) I;obtain⟨L,a,eL⟩:=fV (n:=W) (m:=U) t;obtain⟨q,hq,eq⟩:=fV (n:=W) (m:=2) (by decide);generalize Q:R*S*Y=Z at *
 have T:eP 816 Z:=by rw [<-Q];exact((r.mul s).mul c).mono (by decide)
 have B:Y*R*S*X=Z*X:=by rw [<-Q];grind
 rw [B];have D:eP 1216 (Z*X):=(T.mul h2).mono (by decide);have v:eP 4300 (U:Int):=eP.nat M;have i:eP 4300 ((U/2:Nat):Int):=eP.nat (M.le (rD _ _));have j:eP 4300 (L:Int):=eP.nat (M.le (by exact(ii a)));have sw:eP (Builtin.Int.intBits (U:Int)+402) (X+((U/2:Nat):Int)):=by
  have o:eP (Builtin.Int.intBits (U:Int)) ((U/2:Nat):Int):=eP.nat ((mJ U).le (rD _ _));exact((h2.mono (show _<=Builtin.Int.intBits (U:Int)+401 by exact aW 0x644800099020020 rfl)).add (o.mono (by exact(aW 0x32240004000020 rfl)))).mono (by exact(aW 0x19220002085912000210020 rfl))
 let F:Option PV->Option PV->Option PV->AS:=fun l6 l7 l8=>S9 (Z*X) Y W (some (.int (U:Int))) (some (.int Z)) l6 l7 l8 (.list ([R,S,X].map .int))
 obtain⟨sg,N,hd,E⟩:∃sg:Int,(sg=1\/sg=-1)/\0<sg*Z/\ga (au (ai (ac 5) (ab (.int 0)) OO)) (ai (ac 3) (ac 4) dj) (ca (ai (ac 3) (ac 4) dj) eE) (F none none none)=some (.int (sg*L),F none none none):=by
  have em:ai (ac 3) (ac 4) dj (F none none none)=some (.int (L:Int),F none none none):=by
   refine av rfl rfl (cF (k:=nN) ?_);unfold nN;rw [aJ (by omega),eL]
  have y:au (ai (ac 5) (ab (.int 0)) OO) (F none none none)=some (decide (0<Z),F none none none):=aS (av rfl rfl rfl) rfl
  by_cases z:0<Z
  .rw [dO z]at y
   exact⟨1,.inl rfl,by exact mh 0x404600a521020014a421 rfl z,(lH y).trans (by rw [nO];exact em)⟩
  .rw [ix z]at y
   exact⟨-1,.inr rfl,by exact(AE f).elim (fun J=>UC 0xa0014a4204046d0a1510052042422 rfl J (jz _ _)) (fun J=>(mh 0x1000a521020014b022 rfl z J:False).elim),(lC y).trans (by rw [show(-1:Int)*L=-(L:Int)by exact cX (uV 0x9681080800908da042821 rfl (jz _ _)) (uV 0x100025a80800908da042a21 rfl (jz _ _))];exact kI em rfl)⟩
 obtain⟨V,A,H⟩:∃V:Int,(V=1\/V=-1)/\ga (au (ai (ac 3) (ab (.int 2)) dj)) (ca (ab (.int 1)) eE) (ab (.int 1)) (F (some (.int (sg*L))) none none)=some (.int V,F (some (.int (sg*L))) none none):=by
  have em:ai (ac 3) (ab (.int 2)) dj (F (some (.int (sg*L))) none none)=some (.int (q:Int),F (some (.int (sg*L))) none none):=by
   refine av rfl rfl (cF (k:=nN) ?_);unfold nN;rw [aJ (by exact(fun J=>wN 0xa4414a821 rfl J)),show((2:Int))=((2:Nat):Int)from rfl,eq]
  have u:q=0\/q=1:=by exact Classical.byContradiction fun J=>(eN (not_or.mp J).1).elim (fun w=>aW 0x2000421 rfl w) (fun w=>(eN (not_or.mp J).2).elim (fun x=>aW 0x1080010800008422 rfl w x) (fun x=>aW 0x4210882000422 rfl hq x))
  rcases u with rfl|rfl
  .exact⟨1,.inl rfl,(lC (aS em rfl)).trans rfl⟩
  .exact⟨-1,.inr rfl,(lH (aS em rfl)).trans rfl⟩
 have G:V*sg=1\/V*sg=-1:=by rcases A with rfl|rfl<;>rcases N with rfl|rfl<;>decide
 have z0:sg*sg=1:=by rcases N with rfl|rfl<;>rfl
 have C:eP 16 sg:=eP.lit (by rcases N with rfl|rfl<;>decide);have O:eP 16 V:=eP.lit (by rcases A with rfl|rfl<;>decide);have sd:eP 820 (sg*Z):=by
  have:eP 816 (sg*Z):=by rcases N with rfl|rfl<;>simpa [eP]using T
  exact this.mono (by decide)
 have dv:=Pl P G hd I M a sd sw;have o:V*sg*(sg*Z*(X+((U/2:Nat):Int))*U+L)=V*((Z*X+((U/2:Nat):Int)*Z)*U+sg*L):=by
  generalize ((U/2:Nat):Int)=h
  grind
 have a2:V*sg*(sg*Z)*(U:Int)=V*Z*U:=by grind
 have a3:V*sg*(L:Int)=V*(sg*L):=lQ _ _ _;rw [o,a2,a3]at dv
 have e1:am (ai (ab (.int 3)) (ai (ab (.int 60)) (ai (ac 3) (ab (.int 2600)) dj) bk) sh) (ap 4) (S9 (Z*X) Y W none none none none none (.list ([R,S,X].map .int)))=some (.next,S9 (Z*X) Y W (some (.int (U:Int))) none none none none (.list ([R,S,X].map .int))):=by
  refine aB (p:=.int (U:Int)) (av (q:=.int (60+(k:Int))) rfl (av (q:=.int (k:Int)) rfl (av rfl rfl (cF (k:=nN) ?_)) rfl) (cF (k:=Ft) ?_)) rfl
  .unfold nN
   rw [aJ (by decide),show((2600:Int))=((2600:Nat):Int)from rfl,ek]
  .unfold Ft
   rw [aJ ⟨by exact Ef,by exact aW 0x3d0900a900121e1122404028a0a000421 rfl e,by decide⟩,<-hU,show(60+(k:Int)).toNat=60+k by exact bY (bD 0x803c208000042048784488004a821 rfl (eO (Ef))) (bD 0x200f0820042048784488004aa21 rfl (eO (Ef)))]
   push_cast;rfl
 have e2:am (ai (ai (ai (ac 1) (ab (.int 0)) aH) (ai (ac 1) (ab (.int 1)) aH) cO) (ac 2) cO) (ap 5) (S9 (Z*X) Y W (some (.int (U:Int))) none none none none (.list ([R,S,X].map .int)))=some (.next,F none none none):=by
  refine aB (av (av (p:=.int R) (q:=.int S) (av rfl rfl rfl) (av rfl rfl rfl) (nX (r.mono (by decide)) (s.mono (by decide)))) rfl (nX ((r.mul s).mono (by decide)) (c.mono (by decide)))) ?_
  rw [Q];rfl
 have e3:au (ai (ac 5) (ab (.int 0)) fE) (F none none none)=some (false,F none none none):=by
  rw [show false=(Z==0)from(lj.mpr f).symm];exact aS (av rfl rfl rfl) rfl
 have e4:=aB (g:=ap 6) E (σ₂:=F (some (.int (sg*L))) none none) rfl;have e5:=aB (g:=ap 7) H (σ₂:=F (some (.int (sg*L))) (some (.int V)) none) rfl;have d:∀σ:AS,gu (.int (U:Int)) (.int 2) σ=some (.int ((U/2:Nat):Int),σ):=fun σ=>Nr (b:=2) (by decide) (by decide)
 have b1:eP 6000 ((Z*X+((U/2:Nat):Int)*Z)):=((D.mono (show _<=5116 by decide)).add ((i.mul T).mono (by decide))).mono (by decide);have b2:eP 10400 ((Z*X+((U/2:Nat):Int)*Z)*U+sg*L):=((b1.mul v).add ((C.mul j).mono (by decide))).mono (by decide);have e6:am (aY (Lu P) (ae (ai (ac 7) (ai (ai (ai (ac 0) (ai (ai (ac 4) (ab (.int 2)) gu) (ac 5) cO) bk) (ac 4) cO) (ac 6) bk) cO) (ae (ai (ai (ac 7) (ac 5) cO) (ac 4) cO) al))) (ap 8) (F (some (.int (sg*L))) (some (.int V)) none)=some (.next,F (some (.int (sg*L))) (some (.int V)) (some (.tup [.int (X+((U/2:Nat):Int)),.int (V*(sg*L))]))):=
  aB (bF (ps:=[.int (V*((Z*X+((U/2:Nat):Int)*Z)*U+sg*L)),.int (V*Z*U)]) (aC (g:=ae (ai (ai (ac 7) (ac 5) cO) (ac 4) cO) al) (av rfl (av (av (av rfl (av (av rfl rfl (d _)) rfl (nX (i.mono (by decide)) (T.mono (by decide)))) rfl) rfl (nX (b1.mono (by decide)) (v.mono (by decide)))) rfl rfl) (nX (O.mono (by decide)) (b2.mono (by decide)))) (aC (g:=al) (av (av rfl rfl (nX (O.mono (by decide)) (T.mono (by decide)))) rfl (nX ((O.mul T).mono (by decide)) (v.mono (by decide)))) rfl)) rfl rfl dv) rfl
 have e7:bq (ai (ac 8) (bT (ae (ai (ai (ac 1) (ab (.int 2)) aH) (ai (ac 4) (ab (.int 2)) gu) bk) (ae (ai (ac 7) (ac 6) cO) al))) fE) (F (some (.int (sg*L))) (some (.int V)) (some (.tup [.int (X+((U/2:Nat):Int)),.int (V*(sg*L))])))=some (.ret (.bool true),F (some (.int (sg*L))) (some (.int V)) (some (.tup [.int (X+((U/2:Nat):Int)),.int (V*(sg*L))]))):=
  cP (av rfl (eo (aC (av (p:=.int X) (av rfl rfl rfl) (av rfl rfl (d _)) rfl) (aC (g:=al) (av rfl rfl (nX (O.mono (by decide)) ((C.mul j).mono (by decide)))) rfl)) (show 2<=2^20 by decide)) LW)
 unfold Mr;rw [bX (σ:=S9 (Z*X) Y W none none none none none (.list ([R,S,X].map .int))) rfl (BE _ _ _ _)];unfold Cj;refine(bw (fM ([AO.list ([R,S,X].map .int)]:List AO).length) ((aj e1).trans ((aj e2).trans ((aj ((bM e3).trans rfl)).trans ((aj e4).trans ((aj e5).trans ((aj e6).trans (aR e7)))))))).trans ?_
 exact cY (k:=1) (p:=.bool true) (σ:=F (some (.int (sg*L))) (some (.int V)) (some (.tup [.int (X+((U/2:Nat):Int)),.int (V*(sg*L))]))) (ids:=[0]) (l:=[.list ([R,S,X].map .int)]) rfl (bK rfl (ie [R,S,X]) rfl) rfl
noncomputable def Av(T W X Z U V Y:bz)(N:Nat)(K:AS->Prop):AS->Prop:=(gM (am (aY T (ae (ac 0) al)) (dQ 0))
 (gM (am (dq N 1 (cy (aQ eC (ae (ab (.int 6)) al))) (ap 0) ff (bT (ae (aY W (ae (ai (aI 0) (ac 0) aH) al)) (ae (aY W (ae (ai (aI 0) (ai (ac 0) (ab (.int 6)) bk) aH) al)) al)))) (ap 1))
 (gM (am (bH (ae (aY X (ae (ai (aI 0) (ab (.int 12)) aH) al)) (ae (aY X (ae (ai (aI 0) (ab (.int 13)) aH) al)) al))) (ap 2))
 (gM (dn (kG (zu (au (aY Z (ae (ai (ac 2) (ab (.int 0)) aH) al)))) (kG (zu (au (aY Z (ae (ai (ac 2) (ab (.int 1)) aH) al)))) lG)) (ar (bq (ab (.bool false))) aq) aq)
 (gM (am (bH (ae (ai (ab (.int 1)) (ai (ai (aI 0) (ab (.int 14)) aH) (ab (.int 1000)) dj) bk) (ae (ai (ab (.int 1)) (ai (ai (ai (aI 0) (ab (.int 14)) aH) (ab (.int 1000)) gu) (ab (.int 1000)) dj) bk) al))) (ap 3))
 (gM (am (aY U (ae (bH (ae (bT (ae (ai (ac 2) (ab (.int 0)) aH) (ae (ai (ac 3) (ab (.int 0)) aH) al))) (ae (bT (ae (ai (ac 2) (ab (.int 1)) aH) (ae (ai (ac 3) (ab (.int 1)) aH) al))) al))) (ae (ai (aI 0) (ab (.int 14)) aH) al))) (ap 4))
 (gM (dn (au (ai (ac 4) (ab .none) MW)) (ar (bq (ab (.bool false))) aq) aq)
 (gM (am (aY V (ae (ac 4) (ae (ac 1) al))) (ap 5))
 (gM (am (aY Y (ae (ai (ac 2) (ab (.int 0)) aH) (ae (ac 1) al))) (ap 6))
 (gM (am (aY Y (ae (ai (ac 2) (ab (.int 1)) aH) (ae (ac 1) al))) (ap 7))
 (gM (am (ai (ai (ai (ai (ac 3) (ab (.int 1)) aH) (ai (ac 7) (ab (.int 0)) aH) cO) (ai (ac 7) (ab (.int 1)) aH) cO) (ai (ac 7) (ab (.int 2)) aH) cO) (ap 8))
 (gM (dn (au (ai (ac 5) (ai (ai (ai (ai (ai (ac 3) (ab (.int 0)) aH) (ai (ac 6) (ab (.int 0)) aH) cO) (ai (ac 6) (ab (.int 1)) aH) cO) (ai (ac 6) (ab (.int 2)) aH) cO) (ac 8) bk) pA)) (ar (bq (ab (.bool false))) aq) aq)
 K))))))))))))
noncomputable abbrev Fk:LR:=(ae (ai (ac 5) (ac 8) dB) (ae (ac 6) (ae (ai (ac 3) (ab (.int 0)) aH) (ae (ai (aI 0) (ab (.int 14)) aH) al))))
theorem Dz{t X Y W c Z:Int}(T:eP 400 X)(V:eP 400 Y)(P:eP 16 c)(S:X*Y*c=0):Ab (cH oF gy gr [.int t,.loc 0,.int c,.int Z] [.list ([X,Y,W].map .int)]):=by
 have Q:cH oF gy gr [.int t,.loc 0,.int c,.int Z] [.list ([X,Y,W].map .int)]=S9 t c Z none none none none none (.list ([X,Y,W].map .int)):=BE _ _ _ _;rw [Q];obtain⟨k,R,O⟩:=fV (n:=Z) (m:=2600) (by decide);have M:am (ai (ab (.int 3)) (ai (ab (.int 60)) (ai (ac 3) (ab (.int 2600)) dj) bk) sh) (ap 4) (S9 t c Z none none none none none (.list ([X,Y,W].map .int)))=some (.next,S9 t c Z (some (.int ((3^(60+k):Nat):Int))) none none none none (.list ([X,Y,W].map .int))):=by
  refine aB (p:=.int ((3^(60+k):Nat):Int)) (av (q:=.int (60+(k:Int))) rfl (av (q:=.int (k:Int)) rfl (av rfl rfl (cF (k:=nN) ?_)) rfl) (cF (k:=Ft) ?_)) rfl
  .unfold nN
   rw [aJ (by decide),show((2600:Int))=((2600:Nat):Int)from rfl,O]
  .unfold Ft
   rw [aJ ⟨by exact Ef,by exact aW 0x3d0900a900121e1122404028a0a000421 rfl R,by decide⟩,show(60+(k:Int)).toNat=60+k by exact bY (bD 0x803c208000042048784488004a821 rfl (eO (Ef))) (bD 0x200f0820042048784488004aa21 rfl (eO (Ef)))]
   push_cast;rfl
 generalize ((3^(60+k):Nat):Int)=U at *
 have N:am (ai (ai (ai (ac 1) (ab (.int 0)) aH) (ai (ac 1) (ab (.int 1)) aH) cO) (ac 2) cO) (ap 5) (S9 t c Z (some (.int U)) none none none none (.list ([X,Y,W].map .int)))=some (.next,S9 t c Z (some (.int U)) (some (.int 0)) none none none (.list ([X,Y,W].map .int))):=by
  refine aB (av (av (p:=.int X) (q:=.int Y) (av rfl rfl rfl) (av rfl rfl rfl) (nX (T.mono (by decide)) (V.mono (by decide)))) rfl (nX ((T.mul V).mono (by decide)) (P.mono (by decide)))) ?_
  rw [S];rfl
 exact⟨_,M,_,N,S9 t c Z (some (.int U)) (some (.int 0)) none none none (.list ([X,Y,W].map .int)),rfl,[.int U,.int 0],_,rfl,U,rfl⟩
noncomputable def To(V:List PV)(σ:AS):Prop:=∃(W X Y Z:Int) (k l:Nat),eP 400 W/\eP 400 X/\eP 400 Y/\k<=1000/\V=[.int ((k:Int)*W*X*Y),.loc l,.int (k:Int),.int Z]/\l<σ.nx/\σ.st.lookup l=some (.list ([W,X,Y].map .int))
theorem TO(P prog w os){b N:Nat}{H I J O Q R M:bz}(z5:FK P prog w os b 285 H)(y:FK P prog w os b 292 I)(z:FK P prog w os b 306 J)(C:FK P prog w os b 320 O)(z4:FK P prog w os b 335 Q)(z3:FK P prog w os b 342 R)(B:FK P prog w os b 313 M)(z2:FK P prog w os b 349 (Mr P))
  {A:Around} {W:Wd} {s:Shared} {ns:List Int} {T:List Value} (hb:6<=b) (hA:fJ (b+1) A) (y2:A.frames=some []) (z1:eD (TT P prog w os) yR W (dY 0 []) s) (hn:W.n=0) (u:aN W [.fl ns] T)
  (hp:Av H I J O Q R M N (fun σ=>∃E σ₁,Fk σ=some (E,σ₁)/\To E σ₁) (cH xe iD ir [.fl ns] [])):codeAny (model prog w) A (.call (.ref 354) ⟨T,[]⟩) (gG (TT P prog w os) W.F) s:=by
 refine Ai (os:=[]) (pn:=xe) (cn:=iD) (vn:=ir) (mk:=fun T=>⟨T,[]⟩) (Rg P) (Rj P) (bp.eq fun T hl=>by
  obtain⟨u0,rfl⟩:=iS hl;exact Ji P u0) (by have:=hA.dep;exact cq 0x2004010880108002080410800608022 rfl hb this) rfl u hn z1 fun L G z8 j z7 t=>?_
 have Z:=RY P 0 G L;have Y:fJ b (A.deeper (XX P 354 L G ir (aF iD 0)).env):=fJ.deeper hA _;have z0:(A.deeper (XX P 354 L G ir (aF iD 0)).env).frames=some [(XX P 354 L G ir (aF iD 0)).env]:=Around.frames_deeper y2;have hcall:∀X E σ₁ T V,To E σ₁->ci W s.heap X V.heap->aN X E T->bQ (TT P prog w os) (XX P 354 L G ir (aF iD 0)) yR X σ₁ V->codeAny (model prog w) (A.deeper (XX P 354 L G ir (aF iD 0)).env) (.call (.ref 349) ⟨T,[]⟩) (fun r S=>r=.ok (.ret (.bool true))/\nz (TT P prog w os) W.F S) V:=by
  intro X E σ₁ T V hk g u hr;obtain⟨m,p,d,D,k,l,h0,h1,h2,hk,rfl,hl,y3⟩:=hk;have sk:eP 16 (k:Int):=eP.lit (by rw [Int.natAbs_natCast];exact aW 0x20000500021fa08000021 rfl hk);have y0:∀i∈[l],i<X.n:=fun i hi=>by rw [cJ.mp hi,<-hr.nx];exact hl
  have y1:∀i∈bA [PV.int ((k:Int)*m*p*d),.loc l,.int (k:Int),.int D],i∈[l]:=fun i hi=>hi
  have hv:aN (ne X [l]) [.int ((k:Int)*m*p*d),.loc ([l].idxOf l),.int (k:Int),.int D] T:=u.ren (iZ X [l]) y1;rw [show [l].idxOf l=0 by simp]at hv
  have z6:=bQ.freeze hr (ids:=[l]) (os:=[.list ([m,p,d].map .int)]) (by simp) y0 (bK y3 (ie _) rfl)
  by_cases hz:m*p*(k:Int)=0
  .exact jP (Qv P prog w os ⟨by have:=Y.dep;exact cq 0x2018210082110000080410800608022 rfl hb this,by have:=Y.uni;exact cq 0x100642060408042084401908002061008410800608102 rfl hb this,Y.hnd⟩ z0 (xa.push (fun y5 he=>by cases he) z1.hR g hr Z rfl [l]) z6 rfl hv (Dz h0 h1 sk hz)) fun r S c=>⟨c.1,nz.mono g.F c.2⟩
  .refine jP (z2 _ _ _ V T _ [.list ([m,p,d].map .int)] (.bool true) [.list ([m,p,d].map .int)] [] Y (Pz P h0 h1 h2 sk hz) rfl hv rfl z6) fun r S c=>?_
   rcases r with e|(_|_|_|_)<;>first|exact c.elim|skip
   rename_i v;obtain⟨W',g',z9,q,_⟩:=c;rw [show v=.bool true from z9];exact⟨rfl,W'.F,S.heap,sK.of q [] (fun L h=>by cases h) (fun L h=>by cases h),fun _ _ e=>e,q.bare,q.os,fun a o e=>g'.F a o (g.F a o e)⟩
 have sp:cM (TT P prog w os) (XX P 354 L G ir (aF iD 0)) (A.deeper (XX P 354 L G ir (aF iD 0)).env) yR W s.heap (cc P 354) (Av H I J O Q R M N (fun σ=>∃E σ₁,Fk σ=some (E,σ₁)/\To E σ₁)) (fun f S=>f=.ret (.bool true)/\nz (TT P prog w os) W.F S)
   (fun e S=>wpAny (model prog w) (A.deeper (XX P 354 L G ir (aF iD 0)).env) (leaving (XX P 354 L G ir (aF iD 0)).env e) (fun _ x=>gG (TT P prog w os) W.F (.error e) x) (fun e' x=>gG (TT P prog w os) W.F (.error e') x) S):=
  (cM.cons Y (ax.assign (aa.call (aa.glob Z 21 rfl (by left) rfl) (ak.cons (aa.loc Z 0 rfl) ak.nil) z5 (NM P) (Nu P)) (aA.cell Z 0 0 rfl (by left)) (by left) (by left))
  (cM.cons Y (ax.assignComp (vars:=[(Str.ofString "k")]) (cvn:=[((Str.ofString "cells"),0)]) (js:=[0]) N (bR.val (aa.tcall (aa.blt Z 7 rfl (by left) rfl) (ak.cons (aa.int 6) ak.nil) jk)) (by left) (by left) (fun L_ y4=>have U:bf (cu _ _ [(Str.ofString "k")] [((Str.ofString "cells"),0)] y4 L_):=bf.of (by left) rfl rfl;⟨(aA.loc U 0 rfl),dR.nil,(aa.tup (ak.cons (aa.call (aa.glob U 22 rfl (by left) rfl) (ak.cons (aa.index (aa.cell U 0 0 rfl) (aa.loc U 0 rfl)) ak.nil) y (HY P) (GB P)) (ak.cons (aa.call (aa.glob U 22 rfl (by left) rfl) (ak.cons (aa.index (aa.cell U 0 0 rfl) (aa.binop (aa.loc U 0 rfl) (aa.int 6) bG)) ak.nil) y (HY P) (GB P)) ak.nil)))⟩) (aA.loc Z 1 rfl) (by left))
  (cM.cons Y (ax.assign (aa.list (ak.cons (aa.call (aa.glob Z 24 rfl (by left) rfl) (ak.cons (aa.index (aa.cell Z 0 0 rfl) (aa.int 12)) ak.nil) z (FU P) (Fu P)) (ak.cons (aa.call (aa.glob Z 24 rfl (by left) rfl) (ak.cons (aa.index (aa.cell Z 0 0 rfl) (aa.int 13)) ak.nil) z (FU P) (Fu P)) ak.nil))) (aA.loc Z 2 rfl) (by left) (by left))
  (cM.cons Y (ax.ite (bj.bool (eI.or (bj.not (bj.val (aa.call (aa.glob Z 26 rfl (by left) rfl) (ak.cons (aa.index (aa.loc Z 2 rfl) (aa.int 0)) ak.nil) C (FL P) (GG P)))) (eI.or (bj.not (bj.val (aa.call (aa.glob Z 26 rfl (by left) rfl) (ak.cons (aa.index (aa.loc Z 2 rfl) (aa.int 1)) ak.nil) C (FL P) (GG P)))) eI.orNil))) (ah.cons (ax.ret (aa.bool false)) ah.nil) ah.nil)
  (cM.cons Y (ax.assign (aa.list (ak.cons (aa.binop (aa.int 1) (aa.binop (aa.index (aa.cell Z 0 0 rfl) (aa.int 14)) (aa.int 1000) gq) bG) (ak.cons (aa.binop (aa.int 1) (aa.binop (aa.binop (aa.index (aa.cell Z 0 0 rfl) (aa.int 14)) (aa.int 1000) ql) (aa.int 1000) gq) bG) ak.nil))) (aA.loc Z 3 rfl) (by left) (by left))
  (cM.cons Y (ax.assign (aa.call (aa.glob Z 29 rfl (by left) rfl) (ak.cons (aa.list (ak.cons (aa.tup (ak.cons (aa.index (aa.loc Z 2 rfl) (aa.int 0)) (ak.cons (aa.index (aa.loc Z 3 rfl) (aa.int 0)) ak.nil))) (ak.cons (aa.tup (ak.cons (aa.index (aa.loc Z 2 rfl) (aa.int 1)) (ak.cons (aa.index (aa.loc Z 3 rfl) (aa.int 1)) ak.nil))) ak.nil))) (ak.cons (aa.index (aa.cell Z 0 0 rfl) (aa.int 14)) ak.nil)) z4 (NK P) (NH P)) (aA.loc Z 4 rfl) (by left) (by left))
  (cM.cons Y (ax.ite (bj.cmp (aa.loc Z 4 rfl) aa.none Ge) (ah.cons (ax.ret (aa.bool false)) ah.nil) ah.nil)
  (cM.cons Y (ax.assign (aa.call (aa.glob Z 30 rfl (by left) rfl) (ak.cons (aa.loc Z 4 rfl) (ak.cons (aa.loc Z 1 rfl) ak.nil)) z3 (NT P) (NB P)) (aA.loc Z 5 rfl) (by left) (by left))
  (cM.cons Y (ax.assign (aa.call (aa.glob Z 25 rfl (by left) rfl) (ak.cons (aa.index (aa.loc Z 2 rfl) (aa.int 0)) (ak.cons (aa.loc Z 1 rfl) ak.nil)) B (BC P) (Bc P)) (aA.loc Z 6 rfl) (by left) (by left))
  (cM.cons Y (ax.assign (aa.call (aa.glob Z 25 rfl (by left) rfl) (ak.cons (aa.index (aa.loc Z 2 rfl) (aa.int 1)) (ak.cons (aa.loc Z 1 rfl) ak.nil)) B (BC P) (Bc P)) (aA.loc Z 7 rfl) (by left) (by left))
  (cM.cons Y (ax.assign (aa.binop (aa.binop (aa.binop (aa.index (aa.loc Z 3 rfl) (aa.int 1)) (aa.index (aa.loc Z 7 rfl) (aa.int 0)) dN) (aa.index (aa.loc Z 7 rfl) (aa.int 1)) dN) (aa.index (aa.loc Z 7 rfl) (aa.int 2)) dN) (aA.loc Z 8 rfl) (by left) (by left))
  (cM.cons Y (ax.ite (bj.cmp (aa.loc Z 5 rfl) (aa.binop (aa.binop (aa.binop (aa.binop (aa.index (aa.loc Z 3 rfl) (aa.int 0)) (aa.index (aa.loc Z 6 rfl) (aa.int 0)) dN) (aa.index (aa.loc Z 6 rfl) (aa.int 1)) dN) (aa.index (aa.loc Z 6 rfl) (aa.int 2)) dN) (aa.loc Z 8 rfl) bG) wF) (ah.cons (ax.ret (aa.bool false)) ah.nil) ah.nil)
  (cM.retCall Y (aa.glob Z 31 rfl (by left) rfl) (ak.cons (aa.binop (aa.loc Z 5 rfl) (aa.loc Z 8 rfl) iX) (ak.cons (aa.loc Z 6 rfl) (ak.cons (aa.index (aa.loc Z 3 rfl) (aa.int 0)) (ak.cons (aa.index (aa.cell Z 0 0 rfl) (aa.int 14)) ak.nil)))) (Hf P) (IJ P) hcall (fun S h=>⟨rfl,h⟩))))))))))))))
 refine bt (sp.go z8 _ j z7 hp t) (fun f S h=>?_) fun e S h=>h
 obtain⟨rfl,h⟩:=h;exact⟨rfl,h⟩
theorem Lz(Z:List Int):cH xe iD ir [.fl Z] []=⟨[some (.fl Z),none,none,none,none,none,none,none,none],[(0,.cell none)],1⟩:=by left
noncomputable def S5(Y:List Int)(Q R S T U V W X:Option PV)(st:List (Nat×AO))(Z:Nat):AS:=⟨[some (.fl Y),Q,R,S,T,U,V,W,X],st,Z⟩
noncomputable def gJ(Z:List Int)(k:Nat):Int×Int:=(qB (Z.getD k 0),qB (Z.getD (k+6) 0))
theorem AQ(Z:List Int):ly (gJ Z):=fun k _=>⟨wp _,wp _⟩
noncomputable abbrev SU:ER:=bT (ae (aY Em (ae (ai (aI 0) (ac 0) aH) al)) (ae (aY Em (ae (ai (aI 0) (ai (ac 0) (ab (.int 6)) bk) aH) al)) al))
theorem jF{Z:List Int}{σ:AS}{e:ER}{k:Nat}(X:k<Z.length)(Y:Z.length=15)(W:e σ=some (.int (k:Int),σ))(U:σ.st.lookup 0=some (.cell (some (.loc 1))))(V:σ.st.lookup 1=some (.list (Z.map .int))):ai (aI 0) e aH σ=some (.int (Z.getD k 0),σ):=by
 refine av (bS U) W (pH V (wR ?_ (by exact(aW 0x3e8200000bc2000821 rfl Y))));rw [km,fh X];rfl
theorem Rv{Z:List Int}(Y:Z.length=15){k:Nat}(X:k<6){st:List (Nat×AO)}{nx:Nat}(V:st.lookup 0=some (.cell (some (.loc 1))))(W:st.lookup 1=some (.list (Z.map .int))):SU ⟨[cI (k:Int)],st,nx⟩=some (.tup [.int (gJ Z k).1,.int (gJ Z k).2],⟨[cI (k:Int)],st,nx⟩):=by
 have a:=jF (σ:=⟨[cI (k:Int)],st,nx⟩) (e:=ac 0) (k:=k) (by exact(bD 0x100426084010bc2000a22 rfl Y X)) Y rfl V W;have b:=jF (σ:=⟨[cI (k:Int)],st,nx⟩) (e:=ai (ac 0) (ab (.int 6)) bk) (k:=k+6) (by exact(bD 0x3042010426084010bc2000a22 rfl Y X)) Y (av (r:=some (.int ((k:Int)+6),⟨[cI (k:Int)],st,nx⟩)) rfl rfl rfl) V W;exact eo (aC (bF (ps:=[.int (Z.getD k 0)]) (aC (g:=al) a rfl) rfl rfl (HG _)) (aC (g:=al) (bF (ps:=[.int (Z.getD (k+6) 0)]) (aC (g:=al) b rfl) rfl rfl (HG _)) rfl)) (show 2<=2^20 by decide)
noncomputable def Th(Z:List Int)(k:Nat):PV:=.tup [.int (gJ Z k).1,.int (gJ Z k).2]
theorem wk{Z:List Int}(Q:Z.length=15):∀(n k m:Nat) (X:Option PV) (st:List (Nat×AO)),k+n=6->n<m->st.lookup 0=some (.cell (some (.loc 1)))->st.lookup 1=some (.list (Z.map .int))->st.lookup 2=some (.list ((List.range k).map (Th Z)))->
  ∃S Y,jM (ap 0) ff SU 2 m (.rng (k:Int) n) ⟨[X],st,3⟩=some ⟨[S],Y,3⟩/\Y.lookup 2=some (.list (cV (gJ Z)))/\Y.lookup 0=some (.cell (some (.loc 1)))/\Y.lookup 1=some (.list (Z.map .int))
 |n,k,0,X,st,_,V,_,_,_=>absurd V (fg _)
 |0,k,m+1,X,st,W,V,T,U,R=>by
  have:k=6:=by exact bY (aW 0x30400004c10040010821 rfl W) (aW 0xc1004c10040010a21 rfl W)
  subst this;exact⟨X,st,rfl,R,T,U⟩
 |n+1,k,m+1,X,st,W,V,T,U,R=>by
  have e:=Rv Q (k:=k) (by exact(bD 0x182000426084210080010821 rfl W)) (nx:=3) T U;rw [mR,show jU ⟨[X],st,3⟩ (.rng (k:Int) (n+1))=some (some (.int (k:Int),.rng ((k:Int)+1) n))from rfl];dsimp only;rw [show ap 0 (.int (k:Int)) ⟨[X],st,3⟩=some ⟨[cI (k:Int)],st,3⟩from rfl];dsimp only;rw [show ff ⟨[cI (k:Int)],st,3⟩=some (true,⟨[cI (k:Int)],st,3⟩)from rfl];dsimp only;rw [e];dsimp only;rw [iN (σ:=⟨[cI (k:Int)],st,3⟩) R (by rw [db,An];exact bD 0x400000c000026084210080010821 rfl W)];dsimp only;have O:(List.range k).map (Th Z)++[.tup [.int (gJ Z k).1,.int (gJ Z k).2]]=(List.range (k+1)).map (Th Z):=by rw [Hq,lx];rfl
  rw [O];obtain⟨P,Y,N,r⟩:=wk Q n (k+1) m (some (.int (k:Int))) (aG st 2 (.list ((List.range (k+1)).map (Th Z)))) (by exact(bY (bD 0x6084010800210026084210080010821 rfl W) (bD 0x1004200084608026084210080010a21 rfl W))) (by exact(JU V)) ((aL (by decide)).trans T) ((aL (by decide)).trans U) ba;exact⟨P,Y,N,r⟩
theorem HX{f:BR}{σ σ₁:AS}(h:f σ=some (true,σ₁)):zu f σ=some (false,σ₁):=by show eY f _ σ=_;rw [bi h];rfl
theorem QN{Y Z:List Int}(e:Af [.fl Y] []=some (.loc 0,[],[.list (Z.map .int)])):
  am (aY Af (ae (ac 0) al)) (dQ 0) (S5 Y none none none none none none none none [(0,.cell none)] 1)=some (.next,S5 Y none none none none none none none none [(1,.list (Z.map .int)),(0,.cell (some (.loc 1)))] 2):=by
 have X:=dp (C:=Af) (fs:=ae (ac 0) al) (ids:=[]) (os:=[]) (ps:=[.fl Y]) (p:=.loc 0) (ns:=[.list (Z.map .int)]) (σ:=S5 Y none none none none none none none none [(0,.cell none)] 1) (σ₁:=S5 Y none none none none none none none none [(0,.cell none)] 1) rfl rfl rfl (fun W h=>by cases h) rfl e rfl rfl (fun W h=>by rw [cJ.mp h];exact ie _);exact aB X rfl
noncomputable abbrev TP:ER:=dq 100 1 (cy (aQ eC (ae (ab (.int 6)) al))) (ap 0) ff SU
theorem So{ns Z:List Int}(U:Z.length=15):∃st,am TP (ap 1) (S5 ns none none none none none none none none [(1,.list (Z.map .int)),(0,.cell (some (.loc 1)))] 2)=some (.next,S5 ns (some (.loc 2)) none none none none none none none st 3)/\st.lookup 2=some (.list (cV (gJ Z)))/\st.lookup 0=some (.cell (some (.loc 1)))/\st.lookup 1=some (.list (Z.map .int)):=by
 obtain⟨W,X,e,r⟩:=wk U 6 0 100 none ((2,.list [])::[(1,.list (Z.map .int)),(0,.cell (some (.loc 1)))]) rfl (by decide) rfl rfl rfl;have V:cy (aQ eC (ae (ab (.int 6)) al)) (S5 ns none none none none none none none none [(1,.list (Z.map .int)),(0,.cell (some (.loc 1)))] 2)=some (.rng 0 6,S5 ns none none none none none none none none [(1,.list (Z.map .int)),(0,.cell (some (.loc 1)))] 2):=gV (p:=.rng 0 6) (ce (ps:=[.int 6]) rfl rfl) (rp (by decide));refine⟨X,aB (p:=.loc 2) (σ₁:=S5 ns none none none none none none none none X 3) ?_ rfl,r⟩;show dq 100 1 (cy (aQ eC (ae (ab (.int 6)) al))) (ap 0) ff SU _=_;unfold dq;rw [V];dsimp only;have T:jM (ap 0) ff SU 2 100 (.rng 0 6) ⟨List.replicate 1 none,(2,.list [])::[(1,.list (Z.map .int)),(0,.cell (some (.loc 1)))],2+1⟩=some ⟨[W],X,3⟩:=e;exact(bw (fun x=>match x with|some Y=>some (PV.loc 2,(⟨(S5 ns none none none none none none none none [] 0).loc,Y.st,Y.nx⟩:AS))|none=>none) T).trans rfl
noncomputable abbrev Bl(Z:List Int)(i:Nat):List PV:=[dP (gJ Z) i 0,dP (gJ Z) i 1,dP (gJ Z) i 2].map .int
structure Lk(cells:List Int)(i0 i1 k0 k1:Nat)(st:List (Nat×AO)):Prop where
 c0:st.lookup 0=some (.cell (some (.loc 1)))
 c1:st.lookup 1=some (.list (cells.map .int))
 c2:st.lookup 2=some (.list (cV (gJ cells)))
 c3:st.lookup 3=some (.list [.str (aw (wd i0)),.str (aw (wd i1))])
 c4:st.lookup 4=some (.list [.int (k0:Int),.int (k1:Int)])
theorem Lk.ag{Z:List Int}{U V W X:Nat}{st Y:List (Nat×AO)}(h:Lk Z U V W X st)(g:∀j,j<5->Y.lookup j=st.lookup j):Lk Z U V W X Y:=
 ⟨(g 0 (by decide)).trans h.c0,(g 1 (by decide)).trans h.c1,(g 2 (by decide)).trans h.c2,(g 3 (by decide)).trans h.c3,(g 4 (by decide)).trans h.c4⟩
section
variable {ns cells:List Int}{l4 l5 l6 l7 l8:Option PV}{st:List (Nat×AO)}{nx:Nat}
noncomputable abbrev wx(k:Nat):ER:=ai (ac 2) (ab (.int (k:Int))) aH
noncomputable abbrev cx(k:Nat):ER:=ai (ac 3) (ab (.int (k:Int))) aH
theorem sQ{l1 l3:Option PV}{Y Z p:PV}{k:Nat}(h:st.lookup 3=some (.list [Y,Z]))(X:[Y,Z][k]?=some p):wx k (S5 ns l1 (some (.loc 3)) l3 l4 l5 l6 l7 l8 st nx)=some (p,S5 ns l1 (some (.loc 3)) l3 l4 l5 l6 l7 l8 st nx):=av rfl rfl (jf (σ:=S5 ns l1 (some (.loc 3)) l3 l4 l5 l6 l7 l8 st nx) h X (by show(2:Nat)<=_;decide))
theorem xo{l1 l2:Option PV}{Y Z p:PV}{k:Nat}(h:st.lookup 4=some (.list [Y,Z]))(X:[Y,Z][k]?=some p):cx k (S5 ns l1 l2 (some (.loc 4)) l4 l5 l6 l7 l8 st nx)=some (p,S5 ns l1 l2 (some (.loc 4)) l4 l5 l6 l7 l8 st nx):=av rfl rfl (jf (σ:=S5 ns l1 l2 (some (.loc 4)) l4 l5 l6 l7 l8 st nx) h X (by show(2:Nat)<=_;decide))
noncomputable abbrev wD:ER:=ai (aI 0) (ab (.int 14)) aH
noncomputable abbrev UM:ER:=ai (ab (.int 1)) (ai wD (ab (.int 1000)) dj) bk
noncomputable abbrev UN:ER:=ai (ab (.int 1)) (ai (ai wD (ab (.int 1000)) gu) (ab (.int 1000)) dj) bk
theorem Ce{n:Int}{m:Nat}{σ:AS}(h:Int.fmod n ((1000:Nat):Int)=m):dj (.int n) (.int 1000) σ=some (.int (m:Int),σ):=cF (k:=nN) (by
 unfold nN;rw [aJ (by decide),show(1000:Int)=((1000:Nat):Int)from rfl,h])
theorem DS{σ:AS}{c:Int}{Y Z:Nat}(X:wD σ=some (.int c,σ))(V:Int.fmod c ((1000:Nat):Int)=Y)(W:Int.fmod (Int.fdiv c 1000) ((1000:Nat):Int)=Z):UM σ=some (.int ((1+Y:Nat):Int),σ)/\UN σ=some (.int ((1+Z:Nat):Int),σ):=by
 have ad:∀m:Nat,bk (.int 1) (.int (m:Int)) σ=some (.int ((1+m:Nat):Int),σ):=fun m=>by
  show some (PV.int (1+(m:Int)),σ)=_;rw [Int.natCast_add];rfl
 have fd:gu (.int c) (.int 1000) σ=some (.int (Int.fdiv c 1000),σ):=cF (k:=wa) (by
  unfold wa;rw [aJ ⟨by decide,zc (by decide)⟩])
 exact⟨av rfl (av X rfl (Ce V)) (ad Y),av rfl (av (av X rfl fd) rfl (Ce W)) (ad Z)⟩
end
theorem AZ{Z:List Int}{i k:Nat}(V:i<15){σ:AS}(Y:wx k σ=some (.str (aw (wd i)),σ))(X:fQ σ.loc 1=some (.loc 2))(U:σ.st.lookup 2=some (.list (cV (gJ Z))))(W:2<σ.nx):
  aY ny (ae (wx k) (ae (ac 1) al)) σ=some (.loc σ.nx,{σ with st:=(σ.nx,.list (Bl Z i))::aG σ.st 2 (.list (cV (gJ Z))),nx:=σ.nx+1}):=
 dp (C:=ny) (ids:=[2]) (os:=[.list (cV (gJ Z))]) (ps:=[.str (aw (wd i)),.loc 2]) (p:=.loc 1) (ns:=[.list (Bl Z i)]) (σ:=σ) (σ₁:=σ) (aC Y (aC (g:=al) (ka X) rfl)) rfl (by show [σ.st.lookup 2]=_;rw [U];rfl) (fun T h=>by rw [cJ.mp h];exact mK _) (pV W (by rfl)) (JW (AQ Z) V) rfl rfl (fun T h=>by rw [cJ.mp h];exact ie _)
noncomputable abbrev Tq(e:ER)(j:Nat):ER:=ai (ai (ai e (ai (ac j) (ab (.int 0)) aH) cO) (ai (ac j) (ab (.int 1)) aH) cO) (ai (ac j) (ab (.int 2)) aH) cO
theorem Jx{σ:AS}{e:ER}{j l k:Nat}{X Y Z:Int}(P:e σ=some (.int (k:Int),σ))(R:k<=1000)(Q:fQ σ.loc j=some (.loc l))(S:σ.st.lookup l=some (.list ([X,Y,Z].map .int)))(V:eP 400 X)(U:eP 400 Y)(O:eP 400 Z):Tq e j σ=some (.int ((k:Int)*X*Y*Z),σ):=by
 have W:eP 16 (k:Int):=eP.lit (by rw [Int.natAbs_natCast];exact aW 0x20000500021fa08000021 rfl R);have g:∀m:Nat,∀v,DT [X,Y,Z] (m:Int)=some v->ai (ac j) (ab (.int (m:Int))) aH σ=some (.int v,σ):=fun m v T=>av (ka Q) rfl (pH S T)
 exact av (av (av P (g 0 _ rfl) (nX (W.mono (by decide)) (V.mono (by decide)))) (g 1 _ rfl) (nX ((W.mul V).mono (by decide)) (U.mono (by decide)))) (g 2 _ rfl) (nX (((W.mul V).mul U).mono (by decide)) (O.mono (by decide)))
noncomputable abbrev P1:Option PV:=some (.loc 2)
noncomputable abbrev P9:Option PV:=some (.loc 3)
noncomputable abbrev P3:Option PV:=some (.loc 4)
noncomputable abbrev P4:Option PV:=some (.hdr 274 6)
theorem Hc(P:Params){Y:List Int}(hn:Y.length<=63):Av Af Em Ea HD (Dr P) (DM P) ny 100 (fun σ=>∃B σ₁,Fk σ=some (B,σ₁)/\To B σ₁) (cH xe iD ir [.fl Y] []):=by
 obtain⟨Z,I,z4⟩:=OL hn;have a1:=QN z4;obtain⟨Q,a2,p2,c2,d2⟩:=So (ns:=Y) I;obtain⟨W,E,w0⟩:=Js (Z.getD 12 0);obtain⟨X,l,w1⟩:=Js (Z.getD 13 0);obtain⟨m0,t,z9⟩:=fV (n:=Z.getD 14 0) (m:=1000) (by decide);obtain⟨m1,z1,z8⟩:=fV (n:=Int.fdiv (Z.getD 14 0) 1000) (m:=1000) (by decide);generalize r:Z.getD 14 0=c at *
 have a3:am (bH (ae (aY Ea (ae (ai (aI 0) (ab (.int 12)) aH) al)) (ae (aY Ea (ae (ai (aI 0) (ab (.int 13)) aH) al)) al))) (ap 2) (S5 Y P1 none none none none none none none Q 3)=some (.next,S5 Y P1 P9 none none none none none none ((3,.list [.str (aw (wd W)),.str (aw (wd X))])::Q) 4):=by
  have b0:=jF (σ:=S5 Y P1 none none none none none none none Q 3) (e:=ab (.int 12)) (k:=12) (by exact(aW 0x30210bc2000a21 rfl I)) I rfl c2 d2;have b1:=jF (σ:=S5 Y P1 none none none none none none none Q 3) (e:=ab (.int 13)) (k:=13) (by exact(aW 0x34210bc2000a21 rfl I)) I rfl c2 d2;exact aB (pW (aC (bF (ps:=[.int (Z.getD 12 0)]) (aC (g:=al) b0 rfl) rfl rfl w0) (aC (g:=al) (bF (ps:=[.int (Z.getD 13 0)]) (aC (g:=al) b1 rfl) rfl rfl w1) rfl)) (show 2<=2^20 by decide)) rfl
 have g3:∀j,j<3->((3,AO.list [.str (aw (wd W)),.str (aw (wd X))])::Q).lookup j=Q.lookup j:=fun j J=>dM (by exact(fun M=>aW 0x30800288c2000422 rfl J M))
 have w3:((3,AO.list [.str (aw (wd W)),.str (aw (wd X))])::Q).lookup 3=some (.list [.str (aw (wd W)),.str (aw (wd X))]):=cm;generalize ((3,AO.list [.str (aw (wd W)),.str (aw (wd X))])::Q)=st3 at *
 have c3:=(g3 0 (by decide)).trans c2;have d3:=(g3 1 (by decide)).trans d2;have p3:=(g3 2 (by decide)).trans p2;have a4:∀f:SR,dn (kG (zu (au (aY HD (ae (wx 0) al)))) (kG (zu (au (aY HD (ae (wx 1) al)))) lG)) f aq (S5 Y P1 P9 none none none none none none st3 4)=some (.next,S5 Y P1 P9 none none none none none none st3 4):=fun f=>by
  have v:=sQ (ns:=Y) (l1:=P1) (l3:=none) (l4:=none) (l5:=none) (l6:=none) (l7:=none) (l8:=none) (nx:=4) (k:=0) w3 rfl;have d:=sQ (ns:=Y) (l1:=P1) (l3:=none) (l4:=none) (l5:=none) (l6:=none) (l7:=none) (l8:=none) (nx:=4) (k:=1) w3 rfl;exact(bM ((xc (HX (aS (p:=.bool true) (bF (ps:=[.str (aw (wd W))]) (aC (g:=al) v rfl) rfl rfl (Sy W E)) rfl))).trans ((xc (HX (aS (p:=.bool true) (bF (ps:=[.str (aw (wd X))]) (aC (g:=al) d rfl) rfl rfl (Sy X l)) rfl))).trans rfl))).trans rfl
 have a5:am (bH (ae UM (ae UN al))) (ap 3) (S5 Y P1 P9 none none none none none none st3 4)=some (.next,S5 Y P1 P9 P3 none none none none none ((4,.list [.int ((1+m0:Nat):Int),.int ((1+m1:Nat):Int)])::st3) 5):=by
  have b:=jF (σ:=S5 Y P1 P9 none none none none none none st3 4) (e:=ab (.int 14)) (k:=14) (by exact(aW 0x38210bc2000a21 rfl I)) I rfl c3 d3;rw [r]at b
  obtain⟨v,d⟩:=DS b z9 z8;exact aB (pW (aC v (aC (g:=al) d rfl)) (show 2<=2^20 by decide)) rfl
 generalize s:1+m0=S at *
 generalize z2:1+m1=U at *
 have N:Lk Z W X S U ((4,.list [.int (S:Int),.int (U:Int)])::st3):=⟨(dM (by decide)).trans c3,(dM (by decide)).trans d3,(dM (by decide)).trans p3,(dM (by decide)).trans w3,cm⟩;generalize ((4,AO.list [.int (S:Int),.int (U:Int)])::st3)=st5 at *
 obtain⟨V,L,z3,hL,z6,z7,a⟩:=Pt P E l (show S<=1000 by exact Fp t s) (show U<=1000 by exact Fp z1 z2) c;have a6:am (aY (Dr P) (ae (bH (ae (bT (ae (wx 0) (ae (cx 0) al))) (ae (bT (ae (wx 1) (ae (cx 1) al))) al))) (ae wD al))) (ap 4) (S5 Y P1 P9 P3 none none none none none st5 5)=some (.next,S5 Y P1 P9 P3 P4 none none none none ((6,.list (az (aE V)))::aG ((5,.list (ty W S X U))::st5) 5 (.list L)) 7):=by
  have v:=sQ (ns:=Y) (l1:=P1) (l3:=P3) (l4:=none) (l5:=none) (l6:=none) (l7:=none) (l8:=none) (nx:=5) (k:=0) N.c3 rfl;have d:=sQ (ns:=Y) (l1:=P1) (l3:=P3) (l4:=none) (l5:=none) (l6:=none) (l7:=none) (l8:=none) (nx:=5) (k:=1) N.c3 rfl;have y0:=xo (ns:=Y) (l1:=P1) (l2:=P9) (l4:=none) (l5:=none) (l6:=none) (l7:=none) (l8:=none) (nx:=5) (k:=0) N.c4 rfl;have y1:=xo (ns:=Y) (l1:=P1) (l2:=P9) (l4:=none) (l5:=none) (l6:=none) (l7:=none) (l8:=none) (nx:=5) (k:=1) N.c4 rfl;have el:=pW (aC (eo (aC v (aC (g:=al) y0 rfl)) (show 2<=2^20 by decide)) (aC (g:=al) (eo (aC d (aC (g:=al) y1 rfl)) (show 2<=2^20 by decide)) rfl)) (show 2<=2^20 by decide);have b:=jF (σ:=S5 Y P1 P9 P3 none none none none none ((5,.list (ty W S X U))::st5) 6) (e:=ab (.int 14)) (k:=14) (by exact(aW 0x38210bc2000a21 rfl I)) I rfl ((dM (by decide)).trans N.c0) ((dM (by decide)).trans N.c1);rw [r]at b
  have ha:=aC (g:=ae wD al) (σ₁:=S5 Y P1 P9 P3 none none none none none ((5,.list (ty W S X U))::st5) 6) el (aC (g:=al) b rfl);have ec:=lL (C:=Dr P) (σ₁:=S5 Y P1 P9 P3 none none none none none ((5,.list (ty W S X U))::st5) 6) (ps:=[.loc 5,.int c]) (ids:=[5]) (os:=[.list (ty W S X U)]) (os':=[.list L]) (p:=.hdr 274 1) (ns:=[.list (az (aE V))]) rfl (by show [List.lookup 5 ((5,AO.list (ty W S X U))::st5)]=_;rw [cm];rfl) (fun ao h=>by rw [cJ.mp h];rfl) rfl z3 rfl (fun ao h=>by rw [cJ.mp h];exact hL) rfl rfl (fun ao h=>by rw [cJ.mp h];exact bo _);refine aB (p:=.hdr 274 6) (σ₁:=S5 Y P1 P9 P3 none none none none none ((6,.list (az (aE V)))::aG ((5,.list (ty W S X U))::st5) 5 (.list L)) 7) ?_ rfl
  unfold aY;rw [ha];exact ec
 have u:Lk Z W X S U ((6,.list (az (aE V)))::aG ((5,.list (ty W S X U))::st5) 5 (.list L)):=N.ag fun j J=>(dM (by exact(fun M=>aW 0x6080028942000422 rfl J M))).trans ((aL (by exact(fun M=>aW 0x5080028942000422 rfl J M))).trans (dM (by exact(fun M=>aW 0x5080028942000422 rfl J M))))
 have r6:((6,AO.list (az (aE V)))::aG ((5,.list (ty W S X U))::st5) 5 (.list L)).lookup 6=some (.list (az (aE V))):=cm;generalize ((6,AO.list (az (aE V)))::aG ((5,.list (ty W S X U))::st5) 5 (.list L))=st6 at *
 have a7:∀f:SR,dn (au (ai (ac 4) (ab .none) MW)) f aq (S5 Y P1 P9 P3 P4 none none none none st6 7)=some (.next,S5 Y P1 P9 P3 P4 none none none none st6 7):=fun f=>(bM (aS (p:=.bool false) (av rfl rfl rfl) rfl)).trans rfl
 have a8:am (aY (DM P) (ae (ac 4) (ae (ac 1) al))) (ap 5) (S5 Y P1 P9 P3 P4 none none none none st6 7)=some (.next,S5 Y P1 P9 P3 P4 (some (.int (val (gJ Z) V))) none none none (aG (aG st6 6 (.list (az (aE V)))) 2 (.list (cV (gJ Z)))) 7):=by
  have ec:=dp (C:=DM P) (fs:=ae (ac 4) (ae (ac 1) al)) (ids:=[6,2]) (os:=[.list (az (aE V)),.list (cV (gJ Z))]) (ps:=[.hdr 274 6,.loc 2]) (p:=.int (val (gJ Z) V)) (ns:=[]) (σ:=S5 Y P1 P9 P3 P4 none none none none st6 7) (σ₁:=S5 Y P1 P9 P3 P4 none none none none st6 7) rfl rfl (by show [st6.lookup 6,st6.lookup 2]=_;rw [r6,u.c2];rfl) (fun ao h=>by
   rcases cC.mp h with rfl|h
   .exact bo _
   .rw [cJ.mp h];exact mK _) rfl (OV P (AQ Z) z7 z6) rfl rfl (fun ao h=>by cases h)
  exact aB ec rfl
 have G:Lk Z W X S U (aG (aG st6 6 (.list (az (aE V)))) 2 (.list (cV (gJ Z)))):=by
  refine u.ag fun j J=>?_
  by_cases h:j=2
  .subst h;rw [ba,u.c2]
  .rw [aL h,aL (by exact(fun M=>aW 0x6080028942000422 rfl J M))]
 generalize (aG (aG st6 6 (.list (az (aE V)))) 2 (.list (cV (gJ Z))))=st8 at *
 generalize hT:val (gJ Z) V=T at *
 let F:Option PV->Option PV->Option PV->List (Nat×AO)->Nat->AS:=fun w x y st A=>S5 Y P1 P9 P3 P4 (some (.int T)) w x y st A
 have o:T=(S:Int)*dD (gJ Z) W+(U:Int)*dD (gJ Z) X:=by rw [<-hT];exact a _
 have a9:am (aY ny (ae (wx 0) (ae (ac 1) al))) (ap 6) (F none none none st8 7)=some (.next,F (some (.loc 7)) none none ((7,.list (Bl Z W))::aG st8 2 (.list (cV (gJ Z)))) 8):=
  aB (AZ E (sQ (k:=0) G.c3 rfl) rfl G.c2 (show 2<7 by decide)) rfl
 have H:Lk Z W X S U ((7,.list (Bl Z W))::aG st8 2 (.list (cV (gJ Z)))):=by
  refine G.ag fun j J=>?_
  rw [dM (by exact(fun M=>aW 0x7080028942000422 rfl J M))]
  by_cases h:j=2
  .subst h;rw [ba,G.c2]
  .rw [aL h]
 have q9:((7,AO.list (Bl Z W))::aG st8 2 (.list (cV (gJ Z)))).lookup 7=some (.list (Bl Z W)):=cm;generalize ((7,AO.list (Bl Z W))::aG st8 2 (.list (cV (gJ Z))))=st9 at *
 have y4:am (aY ny (ae (wx 1) (ae (ac 1) al))) (ap 7) (F (some (.loc 7)) none none st9 8)=some (.next,F (some (.loc 7)) (some (.loc 8)) none ((8,.list (Bl Z X))::aG st9 2 (.list (cV (gJ Z)))) 9):=
  aB (AZ l (sQ (k:=1) H.c3 rfl) rfl H.c2 (show 2<8 by decide)) rfl
 have O:Lk Z W X S U ((8,.list (Bl Z X))::aG st9 2 (.list (cV (gJ Z)))):=by
  refine H.ag fun j J=>?_
  rw [dM (by exact(fun M=>aW 0x8080028942000422 rfl J M))]
  by_cases h:j=2
  .subst h;rw [ba,H.c2]
  .rw [aL h]
 have z5:((8,AO.list (Bl Z X))::aG st9 2 (.list (cV (gJ Z)))).lookup 8=some (.list (Bl Z X)):=cm;have D:((8,AO.list (Bl Z X))::aG st9 2 (.list (cV (gJ Z)))).lookup 7=some (.list (Bl Z W)):=(dM (by decide)).trans ((aL (by decide)).trans q9);generalize ((8,AO.list (Bl Z X))::aG st9 2 (.list (cV (gJ Z))))=st10 at *
 have R:∀i,i<15->∀j,j<3->eP 400 (dP (gJ Z) i j):=fun i hi j J=>QK (AQ Z) hi J
 have z0:∀i (k:Nat),(k:Int)*dD (gJ Z) i=(k:Int)*dP (gJ Z) i 0*dP (gJ Z) i 1*dP (gJ Z) i 2:=fun i k=>by unfold dD;rw [lQ,lQ,lQ]
 rw [z0,z0]at o
 have y3:am (Tq (cx 1) 7) (ap 8) (F (some (.loc 7)) (some (.loc 8)) none st10 9)=some (.next,F (some (.loc 7)) (some (.loc 8)) (some (.int ((U:Int)*dP (gJ Z) X 0*dP (gJ Z) X 1*dP (gJ Z) X 2))) st10 9):=
  aB (Jx (xo (k:=1) O.c4 rfl) (by exact(Fp z1 z2)) rfl z5 (R X l 0 (by decide)) (R X l 1 (by decide)) (R X l 2 (by decide))) rfl
 generalize (U:Int)*dP (gJ Z) X 0*dP (gJ Z) X 1*dP (gJ Z) X 2=less at *
 have v:=Jx (j:=6) (σ:=F (some (.loc 7)) (some (.loc 8)) (some (.int less)) st10 9) (xo (k:=0) O.c4 rfl) (show S<=1000 by exact Fp t s) rfl D (R W E 0 (by decide)) (R W E 1 (by decide)) (R W E 2 (by decide));have y2:∀f:SR,dn (au (ai (ac 5) (ai (Tq (cx 0) 6) (ac 8) bk) pA)) f aq (F (some (.loc 7)) (some (.loc 8)) (some (.int less)) st10 9)=some (.next,F (some (.loc 7)) (some (.loc 8)) (some (.int less)) st10 9):=fun f=>by
  have z:ai (Tq (cx 0) 6) (ac 8) bk (F (some (.loc 7)) (some (.loc 8)) (some (.int less)) st10 9)=some (.int T,F (some (.loc 7)) (some (.loc 8)) (some (.int less)) st10 9):=by
   refine av v rfl ?_
   rw [o];rfl
  refine(bM (aS (p:=.bool false) (av (p:=.int T) (q:=.int T) (σ₁:=F (some (.loc 7)) (some (.loc 8)) (some (.int less)) st10 9) rfl z ?_) rfl)).trans rfl;show some (PV.bool (T != T),_)=_;rw [JI]
 have b:=jF (σ:=F (some (.loc 7)) (some (.loc 8)) (some (.int less)) st10 9) (e:=ab (.int 14)) (k:=14) (by exact(aW 0x38210bc2000a21 rfl I)) I rfl O.c0 O.c1;rw [r]at b
 have y0:=xo (ns:=Y) (l1:=P1) (l2:=P9) (l4:=P4) (l5:=some (.int T)) (l6:=some (.loc 7)) (l7:=some (.loc 8)) (l8:=some (.int less)) (nx:=9) (k:=0) O.c4 rfl;have z:ai (ac 5) (ac 8) dB (F (some (.loc 7)) (some (.loc 8)) (some (.int less)) st10 9)=some (.int ((S:Int)*dP (gJ Z) W 0*dP (gJ Z) W 1*dP (gJ Z) W 2),F (some (.loc 7)) (some (.loc 8)) (some (.int less)) st10 9):=by
  refine av (p:=.int T) (q:=.int less) rfl rfl ?_
  show some (PV.int (T-less),_)=_;rw [o,Int.add_sub_cancel]
 rw [Lz];exact⟨_,a1,_,a2,_,a3,_,a4 _,_,a5,_,a6,_,a7 _,_,a8,_,a9,_,y4,_,y3,_,y2 _,_,F (some (.loc 7)) (some (.loc 8)) (some (.int less)) st10 9,aC z (aC (f:=ac 6) (p:=.loc 7) rfl (aC y0 (aC (g:=al) b rfl))),_,_,_,_,_,7,R W E 0 (by decide),R W E 1 (by decide),R W E 2 (by decide),by exact Fp t s,rfl,show 7<9 by decide,D⟩
noncomputable def nr(K:Frag)(x:Str):Option (Option Value):=(K.lookup mainGlobals).bind (lookIn x)
noncomputable def KD(Z:List Addr)(h:Heap):Addr->Option Obj:=fun a=>if a∈Z then none else h.get? a
theorem iW{Z:List Addr}{h:Heap}{a:Addr}{o:Obj}:KD Z h a=some o↔a∉Z/\h.get? a=some o:=by
 unfold KD
 by_cases Y:a∈Z
 .rw [aJ Y];exact⟨fun e=>(nomatch e),fun e=>absurd Y e.1⟩
 .rw [aO Y];exact⟨fun e=>⟨Y,e⟩,fun e=>e.2⟩
set_option tactic.hygienic true in
theorem tG{Z:Array DictEntry}{X:Nat}{o:Obj}{x:Str}{r:Option Value}(Y:o.data=.dict Z X)(h:lookIn x o=some r):nsFind Z x=r:=by
 unfold lookIn at h
 rw [Y]at h
 dsimp only at h
 unfold nsFind findBy;rw [<-zd]
 split at h
 .rename_i e q;obtain rfl:=bc h;rw [q];rfl
 .rename_i q
  split at h
  .exact aZ h
  .obtain rfl:=bc h;rw [q];rfl
structure mD(T:Tp)(s₁:Shared)(p:Program)(loose:List Str)(mean:ExcName->Option Value)(mg mb:Str->Option Value):Prop where
 KX:T.K.In s₁.heap
 top:Top p loose mean mg mb s₁.heap
 tab:∀P∈T.tabs,s₁.heap.get? P=some (tabObj #[])
 ktab:T.tabs.all (fun P=>(T.K.lookup P).isNone)=true
 gl:∀e∈T.gl,nr T.K e.1=some (some e.2)
 bl:∀e∈T.bl,nr T.K e.1=some none/\bootBuiltins e.1=some e.2/\e.1≠"__name__"
 big:∃a o,T.K.lookup a=some o/\sysModules<a
 os:s₁.os=T.os
 bare:AllBare s₁.gens
theorem mD.topOK{T:Tp}{Z:Shared}{p:Program}{W:List Str}{R:ExcName->Option Value}{S G:Str->Option Value}(B:mD T Z p W R S G):jc T (KD T.tabs Z.heap):=by
 have keep:∀{h:Heap},FH (KD T.tabs Z.heap) h->∀a o,(∀H,o.data≠.fields H)->Z.heap.get? a=some o->h.get? a=some o:=fun Y a o y e=>by
  refine Y a o (iW.mpr ⟨fun N=>?_,e⟩);have:=B.tab a N;rw [e]at this;obtain rfl:=bc this
  exact y _ rfl
 have X:∀{h:Heap},FH (KD T.tabs Z.heap) h->∀{a:Addr} {m:Str->Option Value},Z.heap.Ns a m->h.Ns a m:=fun Y a m ⟨o,E,D,I,M,r⟩=>⟨o,E,D,keep Y a o (fun H e=>by rw [M]at e;cases e) I,M,r⟩
 have Q:∀a o,T.K.lookup a=some o->KD T.tabs Z.heap a=some o:=fun a o e=>by
  refine iW.mpr ⟨fun N=>?_,B.KX a o e⟩;have:=fL.mp B.ktab a N;rw [e]at this;exact EJ this
 have O:∀x r,nr T.K x=some r->S x=r:=fun x r e=>by
  obtain⟨o,I,w⟩:=tI.mp e;obtain⟨q,E,D,P,M,n,u⟩:=B.top.g;have:=B.KX _ _ I;rw [this]at P;obtain rfl:=bc P
  rw [<-u];exact tG M w
 refine⟨Q,fun i x v e h Y=>⟨S,X Y B.top.g,O x _ (B.gl (x,v) (iB e))⟩,fun i x v e h Y=>?_,fun h Y=>?_,?_,fun h Y=>?_⟩
 .obtain⟨U,V,J⟩:=B.bl (x,v) (iB e)
  exact⟨S,G,X Y B.top.g,O x _ U,X Y B.top.b,(B.top.builtins x J).trans V⟩
 .obtain⟨z,U,V⟩:=B.top.nolimit
  exact⟨z,X Y U,V⟩
 .obtain⟨a,o,U,V⟩:=B.big
  exact⟨a,o,Q a o U,V⟩
 .obtain⟨C,A,U,V,J,s,t,F⟩:=B.top.bmain
  refine⟨S,C,A,X Y B.top.g,U,V,iW.mpr ⟨fun N=>?_,J⟩,s,t,F⟩;have:=B.tab C N;rw [J]at this;obtain rfl:=bc this
  cases F
theorem mD.rel{T:Tp}{Z:Shared}{p:Program}{Y:List Str}{X:ExcName->Option Value}{U S:Str->Option Value}(B:mD T Z p Y X U S):eD T yR ⟨KD T.tabs Z.heap,fun _=>0,0⟩ (dY 0 []) Z:=
 ⟨B.topOK,fun a o e=>(iW.mp e).2,fun a o e=>(nomatch e),fun g x e=>(nomatch e),fun i R e=>(nomatch e),fun i W=>absurd W (fg i),fun i j W=>absurd W (fg i),
  fun P V=>⟨aJ V,rfl,#[],B.tab P V,.inl rfl⟩,B.bare,B.os,fun i W=>absurd W (fg i)⟩
theorem yM{Y:List Value}{X:List Int}(h:IntsAre Y X):∃Z:List (Int×Tok),Y=Z.map (fun x=>Value.int x.1 x.2)/\Z.map (·.1)=X:=by
 induction h with
 |nil=>exact⟨[],rfl,rfl⟩
 |cons _ _ _ W=>obtain⟨Z,rfl,rfl⟩:=W;exact⟨(_,_)::Z,rfl,rfl⟩
theorem Lj{T:Tp}{Z O:Shared}{p:Program}{U:List Str}{Q:ExcName->Option Value}{D C:Str->Option Value}(B:mD T Z p U Q D C){E:Wd}{st:List (Nat×AO)}(g:∀a o,KD T.tabs Z.heap a=some o->E.F a=some o)(X:eD T yR E st O)(N:∀P∈T.tabs,isCodeTable Z.heap P)
  {I:ClaimW} {z:Str->Option Addr} {V:ExcName->Option Value} {Y:List WData} (M:∀H,I.raises Y H=false) (S:I.post Y (.bool true) Y=true):
  GoodWG I z V Y Z (.ok (.ret (.bool true))) O:=by
 have R:∀b o,b∉T.tabs->Z.heap.get? b=some o->O.heap.get? b=some o:=fun b o W e=>X.hF b o (g b o (iW.mpr ⟨W,e⟩))
 refine⟨.inl ⟨_,.bool true,[],rfl,M,?_,S,fun _=>⟨on,fun a A=>by cases A⟩⟩,⟨fun b o e=>?_,fun b o e=>?_⟩,X.os.trans B.os.symm,X.bare⟩
 .exact .bool _
 .by_cases W:b∈T.tabs
  .have:=B.tab b W
   rw [e]at this;obtain rfl:=bc this
   obtain⟨_,_,G,J,_⟩:=X.tabs b W;exact .inr (.inl ⟨N b W,rfl,#[],G,rfl,by rw [Array.empty_append];exact J⟩)
  .exact .inl (R b o W e)
 .by_cases W:b∈T.tabs
  .obtain⟨_,_,G,J,_⟩:=X.tabs b W
   exact⟨_,J⟩
  .exact⟨o,R b o W e⟩
theorem mD.arg{T:Tp}{Z:Shared}{p:Program}{Y:List Str}{X:ExcName->Option Value}{P O:Str->Option Value}(B:mD T Z p Y X P O){a:Addr}{V:List Value}{U:List Int}(N:Z.heap.IsList a V.toArray)(I:IntsAre V U):aN (⟨KD T.tabs Z.heap,fun _=>0,0⟩:Wd) [.fl U] [.ref a]:=by
 obtain⟨Q,rfl,rfl⟩:=yM I;obtain⟨o,S,R,n,M⟩:=N;have W:a∉T.tabs:=fun J=>by
  have:=B.tab a J;rw [S]at this;obtain rfl:=bc this
  exact absurd R (by decide)
 exact⟨_,[],rfl,⟨a,o,n,Q,rfl,iW.mpr ⟨W,S⟩,R,M,rfl⟩,rfl⟩
theorem Eb{b:Nat}(Z:b<=100):fJ b callerA:=⟨by show 1+claimMargin+b<_;unfold recursionLimit claimMargin;exact aW 0x7d040012d208211908000021 rfl Z,by show 4+8*b+100<_;unfold cLine;exact aW 0x9ab0a32100040c81108211908000101 rfl Z,rfl⟩
theorem Rq(P):∀e∈UK,nr (hd.heap_1 P) e.1=some (some e.2):=@NQ _ _ _ _ _ (by left)
theorem Uh(P):∀e∈UE,nr (hd.heap_1 P) e.1=some none/\bootBuiltins e.1=some e.2/\e.1≠"__name__":=fun e m=>
 ⟨NQ (f:=fun e=>nr (hd.heap_1 P) e.1) (g:=fun _=>some none) (by left) m,NQ (f:=fun e=>bootBuiltins e.1) (g:=fun e=>some e.2) (by left) m,eJ (NQ (f:=fun e=>decide (e.1≠Str.ofString "__name__")) (g:=fun _=>true) (by left) m)⟩
theorem KS{P:Params}{prog:Program}{w:World}{Z:Shared}{p:Program}{Y:List Str}{X:ExcName->Option Value}{V U:Str->Option Value}(N:(hd.heap_1 P).In Z.heap)(T:Top p Y X V U Z.heap)
  (W:∀Q∈[90,83,55],Z.heap.get? Q=some (tabObj #[])) (R:Z.gens=#[]):mD (TT P prog w Z.os) Z p Y X V U:=
 ⟨N,T,fun Q O=>W Q (by
  have h:Q=55\/Q=83\/Q=90:=by simpa [TT]using O
  rcases h with rfl|rfl|rfl<;>simp),by left,Rq P,Uh P,⟨354,bJ P 354,by left,by decide⟩,rfl,by rw [R];intro x S;simp at S⟩
set_option tactic.hygienic true in
theorem Ow:∀Y os r,Ti Y os=some r->Us Y os=some r:=by
 intro Y os r h;unfold Ti at h
 split at h
 .rename_i a
  refine fO h fun X h=>?_
  rw [dw]at X
  have pl:∀l:List Nat,ut l=true->Gd l:=fun l Z=>by
   unfold ut at Z
   rw [dw,dw,je,qx]at Z
   exact⟨Z.1.1,Z.1.2,Z.2⟩
  rw [<-h];have:=Te (pl _ X.1) (pl _ X.2)
  rwa [pG]at this
 .exact aZ h
theorem fy.up{T:Tp}{b Y:Nat}{f:Value}{Z:List Value->Args}{C:bz}(h:fy T b f Z C)(X:b<=Y):fy T Y f Z C:=h.mono (fun _ _ _ e=>e) X
theorem Es(P Z w os){Y:Shared}{p:Program}{M:List Str}{G:ExcName->Option Value}{mg mb:Str->Option Value}(B:mD (TT P Z w os) Y p M G mg mb){a:Addr}{vs:List Value}{ns:List Int}(hl:Y.heap.IsList a vs.toArray)(hI:IntsAre vs ns)(F:ns.length<=63)(i:∀Q∈(TT P Z w os).tabs,isCodeTable Y.heap Q)
  {cw:ClaimW} {cl:Str->Option Addr} {N:ExcName->Option Value} {X:List WData} (h:∀z2,cw.raises X z2=false) (J:cw.post X (.bool true) X=true):
  codeAny (model Z w) callerA (.call (.ref 354) ⟨[.ref a],[]⟩) (GoodWG cw cl N X Y) Y:=by
 have C:=fun b hb=>Pp P Z w os b hb
 have z1:FK P Z w os 21 123 QB:=Se P Z w os 20 1000 (C 20 (by decide));have z0:FK P Z w os 22 130 Ti:=fy.mono (Rr P Z w os 21 1000 z1 (C 21 (by decide))) Ow (bU _);have O:FK P Z w os 22 45 JE:=fy.mono (Qc P Z w os 20 100) Ml (by decide);have c:FK P Z w os 21 53 QJ:=SN P Z w os 20 100;have d:FK P Z w os 22 60 (Tu P):=SV P Z w os 21 100 10 (by decide) c;have D:FK P Z w os 23 67 (zr P):=SQ P Z w os 22 100 d;have E:FK P Z w os 21 74 (BH zv):=NS P Z w os 20 100 fy.never;have f:FK P Z w os 22 81 (LS (BH zv)):=QY P Z w os 21 100 E;have e:FK P Z w os 23 74 QI:=NS P Z w os 22 100 f;have j:FK P Z w os 23 88 (Kf P):=OX P Z w os 22 100 10 (by decide);have k:FK P Z w os 23 95 (Gu P):=Pb P Z w os 22 100 10 (by decide);have V:FK P Z w os 24 102 (KN P):=Pe P Z w os 23 100 j e k;have H:FK P Z w os 25 109 (jV P zv):=zO P Z w os 24 100 fy.never V;have I:FK P Z w os 26 109 (jV P (jV P zv)):=zO P Z w os 25 100 H (V.up (by decide));have l:FK P Z w os 27 109 (Lu P):=zO P Z w os 26 100 I (V.up (by decide));have W:=OW P Z w os 20 100;have R:FK P Z w os 22 213 pZ:=Pg P Z w os 21 100 W;have o:FK P Z w os 22 271 rP:=Ox P Z w os 21 100 W;have m:FK P Z w os 22 194 wo:=Qr P Z w os 21 100 W;have n:FK P Z w os 21 238 px:=Qp P Z w os 20 100;have S:FK P Z w os 21 226 mA:=Qq P Z w os 20 100;have q:FK P Z w os 21 285 Af:=Qz P Z w os 20 100;have s:FK P Z w os 21 292 Em:=OP P Z w os 20 100;have T:FK P Z w os 21 299 Dx:=Pu P Z w os 20 100;have t:FK P Z w os 22 306 Ea:=Qd P Z w os 21 100 T;have U:FK P Z w os 21 313 ny:=Od P Z w os 20 100;have u:FK P Z w os 23 320 HD:=PG P Z w os 22 100 O;have v:FK P Z w os 23 325 xV:=Of P Z w os 22 100 O z0;have x:FK P Z w os 22 330 tV:=Op P Z w os 21 100 T;have y:FK P Z w os 28 335 (Dr P):=Qg P Z w os 27 100 (o.up (by decide)) (n.up (by decide)) (S.up (by decide)) (R.up (by decide)) (m.up (by decide)) (v.up (by decide)) (D.up (by decide)) (x.up (by decide)) (Lm P Z w os 25);have z:FK P Z w os 28 342 (DM P):=Qa P Z w os 27 100 (S.up (by decide)) (U.up (by decide)) (R.up (by decide)) (D.up (by decide));have A:FK P Z w os 28 349 (Mr P):=Oz P Z w os 27 100 l;refine jP (TO P Z w os (b:=28) (q.up (by decide)) (s.up (by decide)) (t.up (by decide)) (u.up (by decide)) y z (U.up (by decide)) A (by decide) (Eb (b:=29) (by decide)) rfl B.rel rfl (B.arg hl hI) (Hc P F)) fun r s' hq=>?_
 obtain⟨rfl,hc⟩:=hq;obtain⟨W',g,hr⟩:=hc.rel;exact Lj B g hr i h J
set_option maxHeartbeats 8000000 in
theorem law2_of:PySem.Challenge.rw_wk0052_02.Holds:=hd (by
 k_fill
 intro w s₀ s₁ mg mb G Y fa o pm cd doc dV kV ho hd hcd hD hmg hg args vals as hpre hlay hrd hwl hlo;have KX:=km_in_of Y;have hT8:=km_tabs_of Y;have X:=(Ground.X G).1;have V:=(Ground.X G).2;refine Ground.open G ?_
 intro T B D TE TW
 try (refine guard_noD D (by decide +kernel) ?_;clear D)
 have BB:=KS (prog:=PySem.Challenge.rw_wk0052_02.row.prog) (w:=w) KX T hT8 hg;have hfa:fa=354:=by
  obtain⟨o',es,ep,ho',hd',hk',hf'⟩:=T.g;have h1:=Rq w.params (Str.ofString "law",.ref 354) (iB (i:=32) rfl);obtain⟨o'',ho'',hl''⟩:=tI.mp h1;have h2:=KX _ _ ho'';rw [ho']at h2;obtain rfl:=bc h2
  have h3:=tG hd' hl'';rw [hf',hmg]at h3
  cases h3;rfl
 subst hfa
 wrow_args hpre hlay hrd hwl hlo
 all_goals (
  first|refine callC_kw (enter_call ?_)|refine enter_call ?_|refine callC_kw (enter_callW ?_)|refine enter_callW ?_|w_how)
 rename_i hL _ _ _ hI _ hcond _;refine Es _ _ _ _ BB hL hI (by exact(aW 0x1f900000400487e44b021 rfl hcond)) (fun Q hQ=>?_) (fun _=>rfl) ?_
 .have h:Q=55\/Q=83\/Q=90:=by simpa [TT]using hQ
  rcases h with rfl|rfl|rfl
  .exact((nH (c:=59) (P:=55) KX (by left)).tab (hT8 55 (by exact .tail _ (.tail _ (.head _))))).isCodeTable
  .exact((nH (c:=87) (P:=83) KX (by left)).tab (hT8 83 (by exact .tail _ (.head _)))).isCodeTable
  .exact((nH (c:=94) (P:=90) KX (by left)).tab (hT8 90 (by exact rh))).isCodeTable
 .left)
end Mine
end
set_option maxHeartbeats 16000000 in
theorem PySem.Challenge.cw_wk0052_02_holds : PySem.Challenge.rw_wk0052_02.Holds :=
  Mine.law2_of
