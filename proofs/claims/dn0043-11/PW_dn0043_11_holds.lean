import PyProof.Rows.All
import Wide.All
import OpenK.AllK
import Wide.FinOn
import PyProof.Rows.SortRev
import KE.KRevIter
import PyProof.EqKinds
import PyProof.ZipIter
import PyProof.LongRange
import PySem.Challenge.RW_dn0043_11
open PySem PySem.W PyProof.Rows
set_option tactic.hygienic false
set_option bootstrap.genMatcherCode false
set_option compiler.extract_closed false
set_option linter.all false
set_option Elab.async false
set_option maxRecDepth 100000
set_option genSizeOf false
set_option genInjectivity false
namespace Mine
theorem Rf{α:Sort u}{β:Sort v}{a:α}{b:β}{Q:α→β→Prop}(h:Q a b):∀ x y,x=a∧y=b→Q x y:=fun O O e=>by rw[e.1,e.2];exact h
theorem LX{α:Sort u}{β:Sort v}{γ:Sort w}{f:γ→α}{b:β}{Q:α→β→Prop}(h:∀ v,Q (f v) b):∀ x y,(∃ v,x=f v∧y=b)→Q x y:=fun O O e=>e.elim fun v e=>by rw[e.1,e.2];exact h v
theorem An{a b:Prop}(x:a):if true=true then a else b:=x
theorem A1{a b:Prop}(x:b):if false=true then a else b:=x
theorem SK{c a b:Prop}[Decidable c](h:c)(x:a):if c then a else b:=by rw[if_pos h];exact x
theorem Sb{c a b:Prop}[Decidable c](h:¬ c)(x:b):if c then a else b:=by rw[if_neg h];exact x
theorem Df{c:Prop}[Decidable c]{M:Model}{A:Around}{E:Value→Shared→Prop}{s:Shared}{α σ:Type}{p q:StateT σ Sem α}{Q:α→σ→Prop}{st:σ}(h:c)(x:wpS M A E s p Q st):wpS M A E s (if c then p else q) Q st:=by rw[if_pos h];exact x
theorem C2{c:Prop}[Decidable c]{M:Model}{A:Around}{E:Value→Shared→Prop}{s:Shared}{α σ:Type}{p q:StateT σ Sem α}{Q:α→σ→Prop}{st:σ}(h:¬ c)(x:wpS M A E s q Q st):wpS M A E s (if c then p else q) Q st:=by rw[if_neg h];exact x
theorem T1:true=true:=rfl
namespace Ar

set_option genCtorIdx false in
inductive FT | lf (k i j:Nat) | op (k:Nat) (a b:FT)
noncomputable abbrev QP{α:Sort u}(a b c d e f:α)(g:Nat→α)(k:Nat):α :=
 Nat.rec a (fun k O=>Nat.rec b (fun k O=>Nat.rec c (fun k O=>Nat.rec d (fun k O=>Nat.rec e (fun k O=>Nat.rec f (fun k O=>g k) k) k) k) k) k) k
theorem QU{P:Nat→Prop}(a:P 0)(b:P 1)(c:P 2)(d:P 3)(e:P 4)(f:P 5)(g:∀ k,P (k+6))(k:Nat):P k :=
 Nat.casesOn k a fun k=>Nat.casesOn k b fun k=>Nat.casesOn k c fun k=>Nat.casesOn k d fun k=>Nat.casesOn k e fun k=>Nat.casesOn k f g
noncomputable def FT.n(i:Nat):FT:=.lf 0 i 0
noncomputable def FT.z(i:Nat):FT:=.lf 1 i 0
noncomputable def FT.k(i:Nat):FT:=.lf 2 i 0
noncomputable def FT.pw(i j:Nat):FT:=.lf 3 i j
noncomputable def FT.ad(a b:FT):FT:=.op 0 a b
noncomputable def FT.sb(a b:FT):FT:=.op 1 a b
noncomputable def FT.mn(a b:FT):FT:=.op 2 a b
noncomputable def FT.mx(a b:FT):FT:=.op 3 a b
noncomputable def FT.ng(a:FT):FT:=.op 4 a a
noncomputable def FT.up(a:FT):FT:=.op 5 a a
noncomputable def FT.ml(k:Nat)(a:FT):FT:=.op (k+6) a a
noncomputable def FT.a:FT:=.n 0
noncomputable def FT.b:FT:=.n 1
noncomputable def FT.c:FT:=.n 2
noncomputable def FT.d:FT:=.n 3
noncomputable def FT.e:FT:=.n 4
noncomputable def FT.f:FT:=.n 5
noncomputable def FT.g:FT:=.n 6
noncomputable def FT.h:FT:=.n 7
noncomputable def FT.y:FT:=.k 0
noncomputable def FT.o:FT:=.k 1
noncomputable def gN(l:List Nat):Nat→Nat:=List.rec (fun O=>0) (fun x O ih i=>Nat.rec x (fun i O=>ih i) i) l
noncomputable def gZ(l:List Int):Nat→Int:=List.rec (fun O=>0) (fun x O ih i=>Nat.rec x (fun i O=>ih i) i) l
noncomputable def FT.dN(N:List Nat)(t:FT):Nat :=
 FT.rec (fun k i j=>QP (gN N i) 0 i (i ^ j) 0 0 (fun O=>0) k) (fun k O O a b=>QP (a+b) (a - b) (min a b) (max a b) 0 0 (fun k=>k*a) k) t
noncomputable def FT.dZ(N:List Nat)(Z:List Int)(t:FT):Int :=
 FT.rec (fun k i j=>QP 0 (gZ Z i) (Int.ofNat i) ((Int.ofNat i) ^ j) 0 0 (fun O=>0) k)
  (fun k x O a b=>QP (a+b) (a - b) (min a b) (max a b) (-a) ((x.dN N:Nat):Int) (fun k=>Int.ofNat k*a) k) t
noncomputable abbrev LF:=Int × List Int
noncomputable def MB(l:List Int):(Nat→Int)→Int:=List.rec (fun O=>0) (fun a O ih r=>a*r 0+ih fun j=>r (j+1)) l
noncomputable def CE(p:LF)(r:Nat→Int):Int:=p.1+MB p.2 r
noncomputable def Rd(a:List Int):List Int→List Int:=List.rec (fun b=>b) (fun x a ih b=>List.casesOn b (x::a) fun y b=>(x+y)::ih b) a
noncomputable def Rq(i:Nat):List Int:=Nat.rec [1] (fun O l=>0::l) i
noncomputable def Rt(p q:LF):LF:=(p.1+q.1,Rd p.2 q.2)
noncomputable def QD(c:Int)(p:LF):LF:=(c*p.1,p.2.map (c*·))
noncomputable def GE(p q:LF):LF:=Rt p (QD (-1) q)
noncomputable def f1(p:LF):LF:=(p.1 - 1,p.2)
theorem a4(a b c d:Int):a+b+(c+d)=a+c+(b+d):=by rw[Int.add_assoc,Int.add_left_comm b,← Int.add_assoc]
theorem LZ(a:List Int):∀(b:List Int) (r),MB (Rd a b) r=MB a r+MB b r:=by
 induction a with
 | nil=>exact fun b r=>(Int.zero_add _).symm
 | cons x a ih =>
  intro b r
  cases b with
  | nil=>exact(Int.add_zero _).symm
  | cons y b=>exact(congr (congrArg HAdd.hAdd (Int.add_mul x y _)) (ih b _)).trans (a4 ..)
theorem QF(c:Int)(a:List Int):∀ r,MB (a.map (c*·)) r=c*MB a r:=by
 induction a with
 | nil=>exact fun r=>(Int.mul_zero c).symm
 | cons x a ih=>exact fun r=>(congr (congrArg HAdd.hAdd (Int.mul_assoc ..)) (ih _)).trans (Int.mul_add ..).symm
theorem LY(i:Nat):∀(r:Nat→Int),MB (Rq i) r=r i:=by
 induction i with
 | zero=>exact fun r=>(Int.add_zero _).trans (Int.one_mul _)
 | succ i ih=>exact fun r=>(congr (congrArg HAdd.hAdd (Int.zero_mul _)) (ih _)).trans (Int.zero_add _)
theorem I5(p q r):CE (Rt p q) r=CE p r+CE q r:=(congrArg (_+·) (LZ ..)).trans (a4 ..)
theorem HL(c p r):CE (QD c p) r=c*CE p r:=(congrArg (_+·) (QF ..)).trans (Int.mul_add ..).symm
theorem HM(p q r):CE (GE p q) r=CE p r - CE q r:=(I5 ..).trans (congrArg (_+·) ((HL ..).trans (Int.neg_one_mul _)))
theorem F0{p q:LF}{r}(h:CE p r≤CE q r):0≤CE (GE q p) r:=by rw[HM];exact Int.sub_nonneg_of_le h
theorem F1{p q:LF}{r}(h:CE p r<CE q r):0≤CE (f1 (GE q p)) r:=by
 have e:CE (f1 (GE q p)) r=CE (GE q p) r - 1:=Int.add_right_comm ..
 rw[e,HM];exact Int.le_sub_one_of_lt (Int.sub_pos_of_lt h)
noncomputable abbrev NF:=List LF × LF
noncomputable def Hq{α β γ:Type}(xs:List α)(ys:List β)(f:α→β→List γ):List γ:=xs.flatMap fun x=>ys.flatMap fun y=>f x y
theorem H9{α β γ:Type}{xs:List α}{ys:List β}{f:α→β→List γ}{x y z}(hx:x∈xs)(hy:y∈ys)(hz:z∈f x y):z∈Hq xs ys f :=
 List.mem_flatMap.mpr ⟨x,hx,List.mem_flatMap.mpr ⟨y,hy,hz⟩⟩
noncomputable def MC(c:Int):List NF:=[([],(c,[]))]
noncomputable def Ry(i:Nat):List NF:=[([],(0,Rq i))]
noncomputable def two(g:List LF)(p q v w:LF):List NF:=[(p::g,v),(q::g,w)]
noncomputable def NB(t:FT):Bool→List NF :=
 FT.rec (fun k i j=>QP (fun s=>cond s (MC 0) (Ry (2*i))) (fun s=>cond s (Ry (2*i+1)) (MC 0)) (fun O=>MC (Int.ofNat i)) (fun O=>MC (Int.ofNat (i ^ j))) (fun O=>MC 0) (fun O=>MC 0) (fun O O=>MC 0) k)
  (fun k O O a b=>QP (fun s=>Hq (a s) (b s) fun x y=>[(x.1++y.1,Rt x.2 y.2)])
   (fun s=>Hq (a s) (b s) fun x y=>cond s [(x.1++y.1,GE x.2 y.2)] (two (x.1++y.1) (GE x.2 y.2) (f1 (GE y.2 x.2)) (GE x.2 y.2) (0,[])))
   (fun s=>Hq (a s) (b s) fun x y=>two (x.1++y.1) (GE y.2 x.2) (GE x.2 y.2) x.2 y.2)
   (fun s=>Hq (a s) (b s) fun x y=>two (x.1++y.1) (GE y.2 x.2) (GE x.2 y.2) y.2 x.2)
   (fun s=>cond s ((a s).map fun x=>(x.1,QD (-1) x.2)) (MC 0))
   (fun s=>cond s (a false) (MC 0))
   (fun k s=>(a s).map fun x=>(x.1,QD (Int.ofNat k) x.2)) k) t
noncomputable def dV(N:List Nat)(Z:List Int)(s:Bool)(t:FT):Int:=cond s (t.dZ N Z) ((t.dN N:Nat):Int)
noncomputable def Gu(N:List Nat)(Z:List Int)(j:Nat):Int:=if j%2=0 then((gN N (j / 2):Nat):Int) else gZ Z (j / 2)
theorem QW(N Z i):Gu N Z (2*i)=(gN N i:Int):=by unfold Gu;rw[if_pos (Nat.mul_mod_right 2 i),Nat.mul_div_cancel_left i Nat.two_pos]
theorem Rz(N Z i):Gu N Z (2*i+1)=gZ Z i:=by
 unfold Gu;rw[Nat.mul_add_mod,Nat.mul_add_div Nat.two_pos];exact if_neg Nat.one_ne_zero
noncomputable def SF(r:Nat→Int)(v:Int)(a:NF):Prop:=(∀ g∈a.1,0≤CE g r)∧CE a.2 r=v
theorem all_cons{r:Nat→Int}{p:LF}{l:List LF}(h:0≤CE p r)(hl:∀ g∈l,0≤CE g r):∀ g∈p::l,0≤CE g r :=
 fun g hg=>(List.mem_cons.mp hg).elim (fun e=>e▸h) (hl g)
theorem one{α}{P:α→Prop}{x:α}(h:P x):∃ z∈[x],P z:=⟨x,.head _,h⟩
theorem fst{α}{P:α→Prop}{x y:α}(h:P x):∃ z∈[x,y],P z:=⟨x,.head _,h⟩
theorem snd{α}{P:α→Prop}{x y:α}(h:P y):∃ z∈[x,y],P z:=⟨y,.tail _ (.head _),h⟩
theorem Fg{r:Nat→Int}:∀ g∈([]:List LF),0≤CE g r:=fun O h=>nomatch h
noncomputable def Ok(r:Nat→Int)(v:Int)(l:List NF):Prop:=∃ x∈l,SF r v x
theorem D2(r c):Ok r c (MC c):=one ⟨Fg,Int.add_zero _⟩
theorem QX(r i):Ok r (r i) (Ry i):=one ⟨Fg,(Int.zero_add _).trans (LY ..)⟩
theorem KQ{r v l}{c:Int}(h:Ok r v l):Ok r (c*v) (l.map (fun x=>(x.1,QD c x.2))) :=
 h.elim fun x hx=>⟨_,List.mem_map.mpr ⟨x,hx.1,rfl⟩,hx.2.1,(HL ..).trans (congrArg (c*·) hx.2.2)⟩
theorem Cl{r v w l m}{γ}{P:γ→Prop}{f:NF→NF→List γ}(h1:Ok r v l)(h2:Ok r w m)
  (h:∀ x y,CE x.2 r=v→CE y.2 r=w→(∀ g∈x.1++y.1,0≤CE g r)→∃ z∈f x y,P z):∃ z∈Hq l m f,P z :=
 h1.elim fun x hx=>h2.elim fun y hy=>(h x y hx.2.2 hy.2.2 (fun g hg=>(List.mem_append.mp hg).elim (hx.2.1 g) (hy.2.1 g))).elim fun z hz=>⟨z,H9 hx.1 hy.1 hz.1,hz.2⟩
theorem It{r:Nat→Int}{v g p q x y}(hg:∀ c∈g,0≤CE c r)(h:(0≤CE p r∧CE x r=v)∨(0≤CE q r∧CE y r=v)):Ok r v (two g p q x y) :=
 h.elim (fun h=>fst ⟨all_cons h.1 hg,h.2⟩) fun h=>snd ⟨all_cons h.1 hg,h.2⟩
theorem Ok.to{r v w l}(h:Ok r v l)(e:v=w):Ok r w l:=e▸h
theorem Mn(a b:Nat):min (a:Int) b=((min a b:Nat):Int):=(Nat.le_total a b).elim
 (fun h=>(Int.min_eq_left (Int.ofNat_le.mpr h)).trans (congrArg Int.ofNat (Nat.min_eq_left h).symm)) fun h=>(Int.min_eq_right (Int.ofNat_le.mpr h)).trans (congrArg Int.ofNat (Nat.min_eq_right h).symm)
theorem Mo(a b:Nat):max (a:Int) b=((max a b:Nat):Int):=(Nat.le_total a b).elim
 (fun h=>(Int.max_eq_right (Int.ofNat_le.mpr h)).trans (congrArg Int.ofNat (Nat.max_eq_right h).symm)) fun h=>(Int.max_eq_left (Int.ofNat_le.mpr h)).trans (congrArg Int.ofNat (Nat.max_eq_left h).symm)
theorem EY(N:List Nat)(Z:List Int)(t:FT):∀(s:Bool),Ok (Gu N Z) (dV N Z s t) (NB t s):=by
 induction t with
 | lf k i j =>
  refine QU (P:=fun k=>∀ s,Ok (Gu N Z) (dV N Z s (.lf k i j)) (NB (.lf k i j) s)) ?_ ?_ ?_ ?_ ?_ ?_ (fun k=>?_) k
  ·exact fun s=>s.casesOn ((QX (Gu N Z) (2*i)).to (QW ..)) (D2 ..)
  ·exact fun s=>s.casesOn (D2 ..) ((QX (Gu N Z) (2*i+1)).to (Rz ..))
  ·exact fun s=>s.casesOn (D2 ..) (D2 ..)
  ·exact fun s=>s.casesOn (D2 ..) ((D2 ..).to (Int.natCast_pow i j))
  ·exact fun s=>s.casesOn (D2 ..) (D2 ..)
  ·exact fun s=>s.casesOn (D2 ..) (D2 ..)
  ·exact fun s=>s.casesOn (D2 ..) (D2 ..)
 | op k a b iha ihb =>
  refine QU (P:=fun k=>∀ s,Ok (Gu N Z) (dV N Z s (.op k a b)) (NB (.op k a b) s)) ?_ ?_ ?_ ?_ ?_ ?_ (fun k=>?_) k
  ·exact fun s=>Ok.to (l:=NB (.op 0 a b) s) (v:=dV N Z s a+dV N Z s b) (Cl (iha s) (ihb s) fun x y h1 h2 h=>one ⟨h,(I5 ..).trans (congr (congrArg _ h1) h2)⟩) (s.casesOn (Int.natCast_add ..).symm rfl)
  ·exact fun s=>Cl (iha s) (ihb s) fun x y=>s.casesOn
    (fun h1 h2 h=>It h <| (Nat.lt_or_ge (a.dN N) (b.dN N)).elim
     (fun hl=>.inr ⟨F1 (by simp only[h1,h2];exact Int.ofNat_lt.mpr hl),congrArg Int.ofNat (Nat.sub_eq_zero_of_le (Nat.le_of_lt hl)).symm⟩)
     fun hl=>.inl ⟨F0 (by simp only[h1,h2];exact Int.ofNat_le.mpr hl),by simp only[HM,h1,h2];exact(Int.ofNat_sub hl).symm⟩)
    fun h1 h2 h=>one ⟨h,by simp only[HM,h1,h2];rfl⟩
  ·exact fun s=>Ok.to (l:=NB (.op 2 a b) s) (v:=min (dV N Z s a) (dV N Z s b)) (Cl (iha s) (ihb s) fun x y h1 h2 h=>It h (h1▸h2▸(Int.le_total (CE x.2 (Gu N Z)) (CE y.2 (Gu N Z))).imp
    (fun hl=>⟨F0 hl,(Int.min_eq_left hl).symm⟩) fun hl=>⟨F0 hl,(Int.min_eq_right hl).symm⟩)) (s.casesOn (Mn ..) rfl)
  ·exact fun s=>Ok.to (l:=NB (.op 3 a b) s) (v:=max (dV N Z s a) (dV N Z s b)) (Cl (iha s) (ihb s) fun x y h1 h2 h=>It h (h1▸h2▸(Int.le_total (CE x.2 (Gu N Z)) (CE y.2 (Gu N Z))).imp
    (fun hl=>⟨F0 hl,(Int.max_eq_right hl).symm⟩) fun hl=>⟨F0 hl,(Int.max_eq_left hl).symm⟩)) (s.casesOn (Mo ..) rfl)
  ·exact fun s=>s.casesOn (D2 ..) ((KQ (iha true)).to (Int.neg_one_mul _))
  ·exact fun s=>s.casesOn (D2 ..) (iha false)
  ·exact fun s=>(KQ (iha s)).to (s.casesOn (Int.natCast_mul ..).symm rfl)
set_option genCtorIdx false in
inductive FP | tf (v:Bool) | at (k:Nat) (s:Bool) (a b:FT) | cn (k:Nat) (p q:FP)
noncomputable def FP.tt:FP:=.tf true
noncomputable def FP.ff:FP:=.tf false
noncomputable def FP.le(s:Bool)(a b:FT):FP:=.at 0 s a b
noncomputable def FP.lt(s:Bool)(a b:FT):FP:=.at 1 s a b
noncomputable def FP.eq(s:Bool)(a b:FT):FP:=.at 2 s a b
noncomputable def FP.w:FT→FT→FP:=.le false
noncomputable def FP.l:FT→FT→FP:=.lt false
noncomputable def FP.q:FT→FT→FP:=.eq false
noncomputable def FP.an(p q:FP):FP:=.cn 0 p q
noncomputable def FP.o(p q:FP):FP:=.cn 1 p q
noncomputable def FP.im(p q:FP):FP:=.cn 2 p q
noncomputable def FP.no(p:FP):FP:=.cn 2 p .ff
noncomputable abbrev MP{α:Sort u}(a b c:α)(k:Nat):α:=Nat.rec a (fun k O=>Nat.rec b (fun O O=>c) k) k
theorem Mw{P:Nat→Prop}(a:P 0)(b:P 1)(c:∀ k,P (k+2))(k:Nat):P k:=Nat.casesOn k a fun k=>Nat.casesOn k b c
noncomputable def FP.den(N:List Nat)(Z:List Int)(F:FP):Prop :=
 FP.rec (fun v=>cond v True False)
  (fun k s a b=>MP (cond s (a.dZ N Z≤b.dZ N Z) (a.dN N≤b.dN N)) (cond s (a.dZ N Z<b.dZ N Z) (a.dN N<b.dN N)) (cond s (a.dZ N Z=b.dZ N Z) (a.dN N=b.dN N)) k)
  (fun k O O p q=>MP (p∧q) (p∨q) (p→q) k) F
noncomputable def both(xs ys:List (List LF)):List (List LF):=Hq xs ys fun x y=>[x++y]
noncomputable def Ru(F:FP):Bool→List (List LF) :=
 FP.rec (fun v t=>cond v (cond t [[]] []) (cond t [] [[]]))
  (fun k s a b t=>Hq (NB a s) (NB b s) fun x y=>MP
   [cond t (GE y.2 x.2) (f1 (GE x.2 y.2))::(x.1++y.1)]
   [cond t (f1 (GE y.2 x.2)) (GE x.2 y.2)::(x.1++y.1)]
   (cond t [GE x.2 y.2::GE y.2 x.2::(x.1++y.1)] [f1 (GE x.2 y.2)::(x.1++y.1),f1 (GE y.2 x.2)::(x.1++y.1)]) k)
  (fun k O O p q t=>MP (cond t (both (p true) (q true)) (p false++q false)) (cond t (p true++q true) (both (p false) (q false))) (cond t (p false++q true) (both (p true) (q false))) k) F
noncomputable def Hit(r:Nat→Int)(l:List (List LF)):Prop:=∃ c∈l,∀ g∈c,0≤CE g r
theorem Hit.l{r l m}(h:Hit r l):Hit r (l++m):=h.elim fun c hc=>⟨c,List.mem_append.mpr (.inl hc.1),hc.2⟩
theorem Hit.r{r l m}(h:Hit r m):Hit r (l++m):=h.elim fun c hc=>⟨c,List.mem_append.mpr (.inr hc.1),hc.2⟩
theorem Hit.both{r l m}(h1:Hit r l)(h2:Hit r m):Hit r (both l m) :=
 h1.elim fun x hx=>h2.elim fun y hy=>⟨x++y,H9 hx.1 hy.1 (.head _),fun g hg=>(List.mem_append.mp hg).elim (hx.2 g) (hy.2 g)⟩
noncomputable def Tr(P:Prop)(b:Bool):Prop:=cond b P (¬ P)
theorem HT{P Q:Prop}{b}(e:P↔Q)(h:Tr Q b):Tr P b:=(propext e:P=Q)▸h
theorem QJ{N Z s a b}:dV N Z s a≤dV N Z s b↔FP.den N Z (.at 0 s a b):=s.casesOn Int.ofNat_le Iff.rfl
theorem QI{N Z s a b}:dV N Z s a<dV N Z s b↔FP.den N Z (.at 1 s a b):=s.casesOn Int.ofNat_lt Iff.rfl
theorem QK{N Z s a b}:dV N Z s a=dV N Z s b↔FP.den N Z (.at 2 s a b):=s.casesOn Int.ofNat_inj Iff.rfl
theorem QH(N:List Nat)(Z:List Int)(F:FP):∀(b:Bool),Tr (F.den N Z) b→Hit (Gu N Z) (Ru F b):=by
 induction F with
 | tf v=>exact fun b=>v.casesOn (b.casesOn (fun O=>one Fg) fun h=>h.elim) (b.casesOn (fun h=>(h trivial).elim) fun O=>one Fg)
 | «at» k s a b =>
  refine Mw (P:=fun k=>∀ t,Tr (FP.den N Z (.at k s a b)) t→Hit (Gu N Z) (Ru (.at k s a b) t)) ?_ ?_ (fun k=>?_) k
  ·exact fun t h=>Cl (EY N Z a s) (EY N Z b s) fun x y h1 h2 hg=>one (all_cons (by
    have h:=HT QJ h;rw[← h1,← h2]at h
    cases t;exact F1 (Int.not_le.mp h);exact F0 h) hg)
  ·exact fun t h=>Cl (EY N Z a s) (EY N Z b s) fun x y h1 h2 hg=>one (all_cons (by
    have h:=HT QI h;rw[← h1,← h2]at h
    cases t;exact F0 (Int.not_lt.mp h);exact F1 h) hg)
  ·exact fun t h=>Cl (EY N Z a s) (EY N Z b s) fun x y h1 h2 hg=>by
    have h:=HT (P:=dV N Z s a=dV N Z s b) QK h;rw[← h1,← h2]at h
    cases t
    ·exact(Int.lt_or_gt_of_ne h).elim (fun h=>snd (all_cons (F1 h) hg)) fun h=>fst (all_cons (F1 h) hg)
    ·exact one (all_cons (F0 (Int.le_of_eq h.symm)) (all_cons (F0 (Int.le_of_eq h)) hg))
 | cn k p q hp hq =>
  refine Mw (P:=fun k=>∀ t,Tr (FP.den N Z (.cn k p q)) t→Hit (Gu N Z) (Ru (.cn k p q) t)) ?_ ?_ (fun k=>?_) k
  ·exact fun t=>t.casesOn (fun h=>(Classical.em (p.den N Z)).elim (fun x=>(hq false fun y=>h ⟨x,y⟩).r) fun x=>(hp false x).l) fun h=>(hp true h.1).both (hq true h.2)
  ·exact fun t=>t.casesOn (fun h=>(hp false fun x=>h (.inl x)).both (hq false fun x=>h (.inr x))) fun h=>Or.elim h (fun h=>(hp true h).l) fun h=>(hq true h).r
  ·exact fun t=>t.casesOn (fun h=>(hp true (Classical.byContradiction fun x=>h fun y=>absurd y x)).both (hq false fun x=>h fun O=>x))
    fun h=>(Classical.em (p.den N Z)).elim (fun x=>(hq true (h x)).r) fun x=>(hp false x).l
noncomputable def Rx(l:List Int):Bool:=l.all (·==0)
noncomputable def SC(c:LF):Bool:=decide (c.1<0)&&Rx c.2
noncomputable def JZ(c:LF):Int:=c.2.headD 0
noncomputable def Rp(c:LF):LF:=(c.1,c.2.tail)
noncomputable def SS(l:List Int):Nat:=l.foldl (fun g a=>Nat.gcd g a.natAbs) 0
noncomputable def tg(g:Nat)(c:LF):LF:=cond (decide (1<g)&&c.2.all (fun a=>a==Int.ofNat g*(a / Int.ofNat g))) (c.1 / Int.ofNat g,c.2.map (· / Int.ofNat g)) c
noncomputable def Mu(c:LF):LF:=tg (SS c.2) c
noncomputable def Re(c:LF):Bool:=!(decide (0≤c.1)&&Rx c.2)
noncomputable def elim(cs:List LF):List LF :=
 (cs.filter (fun c=>JZ c==0)).map Rp++(cs.filter (fun c=>decide (0<JZ c))).flatMap fun p=>((cs.filter (fun c=>decide (JZ c<0))).map fun q=>Mu (Rt (QD (-(JZ q)) (Rp p)) (QD (JZ p) (Rp q)))).filter Re
noncomputable def SL(m:Nat):List LF→Bool:=Nat.rec (fun cs=>cs.any SC) (fun O ih cs=>cs.any SC||ih (elim cs)) m
theorem Mj(l:List Int):∀(r),Rx l=true→MB l r=0:=by
 induction l with
 | nil=>exact fun O O=>rfl
 | cons x l ih =>
  intro r h
  have h:=(Bool.and_eq_true _ _).mp h
  exact(congr (congrArg HAdd.hAdd ((congrArg (·*r 0) (eq_of_beq h.1)).trans (Int.zero_mul _))) (ih _ h.2)).trans (Int.add_zero 0)
theorem I4(c:LF)(r):CE c r=JZ c*r 0+CE (Rp c) (fun j=>r (j+1)):=by
 obtain⟨k,l⟩:=c
 cases l with
 | nil=>exact(Int.zero_add _).symm.trans (congrArg (·+CE (k,[]) r) (Int.zero_mul (r 0)).symm)
 | cons a l=>exact Int.add_left_comm ..
theorem Mk(g:Int)(l:List Int):∀(r),l.all (fun a=>a==g*(a / g))=true→MB l r=g*MB (l.map (· / g)) r:=by
 induction l with
 | nil=>exact fun O O=>(Int.mul_zero g).symm
 | cons x l ih =>
  intro r h
  have h:=(Bool.and_eq_true _ _).mp h
  exact(congr (congrArg HAdd.hAdd ((congrArg (·*r 0) (eq_of_beq h.1)).trans (Int.mul_assoc ..))) (ih _ h.2)).trans (Int.mul_add ..).symm
theorem Mv(g c r)(h:0≤CE c r):0≤CE (tg g c) r:=by
 unfold tg
 cases hc:(decide (1<g)&&c.2.all (fun a=>a==Int.ofNat g*(a / Int.ofNat g))) with
 | false=>exact h
 | true =>
  have hc:=(Bool.and_eq_true _ _).mp hc
  have hg:(0:Int)<Int.ofNat g:=Int.ofNat_lt.mpr (Nat.lt_trans Nat.zero_lt_one (of_decide_eq_true hc.1))
  unfold CE at h
  rw[Mk _ _ _ hc.2]at h
  have:=Int.ediv_nonneg h (Int.le_of_lt hg)
  rw[Int.add_mul_ediv_left _ _ (Int.ne_of_gt hg)]at this
  exact this
theorem Ml{cs:List LF}{r:Nat→Int}(h:∀ g∈cs,0≤CE g r)(g)(hg:g∈elim cs):0≤CE g (fun j=>r (j+1)):=by
 refine(List.mem_append.mp hg).elim (fun hg=>(List.mem_map.mp hg).elim fun c hc=>?_) fun hg=>(List.mem_flatMap.mp hg).elim fun p hp=>(List.mem_map.mp (List.mem_filter.mp hp.2).1).elim fun q hq=>?_
 ·have hc1:=List.mem_filter.mp hc.1
  have h0:=h c hc1.1
  rw[I4,eq_of_beq hc1.2,Int.zero_mul,Int.zero_add]at h0
  exact hc.2▸h0
 ·have hp1:=List.mem_filter.mp hp.1
  have hq1:=List.mem_filter.mp hq.1
  have h1:=Int.mul_nonneg (Int.neg_nonneg_of_nonpos (Int.le_of_lt (of_decide_eq_true hq1.2))) (h p hp1.1)
  have h2:=Int.add_nonneg h1 (Int.mul_nonneg (Int.le_of_lt (of_decide_eq_true hp1.2)) (h q hq1.1))
  rw[I4 p,I4 q,Int.mul_add,Int.mul_add,a4,← Int.mul_assoc,← Int.mul_assoc,← Int.add_mul,Int.neg_mul,Int.mul_comm (JZ q),Int.add_left_neg,Int.zero_mul,Int.zero_add,← HL,← HL]at h2
  exact hq.2▸Mv _ _ _ (by rw[I5];exact h2)
theorem Lm{cs:List LF}{r:Nat→Int}(h:∀ g∈cs,0≤CE g r)(hb:cs.any SC=true):False :=
 (List.any_eq_true.mp hb).elim fun c hc=>by
  have hb:=(Bool.and_eq_true _ _).mp hc.2
  have h0:=h c hc.1
  unfold CE at h0;rw[Mj _ _ hb.2,Int.add_zero]at h0
  exact absurd h0 (Int.not_le.mpr (of_decide_eq_true hb.1))
theorem QE(m:Nat):∀(cs:List LF) (r:Nat→Int),(∀ g∈cs,0≤CE g r)→SL m cs=true→False:=by
 induction m with
 | zero=>exact fun cs r h hb=>Lm h hb
 | succ m ih=>exact fun cs r h hb=>((Bool.or_eq_true _ _).mp hb).elim (Lm h) (ih _ _ (Ml h))
noncomputable def pos(m:Nat):List LF:=Nat.rec [] (fun m ih=>(0,Rq (2*m))::ih) m
theorem NK(N Z)(m):∀ g∈pos m,0≤CE g (Gu N Z):=by
 induction m with
 | zero=>exact Fg
 | succ m ih=>exact all_cons (by rw[show CE (0,Rq (2*m)) (Gu N Z)=_ from(Int.zero_add _).trans ((LY ..).trans (QW N Z m))];exact Int.natCast_nonneg _) ih
noncomputable def FP.chk(m:Nat)(F:FP):Bool:=(Ru F false).all fun c=>SL (2*m) (pos m++c.map Mu)
theorem arith(N:List Nat)(Z:List Int)(m:Nat)(F:FP)(h:F.chk m=true):F.den N Z :=
 Classical.byContradiction fun hn=>(QH N Z F false hn).elim fun c hc=>QE _ _ (Gu N Z) (fun g hg=>(List.mem_append.mp hg).elim (NK N Z m g) fun hg=>(List.mem_map.mp hg).elim fun d hd=>hd.2▸Mv _ _ _ (hc.2 d hd.1)) (List.all_eq_true.mp h c hc.1)
theorem divN(a k:Nat)(h:0<k):k*(a / k)≤a∧a<k*(a / k)+k:=⟨Nat.mul_div_le a k,Nat.lt_mul_div_succ a h⟩
theorem SQ(a k:Nat)(h:0<k):a%k<k∧k*(a / k)+a%k=a:=⟨Nat.mod_lt a h,Nat.div_add_mod a k⟩
theorem divZ(a k:Int)(h:0<k):k*(a / k)≤a∧a<k*(a / k)+k:=⟨Int.mul_ediv_self_le (Int.ne_of_gt h),Int.lt_mul_ediv_self_add h⟩
theorem SP(a k:Int)(h:0<k):(0≤a%k∧a%k<k)∧k*(a / k)+a%k=a:=⟨⟨Int.emod_nonneg a (Int.ne_of_gt h),Int.emod_lt_of_pos a h⟩,Int.mul_ediv_add_emod a k⟩
theorem toN(a:Int):(0≤a∧((a.toNat:Nat):Int)=a)∨(a<0∧a.toNat=0):=(Int.lt_or_le a 0).symm.imp (fun h=>⟨h,Int.toNat_of_nonneg h⟩) fun h=>⟨h,Int.toNat_of_nonpos (Int.le_of_lt h)⟩
theorem ST(a:Int):(0≤a∧((a.natAbs:Nat):Int)=a)∨(a<0∧((a.natAbs:Nat):Int) = -a):=(Int.lt_or_le a 0).symm.imp (fun h=>⟨h,Int.natAbs_of_nonneg h⟩) fun h=>⟨h,Int.ofNat_natAbs_of_nonpos (Int.le_of_lt h)⟩
theorem iff{a b:Prop}(h:(a→b)∧(b→a)):a↔b:=⟨h.1,h.2⟩
theorem mulN(a k:Int):a * -k = -(k*a):=by rw[Int.mul_neg,Int.mul_comm]
theorem ar(N:List Nat)(m:Nat)(F:FP)(h:F.chk m=true):F.den N []:=arith N [] m F h
end Ar
theorem SB{b:Nat}{a:Int}(z:Int.toNat a<b)(y:b≤16777216):a<(2:Int) ^ 63:=Ar.arith [b,Int.toNat a] [a] 2 (.im (.o (.an (.le true .y (.z 0)) (.eq true (.up .b) (.z 0))) (.an (.lt true (.z 0) .y) (.q .b .y))) (.im (.l .b .a) (.im (.w .a (.k 16777216)) (.lt true (.z 0) (.pw 2 63))))) (by kernel_rfl) (Ar.toN a) z y
theorem SA{a:Nat}{b:Int}(z:(-(a:Int))≤b)(y:a≤16777216):(-(2:Int) ^ 63)≤b:=Ar.arith [a] [b] 1 (.im (.le true (.ng (.up .a)) (.z 0)) (.im (.w .a (.k 16777216)) (.le true (.ng (.pw 2 63)) (.z 0)))) T1 z y
theorem R9{b:Nat}{a:Int}(z:Int.toNat a<b)(y:b≤1000):a<(2:Int) ^ 63:=Ar.arith [b,Int.toNat a] [a] 2 (.im (.o (.an (.le true .y (.z 0)) (.eq true (.up .b) (.z 0))) (.an (.lt true (.z 0) .y) (.q .b .y))) (.im (.l .b .a) (.im (.w .a (.k 1000)) (.lt true (.z 0) (.pw 2 63))))) (by kernel_rfl) (Ar.toN a) z y
theorem R8{b c:Nat}{a:Int}(z:(0:Int)≤a)(y:Int.toNat a<b)(x:c=b):(0:Int)≤a∧a<(c:Int):=Ar.arith [b,c,Int.toNat a] [a] 3 (.im (.o (.an (.le true .y (.z 0)) (.eq true (.up .c) (.z 0))) (.an (.lt true (.z 0) .y) (.q .c .y))) (.im (.le true .y (.z 0)) (.im (.l .c .a) (.im (.q .b .a) (.an (.le true .y (.z 0)) (.lt true (.z 0) (.up .b))))))) (by kernel_rfl) (Ar.toN a) z y x
theorem R7{a:Nat}{b:Int}(z:(-(a:Int))≤b)(y:a≤1000):(-(2:Int) ^ 63)≤b:=Ar.arith [a] [b] 1 (.im (.le true (.ng (.up .a)) (.z 0)) (.im (.w .a (.k 1000)) (.le true (.ng (.pw 2 63)) (.z 0)))) T1 z y
theorem R6{a:Int}(z:¬ (0:Int)≤a):a<(2:Int) ^ 63:=Ar.arith [] [a] 1 (.im (.no (.le true .y (.z 0))) (.lt true (.z 0) (.pw 2 63))) T1 z
theorem R1{a:Nat}{b:Int}(z:(-(a:Int))≤b)(y:¬ (0:Int)≤b):(0:Int)≤b+(a:Int)∧b+(a:Int)<(a:Int):=Ar.arith [a] [b] 1 (.im (.le true (.ng (.up .a)) (.z 0)) (.im (.no (.le true .y (.z 0))) (.an (.le true .y (.ad (.z 0) (.up .a))) (.lt true (.ad (.z 0) (.up .a)) (.up .a))))) T1 z y
theorem MZ{a b:Nat}(z:a<b):b+1 - (a+1)<b+1 - a:=Ar.ar [b,a] 2 (.im (.l .b .a) (.l (.sb (.ad .a .o) (.ad .b .o)) (.sb (.ad .a .o) .b))) T1 z
theorem NA{a b:Nat}(z:a=b)(y:b≤16777216):(a:Int)<(2:Int) ^ 63:=Ar.ar [a,b] 2 (.im (.q .a .b) (.im (.w .b (.k 16777216)) (.lt true (.up .a) (.pw 2 63)))) T1 z y
theorem Rc{b:Nat}{a:Int}(z:a<(b:Int))(y:b≤16777216):a<(2:Int) ^ 63:=Ar.arith [b] [a] 1 (.im (.lt true (.z 0) (.up .a)) (.im (.w .a (.k 16777216)) (.lt true (.z 0) (.pw 2 63)))) T1 z y
theorem Rb{b:Nat}{a:Int}(z:a≤(b:Int))(y:b≤16777216):a<(2:Int) ^ 63:=Ar.arith [b] [a] 1 (.im (.le true (.z 0) (.up .a)) (.im (.w .a (.k 16777216)) (.lt true (.z 0) (.pw 2 63)))) T1 z y
theorem Ra{b c:Nat}{a:Int}(z:a≤(b:Int))(y:c=b):Int.toNat a≤c:=Ar.arith [Int.toNat a,c,b] [a] 3 (.im (.o (.an (.le true .y (.z 0)) (.eq true (.up .a) (.z 0))) (.an (.lt true (.z 0) .y) (.q .a .y))) (.im (.le true (.z 0) (.up .c)) (.im (.q .b .c) (.w .a .b)))) (by kernel_rfl) (Ar.toN a) z y
theorem RZ{a b:Nat}{c:Int}(z:a<b):min (Int.toNat c) a+(a - Int.toNat c+1)≤b:=Ar.arith [b,a,Int.toNat c] [c] 3 (.im (.o (.an (.le true .y (.z 0)) (.eq true (.up .c) (.z 0))) (.an (.lt true (.z 0) .y) (.q .c .y))) (.im (.l .b .a) (.w (.ad (.mn .c .b) (.ad (.sb .b .c) .o)) .a))) (by kernel_rfl) (Ar.toN c) z
theorem RY{a b:Int}(z:b<a):a=max b a:=Ar.arith [] [a,b] 2 (.im (.lt true (.z 1) (.z 0)) (.eq true (.z 0) (.mx (.z 1) (.z 0)))) T1 z
theorem RX{a b:Int}(z:¬ a<b):a=max a b:=Ar.arith [] [a,b] 2 (.im (.no (.lt true (.z 0) (.z 1))) (.eq true (.z 0) (.mx (.z 0) (.z 1)))) T1 z
theorem RW{a b:Int}(z:a<b):a=min b a:=Ar.arith [] [a,b] 2 (.im (.lt true (.z 0) (.z 1)) (.eq true (.z 0) (.mn (.z 1) (.z 0)))) T1 z
theorem RV{a b:Int}(z:¬ b<a):a=min a b:=Ar.arith [] [a,b] 2 (.im (.no (.lt true (.z 1) (.z 0))) (.eq true (.z 0) (.mn (.z 0) (.z 1)))) T1 z
theorem RU{a b c d e:Nat}(z:a=b+c)(y:d=b+c+e):a≤d:=Ar.ar [e,a,d,b,c] 5 (.im (.q .b (.ad .d .e)) (.im (.q .c (.ad (.ad .d .e) .a)) (.w .b .c))) T1 z y
theorem RT{a b c:Nat}(z:a≤b∧b<a+c)(y:b<a):False:=Ar.ar [a,b,c] 3 (.im (.an (.w .a .b) (.l .b (.ad .a .c))) (.im (.l .b .a) .ff)) T1 z y
theorem RS{a b c:Nat}(z:a+(a+b) - 1 - c<a)(y:a≤c∧c<a+b):False:=Ar.ar [b,a,c] 3 (.im (.l (.sb (.sb (.ad .b (.ad .b .a)) .o) .c) .b) (.im (.an (.w .b .c) (.l .c (.ad .b .a))) .ff)) (by kernel_rfl) z y
theorem RR{a b c:Nat}(z:a≤b∧b<a+c)(y:¬ b<a+c):False:=Ar.ar [a,b,c] 3 (.im (.an (.w .a .b) (.l .b (.ad .a .c))) (.im (.no (.l .b (.ad .a .c))) .ff)) T1 z y
theorem RQ{a b c:Nat}(z:a≤b∧b<a+c)(y:¬ a+(a+c) - 1 - b<a+c):False:=Ar.ar [b,a,c] 3 (.im (.an (.w .b .a) (.l .a (.ad .b .c))) (.im (.no (.l (.sb (.sb (.ad .b (.ad .b .c)) .o) .a) (.ad .b .c))) .ff)) (by kernel_rfl) z y
theorem RP{a b c:Nat}(z:a<b+c)(y:¬ (b≤a∧a<b+c))(x:¬ a<b):False:=Ar.ar [a,b,c] 3 (.im (.l .a (.ad .b .c)) (.im (.no (.an (.w .b .a) (.l .a (.ad .b .c)))) (.im (.no (.l .a .b)) .ff))) T1 z y x
theorem RO{a b c:Nat}(z:b≤a∧a<b+c):a - b<c:=Ar.ar [a,b,c] 3 (.im (.an (.w .b .a) (.l .a (.ad .b .c))) (.l (.sb .a .b) .c)) T1 z
theorem RN{a b c:Nat}(z:a≤c∧c<a+b):a+(a+b) - 1 - c - a=b - 1 - (c - a):=Ar.ar [c,b,a] 3 (.im (.an (.w .c .a) (.l .a (.ad .c .b))) (.q (.sb (.sb (.sb (.ad .c (.ad .c .b)) .o) .a) .c) (.sb (.sb .b .o) (.sb .a .c)))) (by kernel_rfl) z
theorem RM{a b c:Nat}(z:a=b+(c+2)):b+1<a:=Ar.ar [b,a,c] 3 (.im (.q .b (.ad .a (.ad .c (.k 2)))) (.l (.ad .a .o) .b)) T1 z
theorem RL{a b c:Nat}(z:a=b+(c+2)):b<a:=Ar.ar [b,a,c] 3 (.im (.q .b (.ad .a (.ad .c (.k 2)))) (.l .a .b)) T1 z
theorem RK{a b:Nat}(z:a<b):b=a+(b - a - 1)+1:=Ar.ar [b,a] 2 (.im (.l .b .a) (.q .a (.ad (.ad .b (.sb (.sb .a .b) .o)) .o))) (by kernel_rfl) z
theorem RJ{a b:Nat}:¬ a+1=a+(b+1)+1:=Ar.ar [a,b] 2 (.no (.q (.ad .a .o) (.ad (.ad .a (.ad .b .o)) .o))) T1
theorem RH{a b:Nat}:a+(b+1)+1 - a=b+2:=Ar.ar [a,b] 2 (.q (.sb (.ad (.ad .a (.ad .b .o)) .o) .a) (.ad .b (.k 2))) T1
theorem RG{a b c:Nat}:a+b+(c+1)=a+(b+1)+c:=Ar.ar [a,b,c] 3 (.q (.ad (.ad .a .b) (.ad .c .o)) (.ad (.ad .a (.ad .b .o)) .c)) T1
theorem RF{a b c:Nat}:a+b+(c+1) - c=a+b+1:=Ar.ar [a,b,c] 3 (.q (.sb (.ad (.ad .a .b) (.ad .c .o)) .c) (.ad (.ad .a .b) .o)) T1
theorem M9{a b:Nat}:max a (a+b) - a=b:=Ar.ar [b,a] 2 (.q (.sb (.mx .b (.ad .b .a)) .b) .a) T1
theorem RE{a b c:Nat}(z:a<b+c)(y:b≤a):a - b<c:=Ar.ar [a,b,c] 3 (.im (.l .a (.ad .b .c)) (.im (.w .b .a) (.l (.sb .a .b) .c))) T1 z y
theorem RD{a b:Nat}(z:a≤b):b - a+1=b+1 - a:=Ar.ar [b,a] 2 (.im (.w .b .a) (.q (.ad (.sb .a .b) .o) (.sb (.ad .a .o) .b))) (by kernel_rfl) z
theorem RC{a b:Nat}(z:a≤b):b+1 - a=b - a+1:=Ar.ar [b,a] 2 (.im (.w .b .a) (.q (.sb (.ad .a .o) .b) (.ad (.sb .a .b) .o))) (by kernel_rfl) z
theorem RB{a b c:Nat}(z:a=b):a≤c+b - c:=Ar.ar [a,c,b] 3 (.im (.q .a .c) (.w .a (.sb (.ad .b .c) .b))) T1 z
theorem RA{a b c:Nat}(z:a=b):c+b - c - a=0:=Ar.ar [b,c,a] 3 (.im (.q .c .a) (.q (.sb (.sb (.ad .b .a) .b) .c) .y)) (by kernel_rfl) z
theorem Q9{a b c:Nat}(z:a<b):c+a - c<b:=Ar.ar [c,a,b] 3 (.im (.l .b .c) (.l (.sb (.ad .a .b) .a) .c)) T1 z
theorem Q8{a b c:Nat}(z:a<b)(y:b=c)(x:c≤a):False:=Ar.ar [a,b,c] 3 (.im (.l .a .b) (.im (.q .b .c) (.im (.w .c .a) .ff))) T1 z y x
theorem M8{a b c:Nat}(z:a - b≤c - max 0 c)(y:b≤a):b=a:=Ar.ar [a,c,b] 3 (.im (.w (.sb .a .c) (.sb .b (.mx .y .b))) (.im (.w .c .a) (.q .c .a))) (by kernel_rfl) z y
theorem Q7{a b c d:Nat}(z:a≤b)(y:c=b)(x:¬ a≤d):(d+a) / 2<c:=Ar.ar [(d+a) / 2,d,b,c,a] 5 (.im (.an (.w (.ml 2 .a) (.ad .b .e)) (.l (.ad .b .e) (.ad (.ml 2 .a) (.k 2)))) (.im (.w .e .c) (.im (.q .d .c) (.im (.no (.w .e .b)) (.l .a .d))))) (by kernel_rfl) (Ar.divN (d+a) 2 (by decide)) z y x
theorem Q6{a b:Nat}(z:¬ a≤b):b≤(b+a) / 2:=Ar.ar [b,(b+a) / 2,a] 3 (.im (.an (.w (.ml 2 .b) (.ad .a .c)) (.l (.ad .a .c) (.ad (.ml 2 .b) (.k 2)))) (.im (.no (.w .c .a)) (.w .a .b))) T1 (Ar.divN (b+a) 2 (by decide)) z
theorem Q5{a b c:Nat}(z:a≤b)(y:¬ a≤c):(c+a) / 2≤b:=Ar.ar [(c+a) / 2,c,b,a] 4 (.im (.an (.w (.ml 2 .a) (.ad .b .d)) (.l (.ad .b .d) (.ad (.ml 2 .a) (.k 2)))) (.im (.w .d .c) (.im (.no (.w .d .b)) (.w .a .c)))) T1 (Ar.divN (c+a) 2 (by decide)) z y
theorem Q4{a b c d:Nat}(z:a - b≤c - d):(b+a) / 2 - b≤c - (d+1):=Ar.ar [c,(b+a) / 2,a,d,b] 5 (.im (.an (.w (.ml 2 .b) (.ad .e .c)) (.l (.ad .e .c) (.ad (.ml 2 .b) (.k 2)))) (.im (.w (.sb .c .e) (.sb .a .d)) (.w (.sb .b .e) (.sb .a (.ad .d .o))))) (by kernel_rfl) (Ar.divN (b+a) 2 (by decide)) z
theorem Q3{a b:Nat}(z:¬ a≤b):(b+a) / 2+1≤a:=Ar.ar [b,a,(b+a) / 2] 3 (.im (.an (.w (.ml 2 .c) (.ad .a .b)) (.l (.ad .a .b) (.ad (.ml 2 .c) (.k 2)))) (.im (.no (.w .b .a)) (.w (.ad .c .o) .b))) T1 (Ar.divN (b+a) 2 (by decide)) z
theorem Q2{a b c d:Nat}(z:a - b≤c - d):a - ((b+a) / 2+1)≤c - (d+1):=Ar.ar [c,b,a,d,(b+a) / 2] 5 (.im (.an (.w (.ml 2 .e) (.ad .b .c)) (.l (.ad .b .c) (.ad (.ml 2 .e) (.k 2)))) (.im (.w (.sb .c .b) (.sb .a .d)) (.w (.sb .c (.ad .e .o)) (.sb .a (.ad .d .o))))) (by kernel_rfl) (Ar.divN (b+a) 2 (by decide)) z
theorem Q1{a b c d:Nat}(z:a=b):c+b=c+min d a+(a - d):=Ar.ar [b,d,c,a] 4 (.im (.q .d .a) (.q (.ad .c .a) (.ad (.ad .c (.mn .b .d)) (.sb .d .b)))) (by kernel_rfl) z
theorem Q0{a b c d:Nat}(z:a=b):c+b - (c+d)=a - d:=Ar.ar [b,d,c,a] 4 (.im (.q .d .a) (.q (.sb (.ad .c .a) (.ad .c .b)) (.sb .d .b))) (by kernel_rfl) z
theorem Qz{a b c:Nat}(z:a=b):min c a+(a - c+1)=b+1:=Ar.ar [b,c,a] 3 (.im (.q .c .a) (.q (.ad (.mn .b .c) (.ad (.sb .c .b) .o)) (.ad .a .o))) (by kernel_rfl) z
theorem Qy{a b c:Nat}(z:1≤a)(y:a≤b):c≤c+b - 1:=Ar.ar [c,b,a] 3 (.im (.w .o .c) (.im (.w .c .b) (.w .a (.sb (.ad .a .b) .o)))) (by kernel_rfl) z y
theorem M7{a b:Nat}:a+b - 1 - a=b - 1:=Ar.ar [a,b] 2 (.q (.sb (.sb (.ad .a .b) .o) .a) (.sb .b .o)) (by kernel_rfl)
theorem Qx{a b c:Nat}(z:1≤a)(y:a≤b):min b c - 1<b:=Ar.ar [b,a,c] 3 (.im (.w .o .b) (.im (.w .b .a) (.l (.sb (.mn .a .c) .o) .a))) (by kernel_rfl) z y
theorem Qw{a b:Nat}(z:a<b):min a b - 1=a - 1:=Ar.ar [b,a] 2 (.im (.l .b .a) (.q (.sb (.mn .b .a) .o) (.sb .b .o))) (by kernel_rfl) z
theorem Qv{a b c:Nat}(z:a≤b)(y:b≤a+c):a+min (b - a) c=b:=Ar.ar [c,a,b] 3 (.im (.w .b .c) (.im (.w .c (.ad .b .a)) (.q (.ad .b (.mn (.sb .c .b) .a)) .c))) (by kernel_rfl) z y
theorem Qu{a b c d:Nat}(z:a+(b+1)=c):d+c - (d+(a+(b+1)))=0:=Ar.ar [c,d,a,b] 4 (.im (.q (.ad .c (.ad .d .o)) .a) (.q (.sb (.ad .b .a) (.ad .b (.ad .c (.ad .d .o)))) .y)) T1 z
theorem Qt{a b c d:Nat}(z:a+(b+1)=c):d+c - 1 - (d+(a+b))=0:=Ar.ar [a,d,b,c] 4 (.im (.q (.ad .a (.ad .c .o)) .d) (.q (.sb (.sb (.ad .b .d) .o) (.ad .b (.ad .a .c))) .y)) (by kernel_rfl) z
theorem Qr{a b c d e:Nat}(z:a+b=c)(y:b=d+1):e+c - (d+1)=e+a:=Ar.ar [e,a,d,c,b] 5 (.im (.q (.ad .b .e) .d) (.im (.q .e (.ad .c .o)) (.q (.sb (.ad .a .d) (.ad .c .o)) (.ad .a .b)))) (by kernel_rfl) z y
theorem Qq{a b c d:Nat}(z:a+b=c):d+c=d+a+b:=Ar.ar [d,c,a,b] 4 (.im (.q (.ad .c .d) .b) (.q (.ad .a .b) (.ad (.ad .a .c) .d))) T1 z
theorem Qp{a b:Nat}(z:a=b)(y:¬ 0<b):a=0:=Ar.ar [a,b] 2 (.im (.q .a .b) (.im (.no (.l .y .b)) (.q .a .y))) T1 z y
theorem Qo{a b:Nat}(z:1≤a)(y:min a b=0)(x:a≤b):False:=Ar.ar [b,a] 2 (.im (.w .o .b) (.im (.q (.mn .b .a) .y) (.im (.w .b .a) .ff))) (by kernel_rfl) z y x
theorem Qn{a b:Nat}(z:1<a):b≤b+a - 1:=Ar.ar [b,a] 2 (.im (.l .o .b) (.w .a (.sb (.ad .a .b) .o))) T1 z
theorem M6{a b c:Int}(z:¬ a<b)(y:¬ b<c)(x:¬ b=c):¬ a=c:=Ar.arith [] [b,a,c] 3 (.im (.no (.lt true (.z 1) (.z 0))) (.im (.no (.lt true (.z 0) (.z 2))) (.im (.no (.eq true (.z 0) (.z 2))) (.no (.eq true (.z 1) (.z 2)))))) (by kernel_rfl) z y x
theorem KU{a b c:Int}(z:¬ a<b)(y:¬ b<c):¬ a<c:=Ar.arith [] [a,c,b] 3 (.im (.no (.lt true (.z 0) (.z 2))) (.im (.no (.lt true (.z 2) (.z 1))) (.no (.lt true (.z 0) (.z 1))))) T1 z y
theorem M5{a:Nat}(z:a+1+1<2):False:=Ar.ar [a] 1 (.im (.l (.ad (.ad .a .o) .o) (.k 2)) .ff) T1 z
theorem KS{a b:Nat}(z:a=b)(y:¬ a<2):2≤b:=Ar.ar [b,a] 2 (.im (.q .b .a) (.im (.no (.l .b (.k 2))) (.w (.k 2) .a))) T1 z y
theorem M4{a b:Nat}(z:a+9<b):a+1+3<b:=Ar.ar [a,b] 2 (.im (.l (.ad .a (.k 9)) .b) (.l (.ad (.ad .a .o) (.k 3)) .b)) T1 z
theorem Qm{a b c:Nat}(z:a+4≤b)(y:c<a):c+3+1<b:=Ar.ar [c,b,a] 3 (.im (.w (.ad .c (.k 4)) .b) (.im (.l .a .c) (.l (.ad (.ad .a (.k 3)) .o) .b))) T1 z y
theorem Ql{a b c:Nat}(z:a+6≤b)(y:c<a):c+3+3<b:=Ar.ar [c,b,a] 3 (.im (.w (.ad .c (.k 6)) .b) (.im (.l .a .c) (.l (.ad (.ad .a (.k 3)) (.k 3)) .b))) T1 z y
theorem Qk{a b c d e f:Nat}(z:a<b∧c<d)(y:b+1≤e)(x:d+3≤f):a+1<e∧c+3<f:=Ar.ar [f,d,b,a,c,e] 6 (.im (.an (.l .d .c) (.l .e .b)) (.im (.w (.ad .c .o) .f) (.im (.w (.ad .b (.k 3)) .a) (.an (.l (.ad .d .o) .f) (.l (.ad .e (.k 3)) .a))))) (by kernel_rfl) z y x
theorem M3{a:Nat}(z:a<2 ^ 60):(a:Int)<(2:Int) ^ 62:=Ar.ar [a] 1 (.im (.l .a (.pw 2 60)) (.lt true (.up .a) (.pw 2 62))) T1 z
theorem M2{a:Nat}(z:a<2 ^ 60)(y:¬ (0:Int)<(a:Int)):(0:Int)=(a:Int):=Ar.ar [a] 1 (.im (.l .a (.pw 2 60)) (.im (.no (.lt true .y (.up .a))) (.eq true .y (.up .a)))) T1 z y
theorem Hx{a b:Nat}(z:a<b):(b - 1) / 2<b:=Ar.ar [b,(b - 1) / 2,a] 3 (.im (.an (.w (.ml 2 .b) (.sb .a .o)) (.l (.sb .a .o) (.ad (.ml 2 .b) (.k 2)))) (.im (.l .c .a) (.l .b .a))) (by kernel_rfl) (Ar.divN (b - 1) 2 (by decide)) z
theorem Qj{a b:Nat}(z:2*a+1<b):2*a+1<b∧a<2*a+1:=Ar.ar [a,b] 2 (.im (.l (.ad (.ml 2 .a) .o) .b) (.an (.l (.ad (.ml 2 .a) .o) .b) (.l .a (.ad (.ml 2 .a) .o)))) T1 z
theorem Qi{a b c:Nat}(z:a<b∧c<a):b - a<b - c:=Ar.ar [b,c,a] 3 (.im (.an (.l .c .a) (.l .b .c)) (.l (.sb .a .c) (.sb .a .b))) (by kernel_rfl) z
theorem GS{a b:Nat}(z:a<b):(a - 1) / 2<b:=Ar.ar [a,(a - 1) / 2,b] 3 (.im (.an (.w (.ml 2 .b) (.sb .a .o)) (.l (.sb .a .o) (.ad (.ml 2 .b) (.k 2)))) (.im (.l .a .c) (.l .b .c))) (by kernel_rfl) (Ar.divN (a - 1) 2 (by decide)) z
theorem Qh{a b:Nat}(z:a<b):b≠(b - 1) / 2:=Ar.ar [b,a,(b - 1) / 2] 3 (.im (.an (.w (.ml 2 .c) (.sb .a .o)) (.l (.sb .a .o) (.ad (.ml 2 .c) (.k 2)))) (.im (.l .b .a) (.no (.q .a .c)))) (by kernel_rfl) (Ar.divN (b - 1) 2 (by decide)) z
theorem KR{a b c d:Nat}(z:a - b=c)(y:d<a∧b<d):a - d<c:=Ar.ar [a,b,d,c] 4 (.im (.q (.sb .a .b) .d) (.im (.an (.l .c .a) (.l .b .c)) (.l (.sb .a .c) .d))) (by kernel_rfl) z y
theorem Qg{a b:Nat}(z:0<b)(y:a≤(b - 1) / 2):a≤b:=Ar.ar [b,a,(b - 1) / 2] 3 (.im (.an (.w (.ml 2 .c) (.sb .a .o)) (.l (.sb .a .o) (.ad (.ml 2 .c) (.k 2)))) (.im (.l .y .a) (.im (.w .b .c) (.w .b .a)))) (by kernel_rfl) (Ar.divN (b - 1) 2 (by decide)) z y
theorem M1{a:Nat}(z:0<a):(a - 1) / 2<a:=Ar.ar [a,(a - 1) / 2] 2 (.im (.an (.w (.ml 2 .b) (.sb .a .o)) (.l (.sb .a .o) (.ad (.ml 2 .b) (.k 2)))) (.im (.l .y .a) (.l .b .a))) (by kernel_rfl) (Ar.divN (a - 1) 2 (by decide)) z
theorem Qf{a:Nat}(z:0<a):¬ a=(a - 1) / 2:=Ar.ar [a,(a - 1) / 2] 2 (.im (.an (.w (.ml 2 .b) (.sb .a .o)) (.l (.sb .a .o) (.ad (.ml 2 .b) (.k 2)))) (.im (.l .y .a) (.no (.q .a .b)))) (by kernel_rfl) (Ar.divN (a - 1) 2 (by decide)) z
theorem Qe{a b:Nat}(z:0<a)(y:b≤(a - 1) / 2):b<a:=Ar.ar [a,b,(a - 1) / 2] 3 (.im (.an (.w (.ml 2 .c) (.sb .a .o)) (.l (.sb .a .o) (.ad (.ml 2 .c) (.k 2)))) (.im (.l .y .a) (.im (.w .b .c) (.l .b .a)))) (by kernel_rfl) (Ar.divN (a - 1) 2 (by decide)) z y
theorem Qd{a b c:Nat}(z:b<a)(y:0<c)(x:c≠(a - 1) / 2)(w:¬ c=a)(v:(c - 1) / 2=a):¬ (a - 1) / 2=a:=Ar.ar [c,(a - 1) / 2,a,(c - 1) / 2,b] 5 (.im (.an (.w (.ml 2 .b) (.sb .c .o)) (.l (.sb .c .o) (.ad (.ml 2 .b) (.k 2)))) (.im (.an (.w (.ml 2 .d) (.sb .a .o)) (.l (.sb .a .o) (.ad (.ml 2 .d) (.k 2)))) (.im (.l .e .c) (.im (.l .y .a) (.im (.no (.q .a .b)) (.im (.no (.q .a .c)) (.im (.q .d .c) (.no (.q .b .c))))))))) (by kernel_rfl) (Ar.divN (a - 1) 2 (by decide)) (Ar.divN (c - 1) 2 (by decide)) z y x w v
theorem Qc{a b c d:Nat}(z:a<b)(y:c<a)(x:0<d)(w:d≠(a - 1) / 2)(v:¬ d=a)(u:¬ (d - 1) / 2=a)(t:(d - 1) / 2=(a - 1) / 2):(a - 1) / 2<b:=Ar.ar [d,a,c,(a - 1) / 2,b,(d - 1) / 2] 6 (.im (.an (.w (.ml 2 .d) (.sb .b .o)) (.l (.sb .b .o) (.ad (.ml 2 .d) (.k 2)))) (.im (.an (.w (.ml 2 .f) (.sb .a .o)) (.l (.sb .a .o) (.ad (.ml 2 .f) (.k 2)))) (.im (.l .b .e) (.im (.l .c .b) (.im (.l .y .a) (.im (.no (.q .a .d)) (.im (.no (.q .a .b)) (.im (.no (.q .f .b)) (.im (.q .f .d) (.l .d .e)))))))))) (by kernel_rfl) (Ar.divN (a - 1) 2 (by decide)) (Ar.divN (d - 1) 2 (by decide)) z y x w v u t
theorem Qb{a b:Nat}(z:(a - 1) / 2=(b - 1) / 2)(y:¬ (a - 1) / 2=b):¬ b=(b - 1) / 2:=Ar.ar [a,b,(a - 1) / 2,(b - 1) / 2] 4 (.im (.an (.w (.ml 2 .d) (.sb .b .o)) (.l (.sb .b .o) (.ad (.ml 2 .d) (.k 2)))) (.im (.an (.w (.ml 2 .c) (.sb .a .o)) (.l (.sb .a .o) (.ad (.ml 2 .c) (.k 2)))) (.im (.q .c .d) (.im (.no (.q .c .b)) (.no (.q .b .d)))))) (by kernel_rfl) (Ar.divN (b - 1) 2 (by decide)) (Ar.divN (a - 1) 2 (by decide)) z y
theorem M0{a b c:Nat}(z:(b - 1) / 2=(a - 1) / 2)(y:0<b)(x:c<a):¬ a=((a - 1) / 2 - 1) / 2:=Ar.ar [b,a,c,((a - 1) / 2 - 1) / 2,(a - 1) / 2,(b - 1) / 2] 6 (.im (.an (.w (.ml 2 .e) (.sb .b .o)) (.l (.sb .b .o) (.ad (.ml 2 .e) (.k 2)))) (.im (.an (.w (.ml 2 .d) (.sb .e .o)) (.l (.sb .e .o) (.ad (.ml 2 .d) (.k 2)))) (.im (.an (.w (.ml 2 .f) (.sb .a .o)) (.l (.sb .a .o) (.ad (.ml 2 .f) (.k 2)))) (.im (.q .f .e) (.im (.l .y .a) (.im (.l .c .b) (.no (.q .b .d)))))))) (by kernel_rfl) (Ar.divN (a - 1) 2 (by decide)) (Ar.divN ((a - 1) / 2 - 1) 2 (by decide)) (Ar.divN (b - 1) 2 (by decide)) z y x
theorem Mz{a b:Nat}(z:a<(b - 1) / 2):¬ b=(b - 1) / 2:=Ar.ar [b,(b - 1) / 2,a] 3 (.im (.an (.w (.ml 2 .b) (.sb .a .o)) (.l (.sb .a .o) (.ad (.ml 2 .b) (.k 2)))) (.im (.l .c .b) (.no (.q .a .b)))) (by kernel_rfl) (Ar.divN (b - 1) 2 (by decide)) z
theorem Qa{a b:Nat}(z:a<(b - 1) / 2):(b - 1) / 2≠b:=Ar.ar [b,(b - 1) / 2,a] 3 (.im (.an (.w (.ml 2 .b) (.sb .a .o)) (.l (.sb .a .o) (.ad (.ml 2 .b) (.k 2)))) (.im (.l .c .b) (.no (.q .b .a)))) (by kernel_rfl) (Ar.divN (b - 1) 2 (by decide)) z
theorem QZ{a b c:Nat}(z:(a - 1) / 2=(b - 1) / 2)(y:c<(b - 1) / 2):c≤(a - 1) / 2:=Ar.ar [a,b,(b - 1) / 2,c,(a - 1) / 2] 5 (.im (.an (.w (.ml 2 .e) (.sb .a .o)) (.l (.sb .a .o) (.ad (.ml 2 .e) (.k 2)))) (.im (.an (.w (.ml 2 .c) (.sb .b .o)) (.l (.sb .b .o) (.ad (.ml 2 .c) (.k 2)))) (.im (.q .e .c) (.im (.l .d .c) (.w .d .e))))) (by kernel_rfl) (Ar.divN (a - 1) 2 (by decide)) (Ar.divN (b - 1) 2 (by decide)) z y
theorem QY{a:Nat}:(2*a+1 - 1) / 2=a:=Ar.ar [a,(2*a+1 - 1) / 2] 2 (.im (.an (.w (.ml 2 .b) (.sb (.ad (.ml 2 .a) .o) .o)) (.l (.sb (.ad (.ml 2 .a) .o) .o) (.ad (.ml 2 .b) (.k 2)))) (.q .b .a)) (by kernel_rfl) (Ar.divN (2*a+1 - 1) 2 (by decide))
theorem LB{a b:Nat}(z:(a - 1) / 2=b)(y:0<a):a=2*b+1∨a=2*b+2:=Ar.ar [a,b,(a - 1) / 2] 3 (.im (.an (.w (.ml 2 .c) (.sb .a .o)) (.l (.sb .a .o) (.ad (.ml 2 .c) (.k 2)))) (.im (.q .c .b) (.im (.l .y .a) (.o (.q .a (.ad (.ml 2 .b) .o)) (.q .a (.ad (.ml 2 .b) (.k 2))))))) (by kernel_rfl) (Ar.divN (a - 1) 2 (by decide)) z y
theorem P6{a:Nat}:(2*a+2 - 1) / 2=a:=Ar.ar [a,(2*a+2 - 1) / 2] 2 (.im (.an (.w (.ml 2 .b) (.sb (.ad (.ml 2 .a) (.k 2)) .o)) (.l (.sb (.ad (.ml 2 .a) (.k 2)) .o) (.ad (.ml 2 .b) (.k 2)))) (.q .b .a)) (by kernel_rfl) (Ar.divN (2*a+2 - 1) 2 (by decide))
theorem P5{a b c:Nat}(z:0<a)(y:a<b)(x:c<b∧a<c)(w:(c - 1) / 2=a)(v:0<c)(u:a≠c)(t:(a - 1) / 2≠c):¬ a=(a - 1) / 2:=Ar.ar [c,(a - 1) / 2,b,(c - 1) / 2,a] 5 (.im (.an (.w (.ml 2 .b) (.sb .e .o)) (.l (.sb .e .o) (.ad (.ml 2 .b) (.k 2)))) (.im (.an (.w (.ml 2 .d) (.sb .a .o)) (.l (.sb .a .o) (.ad (.ml 2 .d) (.k 2)))) (.im (.l .y .e) (.im (.l .e .c) (.im (.an (.l .a .c) (.l .e .a)) (.im (.q .d .e) (.im (.l .y .a) (.im (.no (.q .e .a)) (.im (.no (.q .b .a)) (.no (.q .e .b))))))))))) (by kernel_rfl) (Ar.divN (a - 1) 2 (by decide)) (Ar.divN (c - 1) 2 (by decide)) z y x w v u t
theorem P4{a b c d:Nat}(z:0<b)(y:a≤(b - 1) / 2)(x:b<c)(w:d<c∧b<d)(v:(d - 1) / 2=b)(u:0<d)(t:a≤b)(s:b≠d)(r:(b - 1) / 2≠d):a<b:=Ar.ar [d,(b - 1) / 2,c,b,(d - 1) / 2,a] 6 (.im (.an (.w (.ml 2 .b) (.sb .d .o)) (.l (.sb .d .o) (.ad (.ml 2 .b) (.k 2)))) (.im (.an (.w (.ml 2 .e) (.sb .a .o)) (.l (.sb .a .o) (.ad (.ml 2 .e) (.k 2)))) (.im (.l .y .d) (.im (.w .f .b) (.im (.l .d .c) (.im (.an (.l .a .c) (.l .d .a)) (.im (.q .e .d) (.im (.l .y .a) (.im (.w .f .d) (.im (.no (.q .d .a)) (.im (.no (.q .b .a)) (.l .f .d)))))))))))) (by kernel_rfl) (Ar.divN (b - 1) 2 (by decide)) (Ar.divN (d - 1) 2 (by decide)) z y x w v u t s r
theorem P3{a b c d:Nat}(z:(a - 1) / 2=b)(y:b<c∧d<b):¬ d=a:=Ar.ar [a,c,b,(a - 1) / 2,d] 5 (.im (.an (.w (.ml 2 .d) (.sb .a .o)) (.l (.sb .a .o) (.ad (.ml 2 .d) (.k 2)))) (.im (.q .d .c) (.im (.an (.l .c .b) (.l .e .c)) (.no (.q .e .a))))) (by kernel_rfl) (Ar.divN (a - 1) 2 (by decide)) z y
theorem P2{a b c:Nat}(z:(a - 1) / 2=b)(y:c<b):c≤(a - 1) / 2:=Ar.ar [a,b,c,(a - 1) / 2] 4 (.im (.an (.w (.ml 2 .d) (.sb .a .o)) (.l (.sb .a .o) (.ad (.ml 2 .d) (.k 2)))) (.im (.q .d .b) (.im (.l .c .b) (.w .c .d)))) (by kernel_rfl) (Ar.divN (a - 1) 2 (by decide)) z y
theorem P1{a b c d:Nat}(z:(a - 1) / 2=b)(y:b<c∧d<b):a≠d:=Ar.ar [a,b,c,(a - 1) / 2,d] 5 (.im (.an (.w (.ml 2 .d) (.sb .a .o)) (.l (.sb .a .o) (.ad (.ml 2 .d) (.k 2)))) (.im (.q .d .b) (.im (.an (.l .b .c) (.l .e .b)) (.no (.q .a .e))))) (by kernel_rfl) (Ar.divN (a - 1) 2 (by decide)) z y
theorem P0{a b c d:Nat}(z:(a - 1) / 2=b)(y:b<c∧d<b):(a - 1) / 2≠d:=Ar.ar [a,d,b,(a - 1) / 2,c] 5 (.im (.an (.w (.ml 2 .d) (.sb .a .o)) (.l (.sb .a .o) (.ad (.ml 2 .d) (.k 2)))) (.im (.q .d .c) (.im (.an (.l .c .e) (.l .b .c)) (.no (.q .d .b))))) (by kernel_rfl) (Ar.divN (a - 1) 2 (by decide)) z y
theorem Pz{a b c:Nat}(z:a≤2*b+1)(y:c≠b)(x:c<a)(w:(c - 1) / 2=b):False:=Ar.ar [c,b,a,(c - 1) / 2] 4 (.im (.an (.w (.ml 2 .d) (.sb .a .o)) (.l (.sb .a .o) (.ad (.ml 2 .d) (.k 2)))) (.im (.w .c (.ad (.ml 2 .b) .o)) (.im (.no (.q .a .b)) (.im (.l .a .c) (.im (.q .d .b) .ff))))) (by kernel_rfl) (Ar.divN (c - 1) 2 (by decide)) z y x w
theorem Py{a b:Nat}(z:(a - 1) / 2=b)(y:0<a):¬ b=a:=Ar.ar [a,b,(a - 1) / 2] 3 (.im (.an (.w (.ml 2 .c) (.sb .a .o)) (.l (.sb .a .o) (.ad (.ml 2 .c) (.k 2)))) (.im (.q .c .b) (.im (.l .y .a) (.no (.q .b .a))))) (by kernel_rfl) (Ar.divN (a - 1) 2 (by decide)) z y
theorem Px{a b c:Nat}(z:(a - 1) / 2=b)(y:0<a)(x:a<c)(w:c≤2*b+1):False:=Ar.ar [a,b,c,(a - 1) / 2] 4 (.im (.an (.w (.ml 2 .d) (.sb .a .o)) (.l (.sb .a .o) (.ad (.ml 2 .d) (.k 2)))) (.im (.q .d .b) (.im (.l .y .a) (.im (.l .a .c) (.im (.w .c (.ad (.ml 2 .b) .o)) .ff))))) (by kernel_rfl) (Ar.divN (a - 1) 2 (by decide)) z y x w
theorem Pw{a b:Nat}(z:a<b+1)(y:a≠b):a<b:=Ar.ar [a,b] 2 (.im (.l .a (.ad .b .o)) (.im (.no (.q .a .b)) (.l .a .b))) T1 z y
theorem Pu{a b:Nat}(z:a<b+1)(y:a≠b):(a - 1) / 2<b:=Ar.ar [b,a,(a - 1) / 2] 3 (.im (.an (.w (.ml 2 .c) (.sb .b .o)) (.l (.sb .b .o) (.ad (.ml 2 .c) (.k 2)))) (.im (.l .b (.ad .a .o)) (.im (.no (.q .b .a)) (.l .c .a)))) (by kernel_rfl) (Ar.divN (a - 1) 2 (by decide)) z y
theorem Pt{a b:Nat}(z:(a - 1) / 2=b)(y:0<a)(x:a<b+1):False:=Ar.ar [a,b,(a - 1) / 2] 3 (.im (.an (.w (.ml 2 .c) (.sb .a .o)) (.l (.sb .a .o) (.ad (.ml 2 .c) (.k 2)))) (.im (.q .c .b) (.im (.l .y .a) (.im (.l .a (.ad .b .o)) .ff)))) (by kernel_rfl) (Ar.divN (a - 1) 2 (by decide)) z y x
theorem Ps{a b:Nat}(z:b<a):(a - 1) / 2<a:=Ar.ar [a,(a - 1) / 2,b] 3 (.im (.an (.w (.ml 2 .b) (.sb .a .o)) (.l (.sb .a .o) (.ad (.ml 2 .b) (.k 2)))) (.im (.l .c .a) (.l .b .a))) (by kernel_rfl) (Ar.divN (a - 1) 2 (by decide)) z
theorem HB{a b:Nat}(z:a<b):(a+b) / 2 - a<b - a:=Ar.ar [b,(a+b) / 2,a] 3 (.im (.an (.w (.ml 2 .b) (.ad .c .a)) (.l (.ad .c .a) (.ad (.ml 2 .b) (.k 2)))) (.im (.l .c .a) (.l (.sb .b .c) (.sb .a .c)))) (by kernel_rfl) (Ar.divN (a+b) 2 (by decide)) z
theorem HA{a b:Nat}(z:a<b):b - ((a+b) / 2+1)<b - a:=Ar.ar [b,(a+b) / 2,a] 3 (.im (.an (.w (.ml 2 .b) (.ad .c .a)) (.l (.ad .c .a) (.ad (.ml 2 .b) (.k 2)))) (.im (.l .c .a) (.l (.sb .a (.ad .b .o)) (.sb .a .c)))) (by kernel_rfl) (Ar.divN (a+b) 2 (by decide)) z
theorem G9{a b c:Nat}(z:a - b=c)(y:b<a):(b+a) / 2 - b<c:=Ar.ar [a,(b+a) / 2,c,b] 4 (.im (.an (.w (.ml 2 .b) (.ad .d .a)) (.l (.ad .d .a) (.ad (.ml 2 .b) (.k 2)))) (.im (.q (.sb .a .d) .c) (.im (.l .d .a) (.l (.sb .b .d) .c)))) (by kernel_rfl) (Ar.divN (b+a) 2 (by decide)) z y
theorem EX{a b:Nat}(z:a<b):a≤(a+b) / 2:=Ar.ar [a,(a+b) / 2,b] 3 (.im (.an (.w (.ml 2 .b) (.ad .a .c)) (.l (.ad .a .c) (.ad (.ml 2 .b) (.k 2)))) (.im (.l .a .c) (.w .a .b))) T1 (Ar.divN (a+b) 2 (by decide)) z
theorem LA{a b c:Nat}(z:a≤b∧b≤(a+c) / 2):a≤b∧b≤c:=Ar.ar [b,a,c,(a+c) / 2] 4 (.im (.an (.w (.ml 2 .d) (.ad .b .c)) (.l (.ad .b .c) (.ad (.ml 2 .d) (.k 2)))) (.im (.an (.w .b .a) (.w .a .d)) (.an (.w .b .a) (.w .a .c)))) (by kernel_rfl) (Ar.divN (a+c) 2 (by decide)) z
theorem EW{a b c:Nat}(z:a - b=c)(y:b<a):a - ((b+a) / 2+1)<c:=Ar.ar [(b+a) / 2,a,c,b] 4 (.im (.an (.w (.ml 2 .a) (.ad .d .b)) (.l (.ad .d .b) (.ad (.ml 2 .a) (.k 2)))) (.im (.q (.sb .b .d) .c) (.im (.l .d .b) (.l (.sb .b (.ad .a .o)) .c)))) (by kernel_rfl) (Ar.divN (b+a) 2 (by decide)) z y
theorem EV{a b:Nat}(z:a<b):(a+b) / 2+1≤b:=Ar.ar [a,b,(a+b) / 2] 3 (.im (.an (.w (.ml 2 .c) (.ad .a .b)) (.l (.ad .a .b) (.ad (.ml 2 .c) (.k 2)))) (.im (.l .a .b) (.w (.ad .c .o) .b))) T1 (Ar.divN (a+b) 2 (by decide)) z
theorem K9{a b c:Nat}(z:(a+b) / 2+1≤c∧c≤b):a≤c∧c≤b:=Ar.ar [b,(a+b) / 2,a,c] 4 (.im (.an (.w (.ml 2 .b) (.ad .c .a)) (.l (.ad .c .a) (.ad (.ml 2 .b) (.k 2)))) (.im (.an (.w (.ad .b .o) .d) (.w .d .a)) (.an (.w .c .d) (.w .d .a)))) (by kernel_rfl) (Ar.divN (a+b) 2 (by decide)) z
theorem K8{a b:Nat}(z:a≤b)(y:¬ a<b):a≤a∧a≤b:=Ar.ar [a,b] 2 (.im (.w .a .b) (.im (.no (.l .a .b)) (.an (.w .a .a) (.w .a .b)))) T1 z y
theorem G8{a b c:Nat}(z:a<b)(y:b≤c):(a+b) / 2<c:=Ar.ar [(a+b) / 2,a,c,b] 4 (.im (.an (.w (.ml 2 .a) (.ad .b .d)) (.l (.ad .b .d) (.ad (.ml 2 .a) (.k 2)))) (.im (.l .b .d) (.im (.w .d .c) (.l .a .c)))) T1 (Ar.divN (a+b) 2 (by decide)) z y
theorem G7{a b c:Nat}(z:a<b)(y:b≤c):(a+b) / 2≤c:=Ar.ar [(a+b) / 2,a,c,b] 4 (.im (.an (.w (.ml 2 .a) (.ad .b .d)) (.l (.ad .b .d) (.ad (.ml 2 .a) (.k 2)))) (.im (.l .b .d) (.im (.w .d .c) (.w .a .c)))) T1 (Ar.divN (a+b) 2 (by decide)) z y
theorem K7{a b c:Nat}(z:b - a=c)(y:a<b):(a+b) / 2 - a<c:=Ar.ar [b,(a+b) / 2,c,a] 4 (.im (.an (.w (.ml 2 .b) (.ad .d .a)) (.l (.ad .d .a) (.ad (.ml 2 .b) (.k 2)))) (.im (.q (.sb .a .d) .c) (.im (.l .d .a) (.l (.sb .b .d) .c)))) (by kernel_rfl) (Ar.divN (a+b) 2 (by decide)) z y
theorem Pr{a b c d:Nat}(z:(a:Int)=(b:Int)∧(c:Int)=(d:Int)):b=a:=Ar.ar [b,a,c,d] 4 (.im (.an (.eq true (.up .b) (.up .a)) (.eq true (.up .c) (.up .d))) (.q .a .b)) T1 z
theorem Pq{a b c d:Nat}(z:(a:Int)=(b:Int)∧(c:Int)=(d:Int)):d=c:=Ar.ar [d,c,a,b] 4 (.im (.an (.eq true (.up .c) (.up .d)) (.eq true (.up .b) (.up .a))) (.q .a .b)) T1 z
theorem Pp{a b c d:Nat}(z:a=b)(y:a≤c):min (d+1) b≤c:=Ar.ar [d,b,c,a] 4 (.im (.q .d .b) (.im (.w .d .c) (.w (.mn (.ad .a .o) .b) .c))) (by kernel_rfl) z y
theorem Po{a b:Nat}:((a+1+b:Nat):Int)=((a+(b+1):Nat):Int):=Ar.ar [a,b] 2 (.eq true (.up (.ad (.ad .a .o) .b)) (.up (.ad .a (.ad .b .o)))) T1
theorem Pn{a b:Nat}(z:a<b):a+(b - a) / 2+1≤b:=Ar.ar [b,(b - a) / 2,a] 3 (.im (.an (.w (.ml 2 .b) (.sb .a .c)) (.l (.sb .a .c) (.ad (.ml 2 .b) (.k 2)))) (.im (.l .c .a) (.w (.ad (.ad .c .b) .o) .a))) (by kernel_rfl) (Ar.divN (b - a) 2 (by decide)) z
theorem Pm{a b c d:Nat}(z:a - b≤c - d)(y:d<c):a - (b+(a - b) / 2+1)≤c - (d+1):=Ar.ar [c,a,(a - b) / 2,d,b] 5 (.im (.an (.w (.ml 2 .c) (.sb .b .e)) (.l (.sb .b .e) (.ad (.ml 2 .c) (.k 2)))) (.im (.w (.sb .b .e) (.sb .a .d)) (.im (.l .d .a) (.w (.sb .b (.ad (.ad .e .c) .o)) (.sb .a (.ad .d .o)))))) (by kernel_rfl) (Ar.divN (a - b) 2 (by decide)) z y
theorem Pl{a b c:Nat}(z:a<b)(y:b≤c):a+(b - a) / 2≤c:=Ar.ar [b,(b - a) / 2,c,a] 4 (.im (.an (.w (.ml 2 .b) (.sb .a .d)) (.l (.sb .a .d) (.ad (.ml 2 .b) (.k 2)))) (.im (.l .d .a) (.im (.w .a .c) (.w (.ad .d .b) .c)))) (by kernel_rfl) (Ar.divN (b - a) 2 (by decide)) z y
theorem Pk{a b c d:Nat}(z:a - b≤c - d):b+(a - b) / 2 - b≤c - (d+1):=Ar.ar [b,c,(a - b) / 2,a,d] 5 (.im (.an (.w (.ml 2 .c) (.sb .d .a)) (.l (.sb .d .a) (.ad (.ml 2 .c) (.k 2)))) (.im (.w (.sb .d .a) (.sb .b .e)) (.w (.sb (.ad .a .c) .a) (.sb .b (.ad .e .o))))) (by kernel_rfl) (Ar.divN (a - b) 2 (by decide)) z
theorem Pj{a b c:Nat}(z:a<b)(y:b≤c):a+(b - a) / 2<c:=Ar.ar [b,(b - a) / 2,c,a] 4 (.im (.an (.w (.ml 2 .b) (.sb .a .d)) (.l (.sb .a .d) (.ad (.ml 2 .b) (.k 2)))) (.im (.l .d .a) (.im (.w .a .c) (.l (.ad .d .b) .c)))) (by kernel_rfl) (Ar.divN (b - a) 2 (by decide)) z y
theorem K6{a b c:Nat}(z:¬ a - b≤c):b+c<a:=Ar.ar [b,c,a] 3 (.im (.no (.w (.sb .c .a) .b)) (.l (.ad .a .b) .c)) T1 z
theorem K5{a:Nat}:a<2*a+1:=Ar.ar [a] 1 (.l .a (.ad (.ml 2 .a) .o)) T1
theorem K4{a b:Nat}(z:a+1≤b):a+1+1≤2*b+1:=Ar.ar [a,b] 2 (.im (.w (.ad .a .o) .b) (.w (.ad (.ad .a .o) .o) (.ad (.ml 2 .b) .o))) T1 z
theorem Pi{a b c:Nat}(z:max 0 a+1≤b):a - c≤b:=Ar.ar [b,a,c] 3 (.im (.w (.ad (.mx .y .b) .o) .a) (.w (.sb .b .c) .a)) (by kernel_rfl) z
theorem Ph{a b c d:Nat}(z:a+b<c)(y:b<d):a+b+1≤a+min d (c - a):=Ar.ar [b,c,a,d] 4 (.im (.l (.ad .c .a) .b) (.im (.l .a .d) (.w (.ad (.ad .c .a) .o) (.ad .c (.mn .d (.sb .b .c)))))) (by kernel_rfl) z y
theorem Pg{a b c:Nat}(z:a<b):a+min c (b - a)≤b:=Ar.ar [a,c,b] 3 (.im (.l .a .c) (.w (.ad .a (.mn .b (.sb .c .a))) .c)) T1 z
theorem K3{a b c d:Nat}(z:a - b≤c)(y:b+min c (a - b)≤d):a≤d:=Ar.ar [a,d,c,b] 4 (.im (.w (.sb .a .d) .c) (.im (.w (.ad .d (.mn .c (.sb .a .d))) .b) (.w .a .b))) (by kernel_rfl) z y
theorem Pf{a b c d:Nat}(z:a+min b (c - a)≤d)(y:¬ c - a≤b):a+b≤d:=Ar.ar [b,c,a,d] 4 (.im (.w (.ad .c (.mn .a (.sb .b .c))) .d) (.im (.no (.w (.sb .b .c) .a)) (.w (.ad .c .a) .d))) (by kernel_rfl) z y
theorem Pe{a b c d:Nat}(z:0≤d)(y:d+1≤b)(x:a<c)(w:¬ a+1≤b):a - b<c:=Ar.ar [a,c,b,d] 4 (.im (.w .y .d) (.im (.w (.ad .d .o) .c) (.im (.l .a .b) (.im (.no (.w (.ad .a .o) .c)) (.l (.sb .a .c) .b))))) (by kernel_rfl) z y x w
theorem Pd{a b c:Nat}(z:a<b):c+1 - min b (c+1)≤c - a:=Ar.ar [a,c,b] 3 (.im (.l .a .c) (.w (.sb (.ad .b .o) (.mn .c (.ad .b .o))) (.sb .b .a))) (by kernel_rfl) z
theorem Pc{a b c:Nat}(z:a<b):a - c≤b:=Ar.ar [c,b,a] 3 (.im (.l .c .b) (.w (.sb .c .a) .b)) T1 z
theorem Pb{a b c:Nat}(z:a+1≤b)(y:c<a+1 - min b (a+1)):False:=Ar.ar [c,a,b] 3 (.im (.w (.ad .b .o) .c) (.im (.l .a (.sb (.ad .b .o) (.mn .c (.ad .b .o)))) .ff)) T1 z y
theorem Pa{a b c:Nat}(z:a<b+1 - min c (b+1)):a≤b - c:=Ar.ar [a,b,c] 3 (.im (.l .a (.sb (.ad .b .o) (.mn .c (.ad .b .o)))) (.w .a (.sb .b .c))) (by kernel_rfl) z
theorem PZ{a b c d:Nat}(z:a - b=c+d)(y:b≤a):b+c≤a:=Ar.ar [d,a,b,c] 4 (.im (.q (.sb .b .c) (.ad .d .a)) (.im (.w .c .b) (.w (.ad .c .d) .b))) (by kernel_rfl) z y
theorem PY{a b c d e:Nat}(z:a+1<b)(y:b+c≤d)(x:d≤a+e)(w:e<c):False:=Ar.ar [b,a,e,c,d] 5 (.im (.l (.ad .b .o) .a) (.im (.w (.ad .a .d) .e) (.im (.w .e (.ad .b .c)) (.im (.l .c .d) .ff)))) T1 z y x w
theorem PX{a b c d e:Nat}(z:a≤b+c)(y:b≤d)(x:c≤e):a+1≤d+1+e:=Ar.ar [e,b,c,a,d] 5 (.im (.w .d (.ad .b .c)) (.im (.w .b .e) (.im (.w .c .a) (.w (.ad .d .o) (.ad (.ad .e .o) .a))))) T1 z y x
theorem K2{a b c d:Nat}(z:min a b=c+d):c≤a:=Ar.ar [d,c,a,b] 4 (.im (.q (.mn .c .d) (.ad .b .a)) (.w .b .c)) (by kernel_rfl) z
theorem PW{a b c d e:Nat}(z:a+b+c≤d+e)(y:0<a)(x:d+e≤c):False:=Ar.ar [a,b,c,d,e] 5 (.im (.w (.ad (.ad .a .b) .c) (.ad .d .e)) (.im (.l .y .a) (.im (.w (.ad .d .e) .c) .ff))) T1 z y x
theorem PU{a b c d e f g:Nat}(z:a+b+c≤d+e)(y:0<f)(x:f≤a)(w:g≤b):f - 1+g+(c+1)≤d+e:=Ar.ar [f,g,c,d,e,a,b] 7 (.im (.w (.ad (.ad .f .g) .c) (.ad .d .e)) (.im (.l .y .a) (.im (.w .a .f) (.im (.w .b .g) (.w (.ad (.ad (.sb .a .o) .b) (.ad .c .o)) (.ad .d .e)))))) (by kernel_rfl) z y x w
theorem K1{a:Nat}(z:1<a)(y:a - 1≠1):1<a - 1:=Ar.ar [a] 1 (.im (.l .o .a) (.im (.no (.q (.sb .a .o) .o)) (.l .o (.sb .a .o)))) (by kernel_rfl) z y
theorem PT{a b c d e:Nat}(z:a+b+c≤d+e)(y:1<b):a+(b - 1)+(c+1)≤d+e:=Ar.ar [b,c,d,e,a] 5 (.im (.w (.ad (.ad .e .a) .b) (.ad .c .d)) (.im (.l .o .a) (.w (.ad (.ad .e (.sb .a .o)) (.ad .b .o)) (.ad .c .d)))) T1 z y
theorem PS{a b:Nat}(z:0<a)(y:a≤b):a - 1<b:=Ar.ar [a,b] 2 (.im (.l .y .a) (.im (.w .a .b) (.l (.sb .a .o) .b))) T1 z y
theorem PR{a b c d e:Nat}(z:min a b=c+d)(y:a - c=e)(x:¬ 0<e):c=a:=Ar.ar [c,e,d,a,b] 5 (.im (.q (.mn .d .e) (.ad .a .c)) (.im (.q (.sb .d .a) .b) (.im (.no (.l .y .b)) (.q .a .d)))) (by kernel_rfl) z y x
theorem PQ{a b:Nat}(z:0<b)(y:a<b):a≤b - 1:=Ar.ar [a,b] 2 (.im (.l .y .b) (.im (.l .a .b) (.w .a (.sb .b .o)))) T1 z y
theorem PP{a b c:Nat}(z:0<b)(y:a≤c):a+1≤b+c:=Ar.ar [a,b,c] 3 (.im (.l .y .b) (.im (.w .a .c) (.w (.ad .a .o) (.ad .b .c)))) T1 z y
theorem PO{a b c:Nat}(z:a+1<b)(y:c=b):a<c:=Ar.ar [a,c,b] 3 (.im (.l (.ad .a .o) .c) (.im (.q .b .c) (.l .a .b))) T1 z y
theorem PN{a b c:Nat}(z:a+1<b)(y:c=b):min a c=a:=Ar.ar [a,b,c] 3 (.im (.l (.ad .a .o) .b) (.im (.q .c .b) (.q (.mn .a .c) .a))) (by kernel_rfl) z y
theorem PM{a b c:Nat}:a≤a+b+c:=Ar.ar [a,b,c] 3 (.w .a (.ad (.ad .a .b) .c)) T1
theorem PL{a b c:Nat}:a≤b+a+c - b:=Ar.ar [a,b,c] 3 (.w .a (.sb (.ad (.ad .b .a) .c) .b)) T1
theorem PK{a b c d:Nat}(z:a<b):c+d+a - c - d<b:=Ar.ar [a,d,c,b] 4 (.im (.l .a .d) (.l (.sb (.sb (.ad (.ad .c .b) .a) .c) .b) .d)) (by kernel_rfl) z
theorem PJ{a b c:Nat}:a+b+c - a - b=c:=Ar.ar [c,b,a] 3 (.q (.sb (.sb (.ad (.ad .c .b) .a) .c) .b) .a) (by kernel_rfl)
theorem PI{a b:Nat}(z:0<a)(y:0=b+a):False:=Ar.ar [a,b] 2 (.im (.l .y .a) (.im (.q .y (.ad .b .a)) .ff)) T1 z y
theorem PH{a b:Nat}(z:0<a)(y:b=a):b - 1<a:=Ar.ar [a,b] 2 (.im (.l .y .a) (.im (.q .b .a) (.l (.sb .b .o) .a))) T1 z y
theorem PG{a b c:Nat}(z:a+b=c)(y:c - a=0):b=0:=Ar.ar [b,c,a] 3 (.im (.q (.ad .c .a) .b) (.im (.q (.sb .b .c) .y) (.q .a .y))) (by kernel_rfl) z y
theorem PE{a b c d e:Nat}(z:a=b)(y:0<b)(x:c+d=a):e+c+(a - c) - 1=e+(a - 1):=Ar.ar [e,d,c,a,b] 5 (.im (.q .d .e) (.im (.l .y .e) (.im (.q (.ad .c .b) .d) (.q (.sb (.ad (.ad .a .c) (.sb .d .c)) .o) (.ad .a (.sb .d .o)))))) (by kernel_rfl) z y x
theorem PD{a b:Nat}(z:0<a)(y:b=a):b - 1<b:=Ar.ar [b,a] 2 (.im (.l .y .b) (.im (.q .a .b) (.l (.sb .a .o) .a))) T1 z y
theorem PC{a b c d e f:Nat}(z:a+b=c)(y:d=e+f)(x:c=f):d - (e+a)=b:=Ar.ar [b,c,f,a,e,d] 6 (.im (.q (.ad .d .a) .b) (.im (.q .f (.ad .e .c)) (.im (.q .b .c) (.q (.sb .f (.ad .e .d)) .a)))) (by kernel_rfl) z y x
theorem PB{a b:Nat}(z:a=b)(y:¬ b - a=0):False:=Ar.ar [a,b] 2 (.im (.q .a .b) (.im (.no (.q (.sb .b .a) .y)) .ff)) T1 z y
theorem PA{a b c d:Nat}(z:a+b=c)(y:d+1=b):a+d=c - 1:=Ar.ar [a,d,c,b] 4 (.im (.q (.ad .a .d) .c) (.im (.q (.ad .b .o) .d) (.q (.ad .a .b) (.sb .c .o)))) (by kernel_rfl) z y
theorem O9{a b:Nat}(z:a+1<b):a - 1+1<b:=Ar.ar [a,b] 2 (.im (.l (.ad .a .o) .b) (.l (.ad (.sb .a .o) .o) .b)) T1 z
theorem O8{a b c d:Nat}(z:min (max 0 a) a≤b)(y:b+c=d)(x:d=a):c=0:=Ar.ar [c,d,b,a] 4 (.im (.w (.mn (.mx .y .d) .d) .c) (.im (.q (.ad .c .a) .b) (.im (.q .b .d) (.q .a .y)))) (by kernel_rfl) z y x
theorem O7{a b:Nat}(z:a+max 0 b≤b+1):a≤1:=Ar.ar [a,b] 2 (.im (.w (.ad .a (.mx .y .b)) (.ad .b .o)) (.w .a .o)) T1 z
theorem O6{a:Nat}(z:¬ a≤1):a - 2+1<a:=Ar.ar [a] 1 (.im (.no (.w .a .o)) (.l (.ad (.sb .a (.k 2)) .o) .a)) T1 z
theorem O5{a b c d:Nat}(z:a+1=b)(y:b+c≤d+1):a+(c+1)≤d+1:=Ar.ar [a,c,d,b] 4 (.im (.q (.ad .a .o) .d) (.im (.w (.ad .d .b) (.ad .c .o)) (.w (.ad .a (.ad .b .o)) (.ad .c .o)))) T1 z y
theorem O4{a b:Nat}(z:a+1+1=b)(y:b≤1):False:=Ar.ar [a,b] 2 (.im (.q (.ad (.ad .a .o) .o) .b) (.im (.w .b .o) .ff)) T1 z y
theorem O3{a b c d:Nat}(z:a+b=c)(y:c=d)(x:d≤a):b=0:=Ar.ar [b,c,a,d] 4 (.im (.q (.ad .c .a) .b) (.im (.q .b .d) (.im (.w .d .c) (.q .a .y)))) (by kernel_rfl) z y x
theorem O2{a b c:Nat}(z:a=b)(y:b=c)(x:¬ c≤a):False:=Ar.ar [a,b,c] 3 (.im (.q .a .b) (.im (.q .b .c) (.im (.no (.w .c .a)) .ff))) T1 z y x
theorem O1{a b c d:Nat}(z:a+b=c)(y:c=d):b=d - a:=Ar.ar [b,c,d,a] 4 (.im (.q (.ad .d .a) .b) (.im (.q .b .c) (.q .a (.sb .c .d)))) (by kernel_rfl) z y
theorem O0{a b c d e f g i:Nat}(z:f=b)(y:c+g=f)(x:¬ b≤c)(w:a=i)(v:c+(a+e)=b)(u:a<d):a+min (min (b - c) d - a) e=min (b - c) d:=Ar.ar [d,b,c,i,a,e,f,g] 8 (.im (.q .g .b) (.im (.q (.ad .c .h) .g) (.im (.no (.w .b .c)) (.im (.q .e .d) (.im (.q (.ad .c (.ad .e .f)) .b) (.im (.l .e .a) (.q (.ad .e (.mn (.sb (.mn (.sb .b .c) .a) .e) .f)) (.mn (.sb .b .c) .a)))))))) (by kernel_rfl) z y x w v u
theorem Oz{a b c d e:Nat}(z:0<a)(y:0=min (b - c) d)(x:a+e=min (b - c) d):False:=Ar.ar [b,e,a,d,c] 5 (.im (.l .y .c) (.im (.q .y (.mn (.sb .a .e) .d)) (.im (.q (.ad .c .b) (.mn (.sb .a .e) .d)) .ff))) (by kernel_rfl) z y x
theorem Oy{a b c d e f g i j k:Nat}(z:e=b)(y:a<b)(x:min a b≤c)(w:c+f=e)(v:g=c)(u:i=j)(t:c+(i+k)=b)(s:0<d):min (a+1) b≤c+d:=Ar.ar [a,d,f,c,j,b,g,i,e,k] 10 (.im (.q (.n 8) .f) (.im (.l .a .f) (.im (.w (.mn .a .f) .d) (.im (.q (.ad .d .c) (.n 8)) (.im (.q .g .d) (.im (.q .h .e) (.im (.q (.ad .d (.ad .h (.n 9))) .f) (.im (.l .y .b) (.w (.mn (.ad .a .o) .f) (.ad .d .b)))))))))) (by kernel_rfl) z y x w v u t s
theorem Ox{a:Nat}(z:1<a):a - 2+1<a:=Ar.ar [a] 1 (.im (.l .o .a) (.l (.ad (.sb .a (.k 2)) .o) .a)) T1 z
theorem Ow{a:Nat}(z:a<1073741824)(y:¬ (0:Int)<(a:Int)):(0:Int)=(a:Int):=Ar.ar [a] 1 (.im (.l .a (.k 1073741824)) (.im (.no (.lt true .y (.up .a))) (.eq true .y (.up .a)))) T1 z y
theorem Ov{a:Int}(z:(-(1073741824:Int))≤a)(y:a≤(1073741824:Int)):(-(9223372036854775808:Int))≤a∧a<(9223372036854775808:Int):=Ar.arith [] [a] 1 (.im (.le true (.ng (.k 1073741824)) (.z 0)) (.im (.le true (.z 0) (.k 1073741824)) (.an (.le true (.ng (.k 9223372036854775808)) (.z 0)) (.lt true (.z 0) (.k 9223372036854775808))))) T1 z y
theorem Ou{a:Nat}(z:a<1073741824):(a:Int)≤(1073741824:Int):=Ar.ar [a] 1 (.im (.l .a (.k 1073741824)) (.le true (.up .a) (.k 1073741824))) T1 z
theorem Ot{a b:Nat}(z:a<b):(0:Int)+((b:Int) - (1:Int))*(1:Int)+(a:Int)*(-(1:Int))=((b - 1 - a:Nat):Int):=Ar.arith [b,a] [(a:Int)*(-(1:Int)),((b:Int) - (1:Int))*(1:Int)] 2 (.im (.eq true (.z 1) (.ml 1 (.sb (.up .a) .o))) (.im (.eq true (.z 0) (.ng (.ml 1 (.up .b)))) (.im (.l .b .a) (.eq true (.ad (.ad .y (.z 1)) (.z 0)) (.up (.sb (.sb .a .o) .b)))))) (by kernel_rfl) (Int.mul_comm ((b:Int) - (1:Int)) (1:Int)) (Ar.mulN (a:Int) (1:Int)) z
theorem Os{a b:Nat}(z:a<b):b - 1 - a<b:=Ar.ar [a,b] 2 (.im (.l .a .b) (.l (.sb (.sb .b .o) .a) .b)) (by kernel_rfl) z
theorem Oq{a b:Nat}(z:a<b):b - 1 - a+1=b - a:=Ar.ar [b,a] 2 (.im (.l .b .a) (.q (.ad (.sb (.sb .a .o) .b) .o) (.sb .a .b))) (by kernel_rfl) z
theorem Op{a b:Nat}:a - (b+1)=a - 1 - b:=Ar.ar [b,a] 2 (.q (.sb .b (.ad .a .o)) (.sb (.sb .b .o) .a)) (by kernel_rfl)
theorem Oo{a b c d:Nat}(z:a+b=c)(y:d<b):a+d<c:=Ar.ar [a,d,c,b] 4 (.im (.q (.ad .a .d) .c) (.im (.l .b .d) (.l (.ad .a .b) .c))) T1 z y
theorem On{a b c:Nat}(z:a<b - c):c+a<b:=Ar.ar [c,a,b] 3 (.im (.l .b (.sb .c .a)) (.l (.ad .a .b) .c)) T1 z
theorem Om{a:Nat}:(a:Int) - (a:Int)≤(0:Int):=Ar.ar [a] 1 (.le true (.sb (.up .a) (.up .a)) .y) T1
theorem Ol{a b:Nat}(z:a<b):(0:Int)<(b:Int) - (a:Int):=Ar.ar [b,a] 2 (.im (.l .b .a) (.lt true .y (.sb (.up .a) (.up .b)))) T1 z
theorem Oj{a b:Nat}:(a:Int) - ((b:Int)+(1:Int))=(a:Int) - (b:Int) - (1:Int):=Ar.ar [a,b] 2 (.eq true (.sb (.up .a) (.ad (.up .b) .o)) (.sb (.sb (.up .a) (.up .b)) .o)) T1
theorem Oi{a b:Nat}:a+3<b→b<a→False:=Ar.ar [a,b] 2 (.im (.l (.ad .a (.k 3)) .b) (.im (.l .b .a) .ff)) T1
theorem Oh{a b:Nat}(z:a - b=0)(y:b≤a):b=a:=Ar.ar [a,b] 2 (.im (.q (.sb .a .b) .y) (.im (.w .b .a) (.q .b .a))) (by kernel_rfl) z y
theorem Og{a b c:Nat}(z:a - b=c+1):b<a:=Ar.ar [c,b,a] 3 (.im (.q (.sb .c .b) (.ad .a .o)) (.l .b .c)) T1 z
theorem K0{a b c:Nat}(z:a - b=c+1):a - (b+1)=c:=Ar.ar [c,a,b] 3 (.im (.q (.sb .b .c) (.ad .a .o)) (.q (.sb .b (.ad .c .o)) .a)) (by kernel_rfl) z
theorem Kz{a b:Nat}(z:a+9<b):a+1+1+3<b:=Ar.ar [a,b] 2 (.im (.l (.ad .a (.k 9)) .b) (.l (.ad (.ad (.ad .a .o) .o) (.k 3)) .b)) T1 z
theorem Of{a b c d:Nat}(z:a+b≤c):a+min d b≤c:=Ar.ar [a,d,b,c] 4 (.im (.w (.ad .a .c) .d) (.w (.ad .a (.mn .b .c)) .d)) T1 z
theorem Ky{a b:Nat}(z:(0:Int)=(a:Int) - (b:Int)):b≤a:=Ar.ar [b,a] 2 (.im (.eq true .y (.sb (.up .b) (.up .a))) (.w .a .b)) T1 z
theorem Oe{a b c:Nat}(z:(-((a:Int)+(1:Int)))=(b:Int) - (c:Int)):b<c:=Ar.ar [b,c,a] 3 (.im (.eq true (.ng (.ad (.up .c) .o)) (.sb (.up .a) (.up .b))) (.l .a .b)) T1 z
theorem Od{a b c:Nat}(z:(a:Int)+(1:Int)=(b:Int) - (c:Int)):c≤b:=Ar.ar [c,b,a] 3 (.im (.eq true (.ad (.up .c) .o) (.sb (.up .b) (.up .a))) (.w .a .b)) T1 z
theorem Oc{a b:Nat}:(a:Int) - (b:Int)=((a+1:Nat):Int) - ((b+1:Nat):Int):=Ar.ar [a,b] 2 (.eq true (.sb (.up .a) (.up .b)) (.sb (.up (.ad .a .o)) (.up (.ad .b .o)))) T1
theorem Ob{a b:Nat}:((a+1:Nat):Int) - ((b+1:Nat):Int)=(a:Int) - (b:Int):=Ar.ar [a,b] 2 (.eq true (.sb (.up (.ad .a .o)) (.up (.ad .b .o))) (.sb (.up .a) (.up .b))) T1
theorem Oa{a b:Nat}(z:2≤a)(y:b=a):0<b:=Ar.ar [b,a] 2 (.im (.w (.k 2) .b) (.im (.q .a .b) (.l .y .a))) T1 z y
theorem OZ{a b c d:Nat}(z:(a:Int) - (b:Int)=(c:Int) - (d:Int))(y:a<b):c<d:=Ar.ar [c,d,a,b] 4 (.im (.eq true (.sb (.up .c) (.up .d)) (.sb (.up .a) (.up .b))) (.im (.l .c .d) (.l .a .b))) T1 z y
theorem OY{a b c d:Nat}(z:(a:Int) - (b:Int)=(c:Int) - (d:Int))(y:c<d):a<b:=Ar.ar [a,b,c,d] 4 (.im (.eq true (.sb (.up .a) (.up .b)) (.sb (.up .c) (.up .d))) (.im (.l .c .d) (.l .a .b))) T1 z y
theorem Kx{a b:Nat}(z:(1:Int)*(a:Int)=(1:Int)*(b:Int)):a=b:=Ar.ar [a,b] 2 (.im (.eq true (.ml 1 (.up .a)) (.ml 1 (.up .b))) (.q .a .b)) T1 z
theorem Kw{a b:Nat}(z:(-(1:Int))*(a:Int)=(-(1:Int))*(b:Int)):a=b:=Ar.arith [a,b] [(-(1:Int))*(b:Int),(-(1:Int))*(a:Int)] 2 (.im (.eq true (.z 1) (.ng (.ml 1 (.up .a)))) (.im (.eq true (.z 0) (.ng (.ml 1 (.up .b)))) (.im (.eq true (.z 1) (.z 0)) (.q .a .b)))) (by kernel_rfl) (Int.neg_mul (1:Int) (a:Int)) (Int.neg_mul (1:Int) (b:Int)) z
theorem OX{a:Int}(z:(0:Int)<a):a - (0:Int)=((Int.toNat a:Nat):Int):=Ar.arith [Int.toNat a] [a] 1 (.im (.o (.an (.le true .y (.z 0)) (.eq true (.up .a) (.z 0))) (.an (.lt true (.z 0) .y) (.q .a .y))) (.im (.lt true .y (.z 0)) (.eq true (.sb (.z 0) .y) (.up .a)))) (by kernel_rfl) (Ar.toN a) z
theorem OW{a:Int}(z:¬ (0:Int)<a):(0:Int)=((Int.toNat a:Nat):Int):=Ar.arith [Int.toNat a] [a] 1 (.im (.o (.an (.le true .y (.z 0)) (.eq true (.up .a) (.z 0))) (.an (.lt true (.z 0) .y) (.q .a .y))) (.im (.no (.lt true .y (.z 0))) (.eq true .y (.up .a)))) (by kernel_rfl) (Ar.toN a) z
theorem OV{a:Int}(z:(-a)<(0:Int)):(0:Int) - (-a) - (1:Int)+(1:Int)=((Int.toNat a:Nat):Int):=Ar.arith [Int.toNat a] [a] 1 (.im (.o (.an (.le true .y (.z 0)) (.eq true (.up .a) (.z 0))) (.an (.lt true (.z 0) .y) (.q .a .y))) (.im (.lt true (.ng (.z 0)) .y) (.eq true (.ad (.sb (.sb .y (.ng (.z 0))) .o) .o) (.up .a)))) (by kernel_rfl) (Ar.toN a) z
theorem OU{a:Int}(z:¬ (-a)<(0:Int)):(0:Int)=((Int.toNat a:Nat):Int):=Ar.arith [Int.toNat a] [a] 1 (.im (.o (.an (.le true .y (.z 0)) (.eq true (.up .a) (.z 0))) (.an (.lt true (.z 0) .y) (.q .a .y))) (.im (.no (.lt true (.ng (.z 0)) .y)) (.eq true .y (.up .a)))) (by kernel_rfl) (Ar.toN a) z
theorem OT{a:Int}(z:(0:Int)<a)(y:a<(2:Int) ^ 60):(((((-(2:Int) ^ 63)≤(0:Int)∧(0:Int)<(2:Int) ^ 63)∧(-(2:Int) ^ 63)≤(-a)∧(-a)<(2:Int) ^ 63)∧(-(2:Int) ^ 63)≤(-(1:Int))∧(-(1:Int))<(2:Int) ^ 63)∧(-(2:Int) ^ 63)≤((Int.toNat a:Nat):Int)∧((Int.toNat a:Nat):Int)<(2:Int) ^ 63)∧(((Int.toNat a:Nat):Int)=(0:Int)∨(-(2:Int) ^ 63)≤(-a)+((-(1:Int))+(1:Int))∧(-a)+((-(1:Int))+(1:Int))<(2:Int) ^ 63):=Ar.arith [Int.toNat a] [a] 1 (.im (.o (.an (.le true .y (.z 0)) (.eq true (.up .a) (.z 0))) (.an (.lt true (.z 0) .y) (.q .a .y))) (.im (.lt true .y (.z 0)) (.im (.lt true (.z 0) (.pw 2 60)) (.an (.an (.an (.an (.an (.le true (.ng (.pw 2 63)) .y) (.lt true .y (.pw 2 63))) (.an (.le true (.ng (.pw 2 63)) (.ng (.z 0))) (.lt true (.ng (.z 0)) (.pw 2 63)))) (.an (.le true (.ng (.pw 2 63)) (.ng .o)) (.lt true (.ng .o) (.pw 2 63)))) (.an (.le true (.ng (.pw 2 63)) (.up .a)) (.lt true (.up .a) (.pw 2 63)))) (.o (.eq true (.up .a) .y) (.an (.le true (.ng (.pw 2 63)) (.ad (.ng (.z 0)) (.ad (.ng .o) .o))) (.lt true (.ad (.ng (.z 0)) (.ad (.ng .o) .o)) (.pw 2 63)))))))) (by kernel_rfl) (Ar.toN a) z y
theorem Kv{a b:Nat}(z:a<b):(0:Int)≤(b:Int) - (1:Int):=Ar.ar [b,a] 2 (.im (.l .b .a) (.le true .y (.sb (.up .a) .o))) T1 z
theorem Ku{a b:Nat}(z:a<b):((b:Int) - (1:Int)) / (2:Int)=(((b - 1) / 2:Nat):Int):=Ar.arith [(b - 1) / 2,b,a] [((b:Int) - (1:Int)) / (2:Int)] 3 (.im (.an (.le true (.ml 2 (.z 0)) (.sb (.up .b) .o)) (.lt true (.sb (.up .b) .o) (.ad (.ml 2 (.z 0)) (.k 2)))) (.im (.an (.w (.ml 2 .a) (.sb .b .o)) (.l (.sb .b .o) (.ad (.ml 2 .a) (.k 2)))) (.im (.l .c .b) (.eq true (.z 0) (.up .a))))) (by kernel_rfl) (Ar.divZ ((b:Int) - (1:Int)) (2:Int) (by decide)) (Ar.divN (b - 1) 2 (by decide)) z
theorem Kt{a b c:Nat}(z:2*a+1<b)(y:b=c):(2:Int)*(a:Int)+(1:Int)<(c:Int):=Ar.ar [a,c,b] 3 (.im (.l (.ad (.ml 2 .a) .o) .c) (.im (.q .c .b) (.lt true (.ad (.ml 2 (.up .a)) .o) (.up .b)))) T1 z y
theorem Ks{a b c d:Nat}(z:a<b)(y:a<c)(x:c=d):d - b<d - a:=Ar.ar [a,c,d,b] 4 (.im (.l .a .d) (.im (.l .a .b) (.im (.q .b .c) (.l (.sb .c .d) (.sb .c .a))))) (by kernel_rfl) z y x
theorem Kr{a b c:Nat}(z:2*a+2<b)(y:b=c):(2:Int)*(a:Int)+(1:Int)+(1:Int)<(c:Int):=Ar.ar [a,c,b] 3 (.im (.l (.ad (.ml 2 .a) (.k 2)) .c) (.im (.q .c .b) (.lt true (.ad (.ad (.ml 2 (.up .a)) .o) .o) (.up .b)))) T1 z y
theorem Kq{a b c:Nat}(z:a=b)(y:¬ 2*c+2<a):(b:Int)≤(2:Int)*(c:Int)+(1:Int)+(1:Int):=Ar.ar [b,c,a] 3 (.im (.q .c .a) (.im (.no (.l (.ad (.ml 2 .b) (.k 2)) .c)) (.le true (.up .a) (.ad (.ad (.ml 2 (.up .b)) .o) .o)))) T1 z y
theorem Ko{a b c:Nat}(z:a=b)(y:¬ 2*c+1<a):(b:Int)≤(2:Int)*(c:Int)+(1:Int):=Ar.ar [b,c,a] 3 (.im (.q .c .a) (.im (.no (.l (.ad (.ml 2 .b) .o) .c)) (.le true (.up .a) (.ad (.ml 2 (.up .b)) .o)))) T1 z y
theorem Kn{a:Nat}(z:a<1000000):a / 2<1073741824:=Ar.ar [a,a / 2] 2 (.im (.an (.w (.ml 2 .b) .a) (.l .a (.ad (.ml 2 .b) (.k 2)))) (.im (.l .a (.k 1000000)) (.l .b (.k 1073741824)))) T1 (Ar.divN a 2 (by decide)) z
theorem Km{a b:Nat}(z:0<a)(y:b / 2≤(a - 1) / 2)(x:a<b):False:=Ar.ar [a,(a - 1) / 2,b / 2,b] 4 (.im (.an (.w (.ml 2 .c) .d) (.l .d (.ad (.ml 2 .c) (.k 2)))) (.im (.an (.w (.ml 2 .b) (.sb .a .o)) (.l (.sb .a .o) (.ad (.ml 2 .b) (.k 2)))) (.im (.l .y .a) (.im (.w .c .b) (.im (.l .a .d) .ff))))) (by kernel_rfl) (Ar.divN b 2 (by decide)) (Ar.divN (a - 1) 2 (by decide)) z y x
theorem G6{a b c:Nat}(z:a<b / 2)(y:c=b):a<c:=Ar.ar [b / 2,b,a,c] 4 (.im (.an (.w (.ml 2 .a) .b) (.l .b (.ad (.ml 2 .a) (.k 2)))) (.im (.l .c .a) (.im (.q .d .b) (.l .c .d)))) (by kernel_rfl) (Ar.divN b 2 (by decide)) z y
theorem OS{a b c:Nat}(z:min a b=c+1)(y:a≤b):c+1=a:=Ar.ar [c,a,b] 3 (.im (.q (.mn .b .c) (.ad .a .o)) (.im (.w .b .c) (.q (.ad .a .o) .b))) (by kernel_rfl) z y
theorem OR{a b c:Nat}(z:¬ a<b)(y:¬ b<c):¬ a<c:=Ar.ar [a,c,b] 3 (.im (.no (.l .a .c)) (.im (.no (.l .c .b)) (.no (.l .a .b)))) T1 z y
theorem OQ{a b c:Nat}(z:a+1≤b∧b<a+1+c):a≤b∧b<a+(c+1):=Ar.ar [a,b,c] 3 (.im (.an (.w (.ad .a .o) .b) (.l .b (.ad (.ad .a .o) .c))) (.an (.w .a .b) (.l .b (.ad .a (.ad .c .o))))) T1 z
theorem Kl{a b:Nat}(z:a≠b)(y:¬ a<b)(x:¬ b<a):False:=Ar.ar [a,b] 2 (.im (.no (.q .a .b)) (.im (.no (.l .a .b)) (.im (.no (.l .b .a)) .ff))) T1 z y x
theorem Kk{a b c:Int}(z:a<b)(y:b<c):a<c:=Ar.arith [] [a,c,b] 3 (.im (.lt true (.z 0) (.z 2)) (.im (.lt true (.z 2) (.z 1)) (.lt true (.z 0) (.z 1)))) T1 z y
theorem OP{a b:Nat}:(a:Int)<(b:Int)↔a<b:=Ar.iff (Ar.ar [a,b] 2 (.an (.im (.lt true (.up .a) (.up .b)) (.l .a .b)) (.im (.l .a .b) (.lt true (.up .a) (.up .b)))) T1)
theorem OO{a b:Nat}:(-(1:Int))*(a:Int)<(-(1:Int))*(b:Int)↔b<a:=Ar.iff (Ar.arith [a,b] [(-(1:Int))*(b:Int),(-(1:Int))*(a:Int)] 2 (.im (.eq true (.z 1) (.ng (.ml 1 (.up .a)))) (.im (.eq true (.z 0) (.ng (.ml 1 (.up .b)))) (.an (.im (.lt true (.z 1) (.z 0)) (.l .b .a)) (.im (.l .b .a) (.lt true (.z 1) (.z 0)))))) (by kernel_rfl) (Int.neg_mul (1:Int) (a:Int)) (Int.neg_mul (1:Int) (b:Int)))
theorem ON{a b c:Nat}(z:a+12≤b)(y:c<a):c+3+9<b:=Ar.ar [c,b,a] 3 (.im (.w (.ad .c (.k 12)) .b) (.im (.l .a .c) (.l (.ad (.ad .a (.k 3)) (.k 9)) .b))) T1 z y
theorem G5{b c:Nat}{a:Int}(z:Int.toNat a=b)(y:a<(c:Int)):b≤c:=Ar.arith [b,Int.toNat a,c] [a] 3 (.im (.o (.an (.le true .y (.z 0)) (.eq true (.up .b) (.z 0))) (.an (.lt true (.z 0) .y) (.q .b .y))) (.im (.q .b .a) (.im (.lt true (.z 0) (.up .c)) (.w .a .c)))) (by kernel_rfl) (Ar.toN a) z y
theorem Kj{b:Nat}{a:Int}(z:Int.toNat a=b)(y:b≠0):(-(2:Int) ^ 62)≤a:=Ar.arith [b,Int.toNat a] [a] 2 (.im (.o (.an (.le true .y (.z 0)) (.eq true (.up .b) (.z 0))) (.an (.lt true (.z 0) .y) (.q .b .y))) (.im (.q .b .a) (.im (.no (.q .a .y)) (.le true (.ng (.pw 2 62)) (.z 0))))) (by kernel_rfl) (Ar.toN a) z y
theorem Ki{b:Nat}{a:Int}(z:a<(b:Int))(y:b<100000):a<(2:Int) ^ 62:=Ar.arith [b] [a] 1 (.im (.lt true (.z 0) (.up .a)) (.im (.l .a (.k 100000)) (.lt true (.z 0) (.pw 2 62)))) T1 z y
theorem Kh{a:Nat}:(0:Int)+(a:Int)*(1:Int)=(1:Int)*(a:Int):=Ar.arith [a] [(a:Int)*(1:Int)] 1 (.im (.eq true (.z 0) (.ml 1 (.up .a))) (.eq true (.ad .y (.z 0)) (.ml 1 (.up .a)))) T1 (Int.mul_comm (a:Int) (1:Int))
theorem G4{a b c:Nat}(z:a=b)(y:b≤c)(x:c<100000):a<1000000:=Ar.ar [a,c,b] 3 (.im (.q .a .c) (.im (.w .c .b) (.im (.l .b (.k 100000)) (.l .a (.k 1000000))))) T1 z y x
theorem Kg{b:Nat}{a:Int}(z:Int.toNat a=b)(y:¬ b=0):(1:Int)*(b:Int)=a:=Ar.arith [b,Int.toNat a] [a] 2 (.im (.o (.an (.le true .y (.z 0)) (.eq true (.up .b) (.z 0))) (.an (.lt true (.z 0) .y) (.q .b .y))) (.im (.q .b .a) (.im (.no (.q .a .y)) (.eq true (.ml 1 (.up .a)) (.z 0))))) (by kernel_rfl) (Ar.toN a) z y
theorem G3{a b c:Nat}(z:a+b<c):a≤min (a+b) c:=Ar.ar [a,b,c] 3 (.im (.l (.ad .a .b) .c) (.w .a (.mn (.ad .a .b) .c))) T1 z
theorem G2{a b:Nat}:a≤b+(a - b):=Ar.ar [a,b] 2 (.w .a (.ad .b (.sb .a .b))) T1
theorem G1{a b c:Nat}(z:a=b)(y:b≤c)(x:c<100000):a≤16777216:=Ar.ar [a,c,b] 3 (.im (.q .a .c) (.im (.w .c .b) (.im (.l .b (.k 100000)) (.w .a (.k 16777216))))) T1 z y x
theorem Kf{b:Nat}{a:Int}(z:Int.toNat a=b)(y:b≠0):(0:Int)<a:=Ar.arith [b,Int.toNat a] [a] 2 (.im (.o (.an (.le true .y (.z 0)) (.eq true (.up .b) (.z 0))) (.an (.lt true (.z 0) .y) (.q .b .y))) (.im (.q .b .a) (.im (.no (.q .a .y)) (.lt true .y (.z 0))))) (by kernel_rfl) (Ar.toN a) z y
theorem Ke{b:Nat}{a:Int}(z:a<(b:Int))(y:b<100000):a<(2:Int) ^ 60:=Ar.arith [b] [a] 1 (.im (.lt true (.z 0) (.up .a)) (.im (.l .a (.k 100000)) (.lt true (.z 0) (.pw 2 60)))) T1 z y
theorem Kd{a:Nat}:(0:Int)+(a:Int)*(-(1:Int))=(-(1:Int))*(a:Int):=Ar.arith [a] [(a:Int)*(-(1:Int)),(-(1:Int))*(a:Int)] 2 (.im (.eq true (.z 0) (.ng (.ml 1 (.up .a)))) (.im (.eq true (.z 1) (.ng (.ml 1 (.up .a)))) (.eq true (.ad .y (.z 0)) (.z 1)))) (by kernel_rfl) (Ar.mulN (a:Int) (1:Int)) (Int.neg_mul (1:Int) (a:Int))
theorem Kc{b:Nat}{a:Int}(z:Int.toNat a=b)(y:¬ b=0):(-(1:Int))*(b:Int)=(-a):=Ar.arith [b,Int.toNat a] [a,(-(1:Int))*(b:Int)] 2 (.im (.eq true (.z 1) (.ng (.ml 1 (.up .a)))) (.im (.o (.an (.le true .y (.z 0)) (.eq true (.up .b) (.z 0))) (.an (.lt true (.z 0) .y) (.q .b .y))) (.im (.q .b .a) (.im (.no (.q .a .y)) (.eq true (.z 1) (.ng (.z 0))))))) (by kernel_rfl) (Int.neg_mul (1:Int) (b:Int)) (Ar.toN a) z y
theorem Kb{a:Nat}:(-(1:Int))*(a:Int) - (1:Int)=(-(1:Int))*((a+1:Nat):Int):=Ar.arith [a] [(-(1:Int))*(a:Int),(-(1:Int))*((a+1:Nat):Int)] 2 (.im (.eq true (.z 0) (.ng (.ml 1 (.up .a)))) (.im (.eq true (.z 1) (.ng (.ml 1 (.up (.ad .a .o))))) (.eq true (.sb (.z 0) .o) (.z 1)))) (by kernel_rfl) (Int.neg_mul (1:Int) (a:Int)) (Int.neg_mul (1:Int) ((a+1:Nat):Int))
theorem Ka{a b:Nat}(z:a<880∧b<8800):b+1+1<9000:=Ar.ar [b,a] 2 (.im (.an (.l .b (.k 880)) (.l .a (.k 8800))) (.l (.ad (.ad .a .o) .o) (.k 9000))) T1 z
theorem OM{a b c d:Nat}{e f:Int}(z:(a:Int)=(b:Int))(y:(c:Int)=(d:Int))(x:e=f):f≤e∧(e=f→b≤a∧(a=b→d≤c)):=Ar.arith [d,b,a,c] [f,e] 4 (.im (.eq true (.up .c) (.up .b)) (.im (.eq true (.up .d) (.up .a)) (.im (.eq true (.z 1) (.z 0)) (.an (.le true (.z 0) (.z 1)) (.im (.eq true (.z 1) (.z 0)) (.an (.w .b .c) (.im (.q .c .b) (.w .a .d)))))))) (by kernel_rfl) z y x
theorem OL{a b e f:Nat}{c d:Int}(z:(a:Int)=(b:Int))(y:c=d):(e:Int)<(f:Int)↔c<d∨c=d∧(a<b∨a=b∧e<f):=Ar.iff (Ar.arith [f,a,e,b] [c,d] 4 (.im (.eq true (.up .b) (.up .d)) (.im (.eq true (.z 0) (.z 1)) (.an (.im (.lt true (.up .c) (.up .a)) (.o (.lt true (.z 0) (.z 1)) (.an (.eq true (.z 0) (.z 1)) (.o (.l .b .d) (.an (.q .b .d) (.l .c .a)))))) (.im (.o (.lt true (.z 0) (.z 1)) (.an (.eq true (.z 0) (.z 1)) (.o (.l .b .d) (.an (.q .b .d) (.l .c .a))))) (.lt true (.up .c) (.up .a)))))) (by kernel_rfl) z y)
theorem OK{c d e f:Nat}{a b:Int}(z:a=b)(y:¬ (c:Int)=(d:Int)):(c:Int)<(d:Int)↔a<b∨a=b∧(c<d∨c=d∧e<f):=Ar.iff (Ar.arith [d,c,e,f] [a,b] 4 (.im (.eq true (.z 0) (.z 1)) (.im (.no (.eq true (.up .b) (.up .a))) (.an (.im (.lt true (.up .b) (.up .a)) (.o (.lt true (.z 0) (.z 1)) (.an (.eq true (.z 0) (.z 1)) (.o (.l .b .a) (.an (.q .b .a) (.l .c .d)))))) (.im (.o (.lt true (.z 0) (.z 1)) (.an (.eq true (.z 0) (.z 1)) (.o (.l .b .a) (.an (.q .b .a) (.l .c .d))))) (.lt true (.up .b) (.up .a)))))) (by kernel_rfl) z y)
theorem OJ{c d e f:Nat}{a b:Int}(z:¬ a=b):a<b↔a<b∨a=b∧(c<d∨c=d∧e<f):=Ar.iff (Ar.arith [c,d,e,f] [a,b] 4 (.im (.no (.eq true (.z 0) (.z 1))) (.an (.im (.lt true (.z 0) (.z 1)) (.o (.lt true (.z 0) (.z 1)) (.an (.eq true (.z 0) (.z 1)) (.o (.l .a .b) (.an (.q .a .b) (.l .c .d)))))) (.im (.o (.lt true (.z 0) (.z 1)) (.an (.eq true (.z 0) (.z 1)) (.o (.l .a .b) (.an (.q .a .b) (.l .c .d))))) (.lt true (.z 0) (.z 1))))) (by kernel_rfl) z)
theorem OI{c d e f:Nat}{a b:Int}(z:¬ (a<b∨a=b∧(c<d∨c=d∧e<f)))(y:¬ (b<a∨b=a∧(d<c∨d=c∧f<e))):c=d∧e=f:=Ar.arith [c,e,d,f] [a,b] 4 (.im (.no (.o (.lt true (.z 0) (.z 1)) (.an (.eq true (.z 0) (.z 1)) (.o (.l .a .c) (.an (.q .a .c) (.l .b .d)))))) (.im (.no (.o (.lt true (.z 1) (.z 0)) (.an (.eq true (.z 1) (.z 0)) (.o (.l .c .a) (.an (.q .c .a) (.l .d .b)))))) (.an (.q .a .c) (.q .b .d)))) (by kernel_rfl) z y
theorem OH{a b c d:Nat}(z:a<b∧c<d):a<b+1∧c<d:=Ar.ar [a,b,c,d] 4 (.im (.an (.l .a .b) (.l .c .d)) (.an (.l .a (.ad .b .o)) (.l .c .d))) T1 z
theorem OG{a b c:Nat}(z:a<b):c<c+1∧a<b:=Ar.ar [c,a,b] 3 (.im (.l .b .c) (.an (.l .a (.ad .a .o)) (.l .b .c))) T1 z
theorem OF{a b c d:Nat}(z:a<b+1∧c<d)(y:¬ a=b):a<b:=Ar.ar [a,b,c,d] 4 (.im (.an (.l .a (.ad .b .o)) (.l .c .d)) (.im (.no (.q .a .b)) (.l .a .b))) T1 z y
theorem OE{a b:Nat}(z:a<a∨a=a∧b<b):False:=Ar.ar [a,b] 2 (.im (.o (.l .a .a) (.an (.q .a .a) (.l .b .b))) .ff) T1 z
theorem OD{c d e f:Nat}{a b:Int}(z:a<b∨¬ b<a∧(c<d∨c=d∧e<f)):a<b∨a=b∧(c<d∨c=d∧e<f):=Ar.arith [c,e,d,f] [a,b] 4 (.im (.o (.lt true (.z 0) (.z 1)) (.an (.no (.lt true (.z 1) (.z 0))) (.o (.l .a .c) (.an (.q .a .c) (.l .b .d))))) (.o (.lt true (.z 0) (.z 1)) (.an (.eq true (.z 0) (.z 1)) (.o (.l .a .c) (.an (.q .a .c) (.l .b .d)))))) (by kernel_rfl) z
theorem OC{a b c d:Nat}(z:a=0∨b=0)(y:c<a)(x:d<b):False:=Ar.ar [a,c,b,d] 4 (.im (.o (.q .a .y) (.q .c .y)) (.im (.l .b .a) (.im (.l .d .c) .ff))) (by kernel_rfl) z y x
theorem OB{a b:Nat}(z:a≤b)(y:b<a):a+1=a:=Ar.ar [a,b] 2 (.im (.w .a .b) (.im (.l .b .a) (.q (.ad .a .o) .a))) T1 z y
theorem OA{a b:Nat}(z:a≤b)(y:b<a):a+1=b+1:=Ar.ar [a,b] 2 (.im (.w .a .b) (.im (.l .b .a) (.q (.ad .a .o) (.ad .b .o)))) T1 z y
theorem N9{a b:Nat}(z:a<b)(y:b≤a+1):a+1=b:=Ar.ar [a,b] 2 (.im (.l .a .b) (.im (.w .b (.ad .a .o)) (.q (.ad .a .o) .b))) T1 z y
theorem N8{a b:Nat}(z:¬ a≤b+1)(y:¬ b<a):a+0=b+1:=Ar.ar [a,b] 2 (.im (.no (.w .a (.ad .b .o))) (.im (.no (.l .b .a)) (.q (.ad .a .y) (.ad .b .o)))) T1 z y
theorem N7{a b:Nat}(z:¬ a<b)(y:¬ b≤a):a+0=b:=Ar.ar [a,b] 2 (.im (.no (.l .a .b)) (.im (.no (.w .b .a)) (.q (.ad .a .y) .b))) T1 z y
theorem N6{a b:Nat}(z:¬ a<b)(y:¬ b≤a):a+0=a+1:=Ar.ar [a,b] 2 (.im (.no (.l .a .b)) (.im (.no (.w .b .a)) (.q (.ad .a .y) (.ad .a .o)))) T1 z y
theorem N5{a b c d e f g i j:Nat}(z:a+b+c=d+e)(y:f+g+i=1+j):a+f+(b+g)+(c+i)=d+1+(e+j):=Ar.ar [i,d,e,j,a,f,b,g,c] 9 (.im (.q (.ad (.ad .e .g) (.n 8)) (.ad .b .c)) (.im (.q (.ad (.ad .f .h) .a) (.ad .o .d)) (.q (.ad (.ad (.ad .e .f) (.ad .g .h)) (.ad (.n 8) .a)) (.ad (.ad .b .o) (.ad .c .d))))) (by kernel_rfl) z y
theorem N4{a b c:Nat}(z:a=b+c):(c:Int)=(a:Int) - (b:Int):=Ar.ar [c,a,b] 3 (.im (.q .b (.ad .c .a)) (.eq true (.up .a) (.sb (.up .b) (.up .c)))) T1 z
theorem N2{a b g i:Nat}{c d e f:Int}(z:a<b):c+d<e+f∨c+d=e+f∧(a<b∨a=b∧g<i)↔d≤e+f - c:=Ar.iff (Ar.arith [b,a,g,i] [c,d,e,f] 4 (.im (.l .b .a) (.an (.im (.o (.lt true (.ad (.z 0) (.z 1)) (.ad (.z 2) (.z 3))) (.an (.eq true (.ad (.z 0) (.z 1)) (.ad (.z 2) (.z 3))) (.o (.l .b .a) (.an (.q .b .a) (.l .c .d))))) (.le true (.z 1) (.sb (.ad (.z 2) (.z 3)) (.z 0)))) (.im (.le true (.z 1) (.sb (.ad (.z 2) (.z 3)) (.z 0))) (.o (.lt true (.ad (.z 0) (.z 1)) (.ad (.z 2) (.z 3))) (.an (.eq true (.ad (.z 0) (.z 1)) (.ad (.z 2) (.z 3))) (.o (.l .b .a) (.an (.q .b .a) (.l .c .d)))))))) (by kernel_rfl) z)
theorem N1{a b g i:Nat}{c d e f:Int}(z:a<b):c+d<e+f∨c+d=e+f∧(b<a∨b=a∧g<i)↔d<e+f - c:=Ar.iff (Ar.arith [b,a,g,i] [c,d,e,f] 4 (.im (.l .b .a) (.an (.im (.o (.lt true (.ad (.z 0) (.z 1)) (.ad (.z 2) (.z 3))) (.an (.eq true (.ad (.z 0) (.z 1)) (.ad (.z 2) (.z 3))) (.o (.l .a .b) (.an (.q .a .b) (.l .c .d))))) (.lt true (.z 1) (.sb (.ad (.z 2) (.z 3)) (.z 0)))) (.im (.lt true (.z 1) (.sb (.ad (.z 2) (.z 3)) (.z 0))) (.o (.lt true (.ad (.z 0) (.z 1)) (.ad (.z 2) (.z 3))) (.an (.eq true (.ad (.z 0) (.z 1)) (.ad (.z 2) (.z 3))) (.o (.l .a .b) (.an (.q .a .b) (.l .c .d)))))))) (by kernel_rfl) z)
theorem N0{c d:Nat}{a b e:Int}(z:a≤b)(y:c<d):e+a<e+b∨e+a=e+b∧c<d↔c<d:=Ar.iff (Ar.arith [d,c] [a,e,b] 3 (.im (.le true (.z 0) (.z 2)) (.im (.l .b .a) (.an (.im (.o (.lt true (.ad (.z 1) (.z 0)) (.ad (.z 1) (.z 2))) (.an (.eq true (.ad (.z 1) (.z 0)) (.ad (.z 1) (.z 2))) (.l .b .a))) (.l .b .a)) (.im (.l .b .a) (.o (.lt true (.ad (.z 1) (.z 0)) (.ad (.z 1) (.z 2))) (.an (.eq true (.ad (.z 1) (.z 0)) (.ad (.z 1) (.z 2))) (.l .b .a))))))) (by kernel_rfl) z y)
theorem Nz{c:Nat}{a b:Int}:a+b<a+b∨a+b=a+b∧c<c↔c<c:=Ar.iff (Ar.arith [c] [a,b] 2 (.an (.im (.o (.lt true (.ad (.z 0) (.z 1)) (.ad (.z 0) (.z 1))) (.an (.eq true (.ad (.z 0) (.z 1)) (.ad (.z 0) (.z 1))) (.l .a .a))) (.l .a .a)) (.im (.l .a .a) (.o (.lt true (.ad (.z 0) (.z 1)) (.ad (.z 0) (.z 1))) (.an (.eq true (.ad (.z 0) (.z 1)) (.ad (.z 0) (.z 1))) (.l .a .a))))) T1)
theorem Ny{c d:Nat}{a b e:Int}(z:a≤b)(y:c<d):e+b<e+a∨e+b=e+a∧d<c↔d<c:=Ar.iff (Ar.arith [d,c] [b,e,a] 3 (.im (.le true (.z 2) (.z 0)) (.im (.l .b .a) (.an (.im (.o (.lt true (.ad (.z 1) (.z 0)) (.ad (.z 1) (.z 2))) (.an (.eq true (.ad (.z 1) (.z 0)) (.ad (.z 1) (.z 2))) (.l .a .b))) (.l .a .b)) (.im (.l .a .b) (.o (.lt true (.ad (.z 1) (.z 0)) (.ad (.z 1) (.z 2))) (.an (.eq true (.ad (.z 1) (.z 0)) (.ad (.z 1) (.z 2))) (.l .a .b))))))) (by kernel_rfl) z y)
theorem Nx{a b g i:Nat}{c d e f:Int}(z:a<b):(-(c+d))<(-(e+f))∨(-(c+d))=(-(e+f))∧(a<b∨a=b∧g<i)↔¬ d<e+f - c:=Ar.iff (Ar.arith [b,a,g,i] [c,d,e,f] 4 (.im (.l .b .a) (.an (.im (.o (.lt true (.ng (.ad (.z 0) (.z 1))) (.ng (.ad (.z 2) (.z 3)))) (.an (.eq true (.ng (.ad (.z 0) (.z 1))) (.ng (.ad (.z 2) (.z 3)))) (.o (.l .b .a) (.an (.q .b .a) (.l .c .d))))) (.no (.lt true (.z 1) (.sb (.ad (.z 2) (.z 3)) (.z 0))))) (.im (.no (.lt true (.z 1) (.sb (.ad (.z 2) (.z 3)) (.z 0)))) (.o (.lt true (.ng (.ad (.z 0) (.z 1))) (.ng (.ad (.z 2) (.z 3)))) (.an (.eq true (.ng (.ad (.z 0) (.z 1))) (.ng (.ad (.z 2) (.z 3)))) (.o (.l .b .a) (.an (.q .b .a) (.l .c .d)))))))) (by kernel_rfl) z)
theorem Nw{a b g i:Nat}{c d e f:Int}(z:a<b):(-(c+d))<(-(e+f))∨(-(c+d))=(-(e+f))∧(b<a∨b=a∧g<i)↔¬ d≤e+f - c:=Ar.iff (Ar.arith [b,a,g,i] [c,d,e,f] 4 (.im (.l .b .a) (.an (.im (.o (.lt true (.ng (.ad (.z 0) (.z 1))) (.ng (.ad (.z 2) (.z 3)))) (.an (.eq true (.ng (.ad (.z 0) (.z 1))) (.ng (.ad (.z 2) (.z 3)))) (.o (.l .a .b) (.an (.q .a .b) (.l .c .d))))) (.no (.le true (.z 1) (.sb (.ad (.z 2) (.z 3)) (.z 0))))) (.im (.no (.le true (.z 1) (.sb (.ad (.z 2) (.z 3)) (.z 0)))) (.o (.lt true (.ng (.ad (.z 0) (.z 1))) (.ng (.ad (.z 2) (.z 3)))) (.an (.eq true (.ng (.ad (.z 0) (.z 1))) (.ng (.ad (.z 2) (.z 3)))) (.o (.l .a .b) (.an (.q .a .b) (.l .c .d)))))))) (by kernel_rfl) z)
theorem Nv{a b c d e:Nat}(z:a+b+c=d+e):(a:Int)=(d:Int) - (b:Int)+(e:Int) - (c:Int):=Ar.ar [a,d,b,e,c] 5 (.im (.q (.ad (.ad .a .c) .e) (.ad .b .d)) (.eq true (.up .a) (.sb (.ad (.sb (.up .b) (.up .c)) (.up .d)) (.up .e)))) T1 z
theorem Nu{c d:Nat}{a b e:Int}(z:a=b)(y:c<d):(-(e+a))<(-(e+b))∨(-(e+a))=(-(e+b))∧c<d:=Ar.arith [d,c] [a,e,b] 3 (.im (.eq true (.z 0) (.z 2)) (.im (.l .b .a) (.o (.lt true (.ng (.ad (.z 1) (.z 0))) (.ng (.ad (.z 1) (.z 2)))) (.an (.eq true (.ng (.ad (.z 1) (.z 0))) (.ng (.ad (.z 1) (.z 2)))) (.l .b .a))))) (by kernel_rfl) z y
theorem Nt{d e:Nat}{a b c:Int}(z:a≤b)(y:¬ a=b):¬ ((-(c+a))<(-(c+b))∨(-(c+a))=(-(c+b))∧d<e):=Ar.arith [e,d] [a,c,b] 3 (.im (.le true (.z 0) (.z 2)) (.im (.no (.eq true (.z 0) (.z 2))) (.no (.o (.lt true (.ng (.ad (.z 1) (.z 0))) (.ng (.ad (.z 1) (.z 2)))) (.an (.eq true (.ng (.ad (.z 1) (.z 0))) (.ng (.ad (.z 1) (.z 2)))) (.l .b .a)))))) (by kernel_rfl) z y
theorem Nr{a b:Int}(z:a≤b)(y:¬ a=b):a<b:=Ar.arith [] [a,b] 2 (.im (.le true (.z 0) (.z 1)) (.im (.no (.eq true (.z 0) (.z 1))) (.lt true (.z 0) (.z 1)))) T1 z y
theorem Nq{c:Nat}{a b:Int}:¬ ((-(a+b))<(-(a+b))∨(-(a+b))=(-(a+b))∧c<c):=Ar.arith [c] [a,b] 2 (.no (.o (.lt true (.ng (.ad (.z 0) (.z 1))) (.ng (.ad (.z 0) (.z 1)))) (.an (.eq true (.ng (.ad (.z 0) (.z 1))) (.ng (.ad (.z 0) (.z 1)))) (.l .a .a)))) T1
theorem Np{c d:Nat}{a b e:Int}(z:a=b)(y:c<d):¬ ((-(e+a))<(-(e+b))∨(-(e+a))=(-(e+b))∧d<c):=Ar.arith [d,c] [e,a,b] 3 (.im (.eq true (.z 1) (.z 2)) (.im (.l .b .a) (.no (.o (.lt true (.ng (.ad (.z 0) (.z 1))) (.ng (.ad (.z 0) (.z 2)))) (.an (.eq true (.ng (.ad (.z 0) (.z 1))) (.ng (.ad (.z 0) (.z 2)))) (.l .a .b)))))) T1 z y
theorem No{d e:Nat}{a b c:Int}(z:a≤b)(y:¬ b=a):(-(c+b))<(-(c+a))∨(-(c+b))=(-(c+a))∧d<e:=Ar.arith [d,e] [b,c,a] 3 (.im (.le true (.z 2) (.z 0)) (.im (.no (.eq true (.z 0) (.z 2))) (.o (.lt true (.ng (.ad (.z 1) (.z 0))) (.ng (.ad (.z 1) (.z 2)))) (.an (.eq true (.ng (.ad (.z 1) (.z 0))) (.ng (.ad (.z 1) (.z 2)))) (.l .a .b))))) (by kernel_rfl) z y
theorem Nn{a b:Int}(z:a≤b)(y:¬ b=a):¬ b≤a:=Ar.arith [] [b,a] 2 (.im (.le true (.z 1) (.z 0)) (.im (.no (.eq true (.z 0) (.z 1))) (.no (.le true (.z 0) (.z 1))))) T1 z y
theorem Nm{a b c:Nat}:((a+b:Nat):Int)+(c:Int)=(a:Int)+(c:Int)+(b:Int)+(0:Int):=Ar.ar [a,b,c] 3 (.eq true (.ad (.up (.ad .a .b)) (.up .c)) (.ad (.ad (.ad (.up .a) (.up .c)) (.up .b)) .y)) T1
theorem Nl{a b c d e f:Nat}:(a:Int)+((b:Int) - (c:Int))+((b:Int) - (d:Int)+(e:Int) - (f:Int))=(a:Int)+((b:Int) - (d:Int)+(e:Int) - (f:Int))+((b:Int) - (c:Int))+(0:Int):=Ar.ar [a,b,c,d,e,f] 6 (.eq true (.ad (.ad (.up .a) (.sb (.up .b) (.up .c))) (.sb (.ad (.sb (.up .b) (.up .d)) (.up .e)) (.up .f))) (.ad (.ad (.ad (.up .a) (.sb (.ad (.sb (.up .b) (.up .d)) (.up .e)) (.up .f))) (.sb (.up .b) (.up .c))) .y)) T1
theorem Nk{a b c d e:Nat}:(a:Int)+((b:Int) - (c:Int)+(d:Int) - (e:Int))+(0:Int)=(a:Int)+((b:Int) - (c:Int)+(d:Int) - (e:Int))+(0:Int)+(0:Int):=Ar.ar [a,b,c,d,e] 5 (.eq true (.ad (.ad (.up .a) (.sb (.ad (.sb (.up .b) (.up .c)) (.up .d)) (.up .e))) .y) (.ad (.ad (.ad (.up .a) (.sb (.ad (.sb (.up .b) (.up .c)) (.up .d)) (.up .e))) .y) .y)) T1
theorem Nj{a b c:Nat}(z:a=b)(y:b<c)(x:c≤63):a<16777216:=Ar.ar [a,c,b] 3 (.im (.q .a .c) (.im (.l .c .b) (.im (.w .b (.k 63)) (.l .a (.k 16777216))))) T1 z y x
theorem Ni{d:Nat}{a b c:Int}(z:a≤b):c+a<c+b∨c+a=c+b∧d<d+1:=Ar.arith [d] [c,a,b] 3 (.im (.le true (.z 1) (.z 2)) (.o (.lt true (.ad (.z 0) (.z 1)) (.ad (.z 0) (.z 2))) (.an (.eq true (.ad (.z 0) (.z 1)) (.ad (.z 0) (.z 2))) (.l .a (.ad .a .o))))) T1 z
theorem Nh{d:Nat}{a b c:Int}(z:a≤b):a+c<b+c∨a+c=b+c∧(d<d+1∨d=d+1∧False):=Ar.arith [d] [a,c,b] 3 (.im (.le true (.z 0) (.z 2)) (.o (.lt true (.ad (.z 0) (.z 1)) (.ad (.z 2) (.z 1))) (.an (.eq true (.ad (.z 0) (.z 1)) (.ad (.z 2) (.z 1))) (.o (.l .a (.ad .a .o)) (.an (.q .a (.ad .a .o)) .ff))))) T1 z
theorem Iv{a b:Nat}(z:a+9<b):a+1<b:=Ar.ar [a,b] 2 (.im (.l (.ad .a (.k 9)) .b) (.l (.ad .a .o) .b)) T1 z
theorem Ng{a b c d:Nat}(z:a+1+b≤c*d)(y:c*d≤63*63):b<16777216:=Ar.ar [b,a,c*d] 3 (.im (.w (.ad (.ad .b .o) .a) .c) (.im (.w .c (.ml 63 (.k 63))) (.l .a (.k 16777216)))) T1 z y
theorem KZ{a b:Nat}(z:¬ a+1<b):(b:Int)≤(a:Int)+(1:Int):=Ar.ar [b,a] 2 (.im (.no (.l (.ad .b .o) .a)) (.le true (.up .a) (.ad (.up .b) .o))) T1 z
theorem Nf{a b c d:Nat}(z:a+1+b≤c*d):c*d - (b+(0+1))<c*d - b:=Ar.ar [c*d,a,b] 3 (.im (.w (.ad (.ad .b .o) .c) .a) (.l (.sb .a (.ad .c (.ad .y .o))) (.sb .a .c))) (by kernel_rfl) z
theorem Nd{a b c d:Nat}(z:a+b≤c*d)(y:c*d≤63*63):a<16777216:=Ar.ar [a,b,c*d] 3 (.im (.w (.ad .a .b) .c) (.im (.w .c (.ml 63 (.k 63))) (.l .a (.k 16777216)))) T1 z y
theorem Nc{a:Nat}(z:a≤10000):(a:Int)<(2:Int) ^ 62:=Ar.ar [a] 1 (.im (.w .a (.k 10000)) (.lt true (.up .a) (.pw 2 62))) T1 z
theorem Nb{a:Nat}(z:a≤10000)(y:¬ (0:Int)<(a:Int)):(0:Int)=(a:Int):=Ar.ar [a] 1 (.im (.w .a (.k 10000)) (.im (.no (.lt true .y (.up .a))) (.eq true .y (.up .a)))) T1 z y
theorem Na{a:Nat}{b:Int}(z:b<(a:Int)):((a:Int) - b - (1:Int)) / (2:Int)+(1:Int)=((Int.toNat (((a:Int) - b - (1:Int)) / (2:Int)+(1:Int)):Nat):Int):=Ar.arith [Int.toNat (((a:Int) - b - (1:Int)) / (2:Int)+(1:Int)),a] [b,((a:Int) - b - (1:Int)) / (2:Int)] 2 (.im (.an (.le true (.ml 2 (.z 1)) (.sb (.sb (.up .b) (.z 0)) .o)) (.lt true (.sb (.sb (.up .b) (.z 0)) .o) (.ad (.ml 2 (.z 1)) (.k 2)))) (.im (.o (.an (.le true .y (.ad (.z 1) .o)) (.eq true (.up .a) (.ad (.z 1) .o))) (.an (.lt true (.ad (.z 1) .o) .y) (.q .a .y))) (.im (.lt true (.z 0) (.up .b)) (.eq true (.ad (.z 1) .o) (.up .a))))) (by kernel_rfl) (Ar.divZ ((a:Int) - b - (1:Int)) (2:Int) (by decide)) (Ar.toN (((a:Int) - b - (1:Int)) / (2:Int)+(1:Int))) z
theorem NZ{a b:Nat}{c:Int}(z:a<Int.toNat (((b:Int) - c - (1:Int)) / (2:Int)+(1:Int))):c+(a:Int)*(2:Int)<(b:Int):=Ar.arith [Int.toNat (((b:Int) - c - (1:Int)) / (2:Int)+(1:Int)),a,b] [(a:Int)*(2:Int),c,((b:Int) - c - (1:Int)) / (2:Int)] 3 (.im (.eq true (.z 0) (.ml 2 (.up .b))) (.im (.an (.le true (.ml 2 (.z 2)) (.sb (.sb (.up .c) (.z 1)) .o)) (.lt true (.sb (.sb (.up .c) (.z 1)) .o) (.ad (.ml 2 (.z 2)) (.k 2)))) (.im (.o (.an (.le true .y (.ad (.z 2) .o)) (.eq true (.up .a) (.ad (.z 2) .o))) (.an (.lt true (.ad (.z 2) .o) .y) (.q .a .y))) (.im (.l .b .a) (.lt true (.ad (.z 1) (.z 0)) (.up .c)))))) (by kernel_rfl) (Int.mul_comm (a:Int) (2:Int)) (Ar.divZ ((b:Int) - c - (1:Int)) (2:Int) (by decide)) (Ar.toN (((b:Int) - c - (1:Int)) / (2:Int)+(1:Int))) z
theorem NY{a:Nat}{b:Int}(z:(0:Int)≤b)(y:a≤63)(x:b<(a:Int))(w:b≤(3:Int)):Int.toNat (((a:Int) - b - (1:Int)) / (2:Int)+(1:Int))≤a:=Ar.arith [Int.toNat (((a:Int) - b - (1:Int)) / (2:Int)+(1:Int)),a] [((a:Int) - b - (1:Int)) / (2:Int),b] 2 (.im (.an (.le true (.ml 2 (.z 0)) (.sb (.sb (.up .b) (.z 1)) .o)) (.lt true (.sb (.sb (.up .b) (.z 1)) .o) (.ad (.ml 2 (.z 0)) (.k 2)))) (.im (.o (.an (.le true .y (.ad (.z 0) .o)) (.eq true (.up .a) (.ad (.z 0) .o))) (.an (.lt true (.ad (.z 0) .o) .y) (.q .a .y))) (.im (.le true .y (.z 1)) (.im (.w .b (.k 63)) (.im (.lt true (.z 1) (.up .b)) (.im (.le true (.z 1) (.k 3)) (.w .a .b))))))) (by kernel_rfl) (Ar.divZ ((a:Int) - b - (1:Int)) (2:Int) (by decide)) (Ar.toN (((a:Int) - b - (1:Int)) / (2:Int)+(1:Int))) z y x w
theorem NX{a b:Nat}(z:a≤b)(y:b≤63):(a:Int)≤(1000:Int):=Ar.ar [a,b] 2 (.im (.w .a .b) (.im (.w .b (.k 63)) (.le true (.up .a) (.k 1000)))) T1 z y
theorem NW{a:Nat}(z:a≤63):(a:Int)+((2:Int) - (1:Int))≤(1000:Int):=Ar.ar [a] 1 (.im (.w .a (.k 63)) (.le true (.ad (.up .a) (.sb (.k 2) .o)) (.k 1000))) T1 z
theorem NV{b:Nat}{a:Int}(z:(0:Int)≤a):a+(b:Int)*(2:Int)=((Int.toNat a+b*2:Nat):Int):=Ar.arith [Int.toNat a,b*2,b] [a,(b:Int)*(2:Int)] 3 (.im (.eq true (.z 1) (.ml 2 (.up .c))) (.im (.o (.an (.le true .y (.z 0)) (.eq true (.up .a) (.z 0))) (.an (.lt true (.z 0) .y) (.q .a .y))) (.im (.q .b (.ml 2 .c)) (.im (.le true .y (.z 0)) (.eq true (.ad (.z 0) (.z 1)) (.up (.ad .a .b))))))) (by kernel_rfl) (Int.mul_comm (b:Int) (2:Int)) (Ar.toN a) (Nat.mul_comm b 2) z
theorem NU{b c:Nat}{a:Int}(z:(0:Int)≤a)(y:a+(b:Int)*(2:Int)<(c:Int)):Int.toNat a+b*2<c:=Ar.arith [Int.toNat a,c,b*2,b] [a,(b:Int)*(2:Int)] 4 (.im (.o (.an (.le true .y (.z 0)) (.eq true (.up .a) (.z 0))) (.an (.lt true (.z 0) .y) (.q .a .y))) (.im (.q .c (.ml 2 .d)) (.im (.eq true (.z 1) (.ml 2 (.up .d))) (.im (.le true .y (.z 0)) (.im (.lt true (.ad (.z 0) (.z 1)) (.up .b)) (.l (.ad .a .c) .b)))))) (by kernel_rfl) (Ar.toN a) (Nat.mul_comm b 2) (Int.mul_comm (b:Int) (2:Int)) z y
theorem NT{a b c d:Nat}:(a:Int)=(b:Int)∧(c:Int)=(d:Int)↔a=b∧c=d:=Ar.iff (Ar.ar [a,c,b,d] 4 (.an (.im (.an (.eq true (.up .a) (.up .c)) (.eq true (.up .b) (.up .d))) (.an (.q .a .c) (.q .b .d))) (.im (.an (.q .a .c) (.q .b .d)) (.an (.eq true (.up .a) (.up .c)) (.eq true (.up .b) (.up .d))))) (by kernel_rfl))
theorem NS{a b:Int}:a<b↔(-b)<(-a):=Ar.iff (Ar.arith [] [a,b] 2 (.an (.im (.lt true (.z 0) (.z 1)) (.lt true (.ng (.z 1)) (.ng (.z 0)))) (.im (.lt true (.ng (.z 1)) (.ng (.z 0))) (.lt true (.z 0) (.z 1)))) T1)
theorem NR{a:Nat}(z:¬ 1<a):(a:Int)≤(1:Int):=Ar.ar [a] 1 (.im (.no (.l .o .a)) (.le true (.up .a) .o)) T1 z
theorem NQ{a:Nat}:(a:Int)+(3:Int)≠(0:Int):=Ar.ar [a] 1 (.no (.eq true (.ad (.up .a) (.k 3)) .y)) T1
theorem NP{b:Nat}{a:Int}:max (0:Int) (min a (b:Int))=((min (Int.toNat a) b:Nat):Int):=Ar.arith [b,Int.toNat a] [a] 2 (.im (.o (.an (.le true .y (.z 0)) (.eq true (.up .b) (.z 0))) (.an (.lt true (.z 0) .y) (.q .b .y))) (.eq true (.mx .y (.mn (.z 0) (.up .a))) (.up (.mn .b .a)))) (by kernel_rfl) (Ar.toN a)
theorem NO{b:Nat}{a:Int}:min (Int.toNat a) b=min (min (Int.toNat a) b) b:=Ar.arith [b,Int.toNat a] [a] 2 (.im (.o (.an (.le true .y (.z 0)) (.eq true (.up .b) (.z 0))) (.an (.lt true (.z 0) .y) (.q .b .y))) (.q (.mn .b .a) (.mn (.mn .b .a) .a))) (by kernel_rfl) (Ar.toN a)
theorem Gz{a b:Nat}(z:a=b)(y:b≤3969):a<100000:=Ar.ar [a,b] 2 (.im (.q .a .b) (.im (.w .b (.k 3969)) (.l .a (.k 100000)))) T1 z y
theorem KY{a b c:Nat}(z:a=b)(y:b≤3969):min c a≤16777216:=Ar.ar [b,a,c] 3 (.im (.q .b .a) (.im (.w .a (.k 3969)) (.w (.mn .c .b) (.k 16777216)))) (by kernel_rfl) z y
theorem KW{a b c:Nat}(z:a≤3969)(y:b=a):min c b≤16777216:=Ar.ar [a,b,c] 3 (.im (.w .a (.k 3969)) (.im (.q .b .a) (.w (.mn .c .b) (.k 16777216)))) (by kernel_rfl) z y
theorem AJ{T:Prop}(f:∀ W:Prop,(T→W)→W):T:=f T id


set_option genInjectivity true in
inductive PV where
 | none
 | bool (b:Bool)
 | int (i:Int)
 | str (s:Str)
 | tup (xs:List PV)
 | ref (a:Addr)
 | rng (a b c:Int)
 | val (v:Value)
 | fnc (o:Obj)
 | obj (a:Addr)


class Zz where
 z:Addr→Prop
variable [zz:Zz]
mutual
noncomputable def VR(h:Heap):PV→Value→Prop
 | .none,v=>v=.none
 | .bool b,v=>v=.bool b
 | .int i,v=>∃ t,v=.int i t
 | .str x,v=>∃ t,v=.str x t
 | .tup xs,v=>∃ a vs n,v=.ref a∧IsT h a (List.toArray vs) n∧VRs h xs vs∧¬ Zz.z a
 | .ref a,v=>v=.ref a
 | .rng a b c,v=>∃ r t u w,v=.ref r∧IsRange h r a b c t u w
 | .val u,v=>v=u
 | .obj a,v=>v=.ref a∧∃ o,h.get? a=some o∧o.cls=.type "object" ∧ o.data=.plain
 | .fnc o,v=>∃ a fd c oc vs t,v=.ref a∧h.get? a=some o∧o.cls=.type "function" ∧ o.data=.func fd∧fd.code=.ref c∧h.get? c=some oc∧oc.data=.fields vs∧vs[1]?=some (.str fd.qualname t)
noncomputable def VRs(h:Heap):List PV→List Value→Prop
 | [],vs=>vs=[]
 | x::xs,vs=>∃ v r,vs=v::r∧VR h x v∧VRs h xs r
end


inductive HO where
 | lst (xs:List PV)
 | fro (xs:List PV)
noncomputable abbrev AH:=Addr→Option HO
noncomputable def AH.set(H:AH)(a:Addr)(o:HO):AH:=fun b=>if b=a then some o else H b
noncomputable def Ct(H:AH)(b:Addr):Prop:=∃ xs,H b=some (.lst xs)
noncomputable def HO.isL:HO→Bool
 | .lst _=>true
 | .fro _=>false
noncomputable def HO.items:HO→List PV
 | .lst xs=>xs
 | .fro xs=>xs


noncomputable def Mt(o:Obj):Prop:=∃ vs q t,o.data=.fields vs∧vs[1]?=some (Value.str q t)
noncomputable def FK(o:Obj):Prop:=((o.cls=.type "tuple" ∨ o.cls=.type "range" ∨ o.cls=.type "function" ∨ o.cls=.type "object")∧(∀ es n,o.data≠.dict es n)∧∀ v,o.data≠.cell v)∨Mt o
noncomputable def Bp(o:Obj):Prop:=o.cls=.type "list" ∧ ∃ vs n,o.data=.seq vs n
omit [Zz] in
theorem Jw(vs:Array Value)(n:Nat):FK { cls:=.type "tuple", data:=.seq vs n }:=.inl ⟨.inl rfl,by simp,by simp⟩
omit [Zz] in
theorem Jx(fs:Array Value):FK { cls:=.type "range", data:=.fields fs }:=.inl ⟨.inr (.inl rfl),by simp,by simp⟩
omit [Zz] in
theorem LW{o:Obj}{fd:FuncData}(hc:o.cls=.type "function")(hd:o.data=.func fd):FK o:=.inl ⟨.inr (.inr (.inl hc)),by rw[hd];simp,by rw[hd];simp⟩
omit [Zz] in
theorem Mi{o:Obj}(hc:o.cls=.type "object")(hd:o.data=.plain):FK o:=.inl ⟨.inr (.inr (.inr hc)),by rw[hd];simp,by rw[hd];simp⟩
omit [Zz] in
theorem Ab(vs:Array Value)(n:Nat):Bp { cls:=.type "list", data:=.seq vs n }:=⟨rfl,_,_,rfl⟩

inductive LOk (h:Heap) (a:Addr) (xs:List PV):Prop where
 | mk (vs:List Value) (n:Nat) (hl:IsL h a (List.toArray vs) n) (hv:VRs h xs vs) (hz:xs.length≤sizeLine):LOk h a xs
noncomputable def SZ(base h:Heap)(a:Addr)(o:HO):Prop:=LOk h a o.items∧∀ xs,o=.lst xs→base.get? a=none


noncomputable def DC(o:Obj):Prop:=(∃ es n,o.data=.dict es n)∨∃ v,o.data=.cell v
omit [Zz] in
theorem DC.not_solid{o:Obj}(h:DC o):¬ (FK o∨Bp o):=by
 rintro((⟨_,h1,h2⟩ | ⟨vs,q,t,h1,_⟩) | ⟨_,vs,n,h1⟩)<;>rcases h with ⟨es,k,h⟩ | ⟨v,h⟩
 ·exact h1 _ _ h
 ·exact h2 _ h
 all_goals (rw[h1]at h;injection h)

noncomputable def Tab(o:Obj):Prop:=∃ ps:Array Value,o={ cls:=.none,data:=.fields ps }∧TriplesOk ps.toList
noncomputable def Soft(o:Obj):Prop:=DC o∨Tab o
noncomputable def Tup(o:Obj):Prop:=o.cls=.type "tuple" ∧ ∃ vs n,o.data=.seq vs n
noncomputable def Low(o:Obj):Prop:=Tab o∨Mt o∨Tup o
omit [Zz] in
theorem IL{o:Obj}(h:Mt o):FK o:=.inr h
omit [Zz] in
theorem Low.not_dc{o:Obj}(h:Low o):¬ DC o:=by
 rintro(⟨es,n,hd⟩ | ⟨v,hd⟩)<;>rcases h with ⟨ps,rfl,_⟩ | ⟨vs,_,_,h,_⟩ | ⟨_,vs,n,h⟩
 ·injection hd
 ·rw[h]at hd;injection hd
 ·rw[h]at hd;injection hd
 ·injection hd
 ·rw[h]at hd;injection hd
 ·rw[h]at hd;injection hd
omit [Zz] in
theorem Low.not_lst{o:Obj}(h:Low o):¬ Bp o:=by
 rintro⟨hc,vs,n,hd⟩
 rcases h with ⟨ps,rfl,_⟩ | ⟨vs,_,_,h,_⟩ | ⟨h,_⟩
 ·injection hd
 ·rw[hd]at h;injection h
 ·rw[hc]at h;simp at h
omit [Zz] in
theorem Hd{l:List Value}(h:TriplesOk l)(q:Str)(t:Tok):l[1]?≠some (.str q t):=by
 unfold TriplesOk at h
 split at h
 ·simp
 ·simp
 ·exact h.elim
theorem Soft.not_solid{o:Obj}(h:Soft o):¬ (FK o∨Bp o):=by
 rcases h with h | ⟨ps,rfl,ht⟩
 ·exact h.not_solid
 ·rintro((⟨h | h | h | h,_⟩ | ⟨vs,q,t,h,h1⟩) | ⟨h,_⟩)
  any_goals cases h
  exact Hd ht q t (by rw[Array.getElem?_toList];exact h1)
omit [Zz] in
theorem A5{o:Obj}(h:FK o):¬ Bp o:=by
 rintro⟨hc,vs,n,hd⟩
 rcases h with ⟨h | h | h | h,_⟩ | ⟨vs',q,t,h,_⟩
 ·rw[hc]at h;simp at h
 ·rw[hc]at h;simp at h
 ·rw[hc]at h;simp at h
 ·rw[hc]at h;simp at h
 ·rw[hd]at h;injection h
theorem BJ{o:Obj}(h:FK o):¬ Soft o:=fun hd=>hd.not_solid (.inl h)

noncomputable def Near(h:Heap)(b:Addr)(o:Obj):Prop:=∃ o',h.get? b=some o'∧(o'=o∨(DC o∧o'.data=o.data)∨(Tab o∧Tab o'))
omit [Zz] in
theorem DC.of{o o':Obj}(h:DC o)(e:o'.data=o.data):DC o':=by unfold DC;rw[e];exact h
theorem Tab.not_dc{o:Obj}(h:Tab o):¬ DC o:=Low.not_dc (.inl h)
omit [Zz] in
theorem Near.of{h:Heap}{b:Addr}{o:Obj}(e:h.get? b=some o):Near h b o:=⟨o,e,.inl rfl⟩
omit [Zz] in
theorem Near.hard{h:Heap}{b:Addr}{o:Obj}(n:Near h b o)(hd:¬ Soft o):h.get? b=some o:=by
 obtain⟨o',e,rfl | ⟨h,_⟩ | ⟨h,_⟩⟩:=n
 ·exact e
 ·exact absurd (.inl h) hd
 ·exact absurd (.inr h) hd
theorem Near.data{h:Heap}{b:Addr}{o:Obj}(n:Near h b o)(hd:DC o):∃ o',h.get? b=some o'∧o'.data=o.data:=by
 obtain⟨o',e,rfl | ⟨_,h⟩ | ⟨h,_⟩⟩:=n
 ·exact⟨_,e,rfl⟩
 ·exact⟨_,e,h⟩
 ·exact absurd hd h.not_dc
theorem Near.step{h h':Heap}{b:Addr}{o:Obj}(n:Near h b o)(k:∀ o',h.get? b=some o'→Near h' b o'):Near h' b o:=by
 obtain⟨o',e,q⟩:=n
 obtain⟨o'',e',q'⟩:=k o' e
 refine⟨o'',e',?_⟩
 rcases q with rfl | ⟨hd,hq⟩ | ⟨ht,hq⟩
 ·exact q'
 ·rcases q' with rfl | ⟨_,hq'⟩ | ⟨ht',_⟩
  ·exact .inr (.inl ⟨hd,hq⟩)
  ·exact .inr (.inl ⟨hd,hq'.trans hq⟩)
  ·exact absurd (hd.of hq) ht'.not_dc
 ·rcases q' with rfl | ⟨hd',_⟩ | ⟨_,ht'⟩
  ·exact .inr (.inr ⟨ht,hq⟩)
  ·exact absurd hd' hq.not_dc
  ·exact .inr (.inr ⟨ht,ht'⟩)
omit [Zz] in
theorem Near.ne{h:Heap}{b:Addr}{o:Obj}(n:Near h b o)(e:h.get? b=none):False:=by
 obtain⟨o',e',_⟩:=n;rw[e]at e';injection e'

structure Cx where
 prog:Program
 w:World
 K:Frag
 base:Heap
 kin:K.In base
 mg:Str→Option Value
 mb:Str→Option Value
 g:base.Ns mainGlobals mg
 b:base.Ns builtinsNs mb
 nolimit:base.NoLimit
 builtins:∀ x:Str,x ≠ "__name__" → mb x=bootBuiltins x
 
 D:Addr→Obj→Prop
 dD:∀ b o,D b o→base.get? b=none∧DC o
 
 T:Addr→Prop
 tq:Addr→Nat→Nat→Str
 dT:∀ P,T P→base.get? P=none

omit [Zz] in
set_option tactic.hygienic true in
theorem Cx.mg_of(G:Cx){x:Str}{r:Option Value}(e:nsIn G.K mainGlobals x=some r):G.mg x=r:=by
 obtain⟨o,es,ep,ho,hd,hk,hm⟩:=G.g
 unfold nsIn at e
 split at e
 ·rename_i c d es' n sl hl
  have h2:=G.kin _ _ hl
  rw[ho]at h2;(replace h2:=Option.some.inj h2;subst h2)
  cases hd
  rw[← hm x]
  unfold nsFind findBy
  split at e
  ·rename_i en he;(replace e:=Option.some.inj e;subst e)
   rw[← Array.find?_toList];rw[he];rfl
  ·rename_i he
   split at e
   ·injection e
   ·(replace e:=Option.some.inj e;subst e);rw[← Array.find?_toList,he];rfl
 ·injection e

noncomputable def HR(G:Cx)(H:AH)(h:Heap):Prop:=∀ a o,H a=some o→SZ G.base h a o

noncomputable def DOk(G:Cx)(h:Heap):Prop:=∀ b o,G.D b o→∃ o',h.get? b=some o'∧o'.data=o.data
omit [Zz] in
theorem DOk.all{G:Cx}{h h':Heap}(x:DOk G h)(k:∀ b o,h.get? b=some o→h'.get? b=some o):DOk G h':=fun b o e=>by
 obtain⟨o',h1,h2⟩:=x b o e;exact⟨o',k _ _ h1,h2⟩
theorem DOk.dc{G:Cx}{h h':Heap}(x:DOk G h)(k:∀ b o,DC o→(∃ o',G.D b o')→h.get? b=some o→h'.get? b=some o):DOk G h':=fun b o e=>by
 obtain⟨o',h1,h2⟩:=x b o e;exact⟨o',k _ _ ((G.dD b o e).2.of h2) ⟨o,e⟩ h1,h2⟩
noncomputable def SU(h:Heap):Prop:=∀ b,Zz.z b→∃ o,h.get? b=some o∧Tup o
noncomputable def TOk(G:Cx)(h:Heap):Prop:=SU h∧∀ P,G.T P→∃ ps:Array Value,h.get? P=some { cls:=.none,data:=.fields ps }∧TriplesOk ps.toList∧∀ pos cv,codeAmong pos ps.toList=some cv →
 ∃ c o vs t,cv=.ref c∧h.get? c=some o∧o.data=.fields vs∧vs[1]?=some (.str (G.tq P pos.line pos.col) t)
theorem TOk.keep{G:Cx}{h h':Heap}(x:TOk G h)(k:∀ b o,Low o→h.get? b=some o→h'.get? b=some o):TOk G h':=by
 refine⟨fun b hb=>?_,fun P hP=>?_⟩
 ·obtain⟨o,h1,h2⟩:=x.1 b hb;exact⟨o,k _ _ (.inr (.inr h2)) h1,h2⟩
 refine AJ fun WW9 hW9=>?_
 obtain⟨ps,h1,h2,h3⟩:=x.2 P hP
 refine hW9 ?_
 clear hW9 WW9
 refine⟨ps,k _ _ (.inl ⟨_,rfl,h2⟩) h1,h2,fun pos cv e=>?_⟩
 refine AJ fun WW9 hW9=>?_
 obtain⟨c,o,vs,t,g1,g2,g4,g5⟩:=h3 pos cv e
 refine hW9 ?_
 clear hW9 WW9
 exact⟨c,o,vs,t,g1,k _ _ (.inr (.inl ⟨vs,_,_,g4,g5⟩)) g2,g4,g5⟩
structure OkH (G:Cx) (H:AH) (s:Shared):Prop where
 keep:∀ b o,G.base.get? b=some o→s.heap.get? b=some o
 hr:HR G H s.heap
 gens:s.gens=#[]
 dat:DOk G s.heap
 tab:TOk G s.heap


noncomputable def DomLe(H:AH)(h:Heap)(H':AH):Prop:=∀ b o,H' b=some o→h.get? b=none∨∃ o',H b=some o'∧(o.isL=true→o'.isL=true)
omit [Zz] in
theorem DomLe.refl(H:AH)(h:Heap):DomLe H h H:=fun O o e=>.inr ⟨o,e,id⟩
omit [Zz] in
theorem DomLe.mut{H H':AH}{h:Heap}(x:DomLe H h H'){b:Addr}(hm:Ct H' b):Ct H b∨h.get? b=none:=by
 obtain⟨xs,hx⟩:=hm
 rcases x b _ hx with h | ⟨o',h1,h2⟩
 ·exact .inr h
 ·cases o' with
  | lst ys=>exact .inl ⟨ys,h1⟩
  | fro ys=>exact absurd (h2 rfl) (by simp[HO.isL])
omit [Zz] in
theorem DomLe.none{H H':AH}{h:Heap}(x:DomLe H h H'){b:Addr}{o:Obj}(hb:H b=.none)(ho:h.get? b=some o):H' b=.none:=by
 cases e:H' b with
 | none=>rfl
 | some o' =>
  rcases x b _ e with h | ⟨o'',h1,_⟩
  ·rw[h]at ho;injection ho
  ·rw[hb]at h1;injection h1
omit [Zz] in
theorem DomLe.trans{H H' H'':AH}{h h':Heap}(x:DomLe H h H')(y:DomLe H' h' H'')(hn:∀ b,H b=.none→h'.get? b=.none→h.get? b=.none)(hm:∀ b o,H b=some (.fro o)→h'.get? b=.none→h.get? b=.none):DomLe H h H'':=by
 intro b o e
 rcases y b o e with h1 | ⟨o',h1,h2⟩
 ·cases hb:H b with
  | none=>exact .inl (hn b hb h1)
  | some o' =>
   cases o' with
   | lst ys=>exact .inr ⟨_,rfl,fun O=>rfl⟩
   | fro ys=>exact .inl (hm b ys hb h1)
 ·rcases x b o' h1 with h3 | ⟨o'',h3,h4⟩
  ·exact .inl h3
  ·exact .inr ⟨o'',h3,fun h=>h4 (h2 h)⟩

structure Kp (H:AH) (s:Shared) (H':AH) (s':Shared):Prop where
 os:s'.os=s.os
 kept:∀ b o,s.heap.get? b=some o→¬ Ct H b→Near s'.heap b o
 dom:DomLe H s.heap H'

theorem Kp.refl(H:AH)(s:Shared):Kp H s H s:=⟨rfl,fun O O e O=>.of e,DomLe.refl _ _⟩
omit [Zz] in
theorem Ah{H:AH}{b:Addr}(h:H b=.none):¬ Ct H b:=fun zz0=>by obtain⟨xs,hx⟩:=zz0;rw[h]at hx;injection hx
omit [Zz] in
theorem AS{H:AH}{b:Addr}{ys}(h:H b=some (.fro ys)):¬ Ct H b:=fun zz0=>by obtain⟨xs,hx⟩:=zz0;rw[h]at hx;cases hx
theorem Kp.back{H H':AH}{s s':Shared}(x:Kp H s H' s'){b:Addr}(hm:¬ Ct H b)(h:s'.heap.get? b=.none):s.heap.get? b=.none:=by
 cases e:s.heap.get? b with
 | none=>rfl
 | some o=>exact((x.kept b o e hm).ne h).elim
theorem Kp.trans{H H' H'':AH}{s s' s'':Shared}(x:Kp H s H' s')(y:Kp H' s' H'' s''):Kp H s H'' s'':=by
 refine⟨y.os.trans x.os,fun b o e hm=>?_,x.dom.trans y.dom (fun b hb h=>x.back (Ah hb) h) fun b o hb h=>x.back (AS hb) h⟩
 refine(x.kept b o e hm).step fun o' e'=>y.kept b o' e' fun hm'=>?_
 rcases x.dom.mut hm' with h | h
 ·exact hm h
 ·rw[h]at e;injection e

theorem Aw{G:Cx}{H:AH}{h:Heap}(hr:HR G H h){b:Addr}{o:Obj}(e:h.get? b=some o)(hc:¬ Bp o):¬ Ct H b:=by
 rintro⟨xs,hx⟩
 obtain⟨⟨vs,n,hl,_⟩,_⟩:=hr b _ hx
 rw[hl]at e;(replace e:=Option.some.inj e;subst e);exact hc (Ab _ _)

noncomputable def DS(b:Addr)(o:Obj):Prop:=FK o∧(¬ Zz.z b∨¬ Tup o)
theorem LU{b:Addr}{o:Obj}(h:FK o)(h':¬ Tup o):DS b o:=⟨h,.inr h'⟩
mutual
theorem VR.monoZ{h h':Heap}(k:∀ b o,DS b o→h.get? b=some o→h'.get? b=some o):∀(p:PV) (v:Value),VR h p v→VR h' p v
 | .none,_,e=>e
 | .bool _,_,e=>e
 | .int _,_,e=>e
 | .str _,_,e=>e
 | .ref _,_,e=>e
 | .val _,_,e=>e
 | .obj _,_,zp2=>by obtain⟨e,o,ho,hc,hd⟩:=zp2;exact⟨e,o,k _ _ (LU (Mi hc hd) (by rintro⟨_,vs,n,h⟩;rw[hd]at h;injection h)) ho,hc,hd⟩
 | .fnc _,_,zp2=>by obtain⟨a,fd,c,oc,vs,t,e,ha,hc,hd,h1,h2,h4,h5⟩:=zp2;exact⟨a,fd,c,oc,vs,t,e,k _ _ (LU (LW hc hd) (by rintro⟨h,_⟩;rw[hc]at h;simp at h)) ha,hc,hd,h1,k _ _ (LU (IL ⟨vs,_,_,h4,h5⟩) (by rintro⟨_,vs',n,h⟩;rw[h4]at h;injection h)) h2,h4,h5⟩
 | .rng _ _ _,_,zp2=>by obtain⟨r,t,u,w,e,hr⟩:=zp2;exact⟨r,t,u,w,e,k _ _ (LU (Jx _) (by rintro⟨h,_⟩;simp at h)) hr⟩
 | .tup xs,v,zp2=>by obtain⟨a,vs,n,e,ht,hs,hz⟩:=zp2;exact⟨a,vs,n,e,k _ _ ⟨Jw _ _,.inl hz⟩ ht,VRs.monoZ k xs vs hs,hz⟩
theorem VRs.monoZ{h h':Heap}(k:∀ b o,DS b o→h.get? b=some o→h'.get? b=some o):∀(ps:List PV) (vs:List Value),VRs h ps vs→VRs h' ps vs
 | [],_,e=>e
 | p::ps,vs,zp2=>by obtain⟨v,r,e,h1,h2⟩:=zp2;exact⟨v,r,e,VR.monoZ k p v h1,VRs.monoZ k ps r h2⟩
end
theorem VR.mono{h h':Heap}(k:∀ b o,FK o→h.get? b=some o→h'.get? b=some o)(p:PV)(v:Value):VR h p v→VR h' p v:=VR.monoZ (fun b o hf=>k b o hf.1) p v
theorem VRs.mono{h h':Heap}(k:∀ b o,FK o→h.get? b=some o→h'.get? b=some o)(ps:List PV)(vs:List Value):VRs h ps vs→VRs h' ps vs:=VRs.monoZ (fun b o hf=>k b o hf.1) ps vs

theorem Kp.tup{G:Cx}{H H':AH}{s s':Shared}(x:Kp H s H' s')(hr:HR G H s.heap):∀ b o,FK o→s.heap.get? b=some o→s'.heap.get? b=some o :=
 fun b o hf e=>(x.kept b _ e (Aw hr e (A5 hf))).hard (BJ hf)
theorem Kp.vr{G:Cx}{H H':AH}{s s':Shared}(x:Kp H s H' s')(ok:OkH G H s){p:PV}{v:Value}(h:VR s.heap p v):VR s'.heap p v:=VR.mono (x.tup ok.hr) p v h
theorem Kp.vrs{G:Cx}{H H':AH}{s s':Shared}(x:Kp H s H' s')(ok:OkH G H s){p:List PV}{v:List Value}(h:VRs s.heap p v):VRs s'.heap p v:=VRs.mono (x.tup ok.hr) p v h

theorem VRs.length{h:Heap}:∀{ps:List PV} {vs:List Value},VRs h ps vs→vs.length=ps.length
 | [],vs,e=>by rw[show vs=[]from e];rfl
 | p::ps,vs,zp2=>by obtain⟨v,r,e,_,h2⟩:=zp2;simp only[e,List.length_cons,List.length_cons,VRs.length h2]
theorem VRs.get{h:Heap}:∀{ps:List PV} {vs:List Value} {i:Nat} {p:PV},VRs h ps vs→ps[i]?=some p→∃ v,vs[i]?=some v∧VR h p v
 | [],_,i,p,_,e=>by simp at e
 | q::ps,vs,0,p,zp4,hp=>by
  obtain⟨v,r,e,h1,h2⟩:=zp4
  simp at hp;subst hp;subst e;exact⟨v,by simp,h1⟩
 | q::ps,vs,i+1,p,zp4,hp=>by
  obtain⟨v,r,e,h1,h2⟩:=zp4
  simp at hp;subst e
  obtain⟨u,hu,hv⟩:=VRs.get h2 hp
  exact⟨u,by simpa using hu,hv⟩
theorem VRs.imp{h h':Heap}(k:∀ p v,VR h p v→VR h' p v):∀{ps:List PV} {vs:List Value},VRs h ps vs→VRs h' ps vs
 | [],_,e=>e
 | _::_,_,zp2=>by obtain⟨v,r,e,h1,h2⟩:=zp2;exact⟨v,r,e,k _ _ h1,VRs.imp k h2⟩
theorem VRs.append{h:Heap}:∀{ps qs:List PV} {vs us:List Value},VRs h ps vs→VRs h qs us→VRs h (ps++qs) (vs++us)
 | [],qs,vs,us,e,h2=>by rw[show vs=[]from e];exact h2
 | p::ps,qs,vs,us,zp4,h3=>by obtain⟨v,r,e,h1,h2⟩:=zp4;rw[e];exact⟨v,r++us,rfl,h1,VRs.append h2 h3⟩
theorem VRs.one{h:Heap}{p:PV}{v:Value}(x:VR h p v):VRs h [p] [v]:=⟨v,[],rfl,x,rfl⟩
theorem VRs.two{h:Heap}{p q:PV}{v u:Value}(x:VR h p v)(y:VR h q u):VRs h [p,q] [v,u]:=⟨v,[u],rfl,x,VRs.one y⟩
theorem VRs.two_inv{h:Heap}{p q:PV}{vs:List Value}(x:VRs h [p,q] vs):∃ v u,vs=[v,u]∧VR h p v∧VR h q u:=by
 obtain⟨v,r,rfl,h1,u,r',rfl,h2,rfl⟩:=x;exact⟨v,u,rfl,h1,h2⟩
theorem VRs.one_inv{h:Heap}{p:PV}{vs:List Value}(x:VRs h [p] vs):∃ v,vs=[v]∧VR h p v:=by
 obtain⟨v,r,rfl,h1,rfl⟩:=x;exact⟨v,rfl,h1⟩
theorem VRs.three_inv{h:Heap}{p q r:PV}{vs:List Value}(x:VRs h [p,q,r] vs):∃ v u t,vs=[v,u,t]∧VR h p v∧VR h q u∧VR h r t:=by
 obtain⟨v,_,rfl,h1,u,_,rfl,h2,t,_,rfl,h3,rfl⟩:=x;exact⟨v,u,t,rfl,h1,h2,h3⟩
theorem VRs.set{h:Heap}:∀{ps:List PV} {vs:List Value} {i:Nat} {p:PV} {v:Value},VRs h ps vs→VR h p v→VRs h (ps.set i p) (vs.set i v)
 | [],vs,i,p,v,e,_=>by rw[show vs=[]from e];simp;rfl
 | q::ps,vs,0,p,v,zp5,hv=>by obtain⟨u,r,e,h1,h2⟩:=zp5;subst e;exact⟨v,r,rfl,hv,h2⟩
 | q::ps,vs,i+1,p,v,zp5,hv=>by obtain⟨u,r,e,h1,h2⟩:=zp5;subst e;exact⟨u,r.set i v,rfl,h1,VRs.set h2 hv⟩


noncomputable abbrev Bb:Value→Shared→Prop:=fun O O=>False
inductive Post (G:Cx) (H:AH) (s:Shared) (Q:PV→AH→Prop) (v:Value) (s':Shared):Prop where
 | mk (p:PV) (H':AH) (hv:VR s'.heap p v) (ok:OkH G H' s') (k:Kp H s H' s') (hq:Q p H'):Post G H s Q v s'
theorem Post.on{G:Cx}{H:AH}{s s':Shared}{Q:PV→AH→Prop}{v:Value}{W:Prop}(x:Post G H s Q v s')(f:∀ p H',VR s'.heap p v→OkH G H' s'→Kp H s H' s'→Q p H'→W):W:=by cases x with | mk p H' h1 h2 h3 h4=>exact f p H' h1 h2 h3 h4
inductive PostB (G:Cx) (H:AH) (s:Shared) (Q:Bool→AH→Prop) (b:Bool) (s':Shared):Prop where
 | mk (H':AH) (ok:OkH G H' s') (k:Kp H s H' s') (hq:Q b H'):PostB G H s Q b s'
theorem PostB.on{G:Cx}{H:AH}{s s':Shared}{Q:Bool→AH→Prop}{v:Bool}{W:Prop}(x:PostB G H s Q v s')(f:∀ H',OkH G H' s'→Kp H s H' s'→Q v H'→W):W:=by cases x with | mk H' h2 h3 h4=>exact f H' h2 h3 h4
inductive PostL (G:Cx) (H:AH) (s:Shared) (Q:List PV→AH→Prop) (vs:List Value) (s':Shared):Prop where
 | mk (ps:List PV) (H':AH) (hv:VRs s'.heap ps vs) (ok:OkH G H' s') (k:Kp H s H' s') (hq:Q ps H'):PostL G H s Q vs s'
theorem PostL.on{G:Cx}{H:AH}{s s':Shared}{Q:List PV→AH→Prop}{v:List Value}{W:Prop}(x:PostL G H s Q v s')(f:∀ p H',VRs s'.heap p v→OkH G H' s'→Kp H s H' s'→Q p H'→W):W:=by cases x with | mk p H' h1 h2 h3 h4=>exact f p H' h1 h2 h3 h4
inductive PostU (G:Cx) (H:AH) (s:Shared) (Q:AH→Prop) (u:Unit) (s':Shared):Prop where
 | mk (H':AH) (ok:OkH G H' s') (k:Kp H s H' s') (hq:Q H'):PostU G H s Q u s'
theorem PostU.on{G:Cx}{H:AH}{s s':Shared}{Q:AH→Prop}{v:Unit}{W:Prop}(x:PostU G H s Q v s')(f:∀ H',OkH G H' s'→Kp H s H' s'→Q H'→W):W:=by cases x with | mk H' h2 h3 h4=>exact f H' h2 h3 h4
theorem Post.trans{G:Cx}{H H1:AH}{s s1 s2:Shared}{Q}{v}(k:Kp H s H1 s1)(x:Post G H1 s1 Q v s2):Post G H s Q v s2 :=
 by obtain⟨p,H',h1,h2,h3,h4⟩:=x;exact⟨p,H',h1,h2,k.trans h3,h4⟩
theorem PostB.trans{G:Cx}{H H1:AH}{s s1 s2:Shared}{Q}{v}(k:Kp H s H1 s1)(x:PostB G H1 s1 Q v s2):PostB G H s Q v s2 :=
 by obtain⟨H',h2,h3,h4⟩:=x;exact⟨H',h2,k.trans h3,h4⟩
theorem Post.mono{G:Cx}{H:AH}{s s2:Shared}{Q Q':PV→AH→Prop}{v}(x:Post G H s Q v s2)(h:∀ p H,Q p H→Q' p H):Post G H s Q' v s2 :=
 by obtain⟨p,H',h1,h2,h3,h4⟩:=x;exact⟨p,H',h1,h2,h3,h _ _ h4⟩
noncomputable abbrev ME(G:Cx)(A:Around)(t:Sem Value)(H:AH)(s:Shared)(Q:PV→AH→Prop):Prop:=wpAny (model G.prog G.w) A t (Post G H s Q) Bb s
omit [Zz] in
theorem Ak{α:Type}{M:Model}{A:Around}{t:Sem α}{Q:α→Shared→Prop}{E:Value→Shared→Prop}{s:Shared}(h:wpAny M A t Q Bb s):wpAny M A t Q E s:=wpAny_mono h (fun O O x=>x) fun O O x=>x.elim


theorem OkH.toks{G:Cx}{H:AH}{s:Shared}(ok:OkH G H s)(tk:Nat):OkH G H { s with toks:=tk }:=⟨ok.keep,ok.hr,ok.gens,ok.dat,ok.tab⟩
theorem Kp.toks(H:AH)(s:Shared)(tk:Nat):Kp H s H { s with toks:=tk }:=⟨rfl,fun O O e O=>.of e,DomLe.refl _ _⟩
theorem AV{G:Cx}{H:AH}{s:Shared}{Q:PV→AH→Prop}{p:PV}{v:Value}(ok:OkH G H s)(hv:VR s.heap p v)(hq:Q p H):Post G H s Q v s :=
 ⟨p,H,hv,ok,Kp.refl H s,hq⟩
theorem BE{G:Cx}{H:AH}{s:Shared}{Q:PV→AH→Prop}{p:PV}{v:Value}{tk:Nat}(ok:OkH G H s)(hv:VR s.heap p v)(hq:Q p H):Post G H s Q v { s with toks:=tk } :=
 ⟨p,H,hv,ok.toks tk,Kp.toks H s tk,hq⟩

noncomputable def SN(G:Cx)(A:Around)(f:Value→Sem Value)(p:PV)(H:AH)(Q:PV→AH→Prop):Prop :=
 ∀ s v,OkH G H s→VR s.heap p v→ME G A (f v) H s Q
noncomputable def Cv(G:Cx)(A:Around)(f:Value→Value→Sem Value)(p q:PV)(H:AH)(Q:PV→AH→Prop):Prop :=
 ∀ s v u,OkH G H s→VR s.heap p v→VR s.heap q u→ME G A (f v u) H s Q
noncomputable def OpL(G:Cx)(A:Around)(f:List Value→Sem Value)(ps:List PV)(H:AH)(Q:PV→AH→Prop):Prop :=
 ∀ s vs,OkH G H s→VRs s.heap ps vs→ME G A (f vs) H s Q
noncomputable def SM(G:Cx)(A:Around)(f:Value→Sem Bool)(p:PV)(H:AH)(Q:Bool→AH→Prop):Prop :=
 ∀ s v,OkH G H s→VR s.heap p v→wpAny (model G.prog G.w) A (f v) (PostB G H s Q) Bb s

noncomputable def SE(G:Cx)(A:Around)(f:Value→Value→Value→Sem Unit)(p q r:PV)(H:AH)(Q:AH→Prop):Prop :=
 ∀ s v u t,OkH G H s→VR s.heap p v→VR s.heap q u→VR s.heap r t→wpAny (model G.prog G.w) A (f v u t) (PostU G H s Q) Bb s


noncomputable abbrev Loc:=Str→Option PV
noncomputable def Loc.set(σ:Loc)(x:Str)(v:PV):Loc:=fun y=>if y=x then some v else σ y
noncomputable def B2(sc:Scope):Bool:=sc.names.all fun p=>p.1 != ("__debug__" : Str)&&p.1 != ("__classdict__" : Str)


structure Fx where
 A:Around
 env:Env
 W:Addr→Prop
structure LR (G:Cx) (F:Fx) (σ:Loc) (h:Heap):Prop where
 own:∀ b,F.W b→G.base.get? b=none∧∀ o,¬ G.D b o
 odd:∀ b,F.W b→∃ o,h.get? b=some o∧DC o
 wloc:F.W F.env.locals
 fn:F.env.scope.kind=.function
 nok:B2 F.env.scope=true
 glob:F.env.globals=mainGlobals
 blt:F.env.builtins=builtinsNs
 ns:∃ m,h.Ns F.env.locals m∧∀ x p,σ x=some p→F.env.kindOf x=some .local→∃ v,m x=some v∧VR h p v
 kinds:∀ x p,σ x=some p→F.env.kindOf x=some .local∨F.env.kindOf x=some .cell∨F.env.kindOf x=some .free
 cell:∀ x,(F.env.kindOf x=some .cell∨F.env.kindOf x=some .free)→∃ c v₀,F.env.cells.lookup x=some c∧h.IsCell c v₀∧∀ p,σ x=some p→∃ v,v₀=some v∧VR h p v
 apart:F.env.cells.Pairwise fun x y=>x.2≠y.2

omit [Zz] in
theorem Bv{sc:Scope}(h:B2 sc=true){x:Str}{k:NameKind}(hk:sc.names.lookup x=some k):(x==("__debug__" : Str))=false∧(x==("__classdict__" : Str))=false:=by
 have:=List.all_eq_true.mp h _ (mem_of_lookup hk)
 simpa[bne]using this

omit [Zz] in
theorem D4{h:Heap}{a:Addr}{m}(hn:h.Ns a m):∃ o,h.get? a=some o∧DC o:=let ⟨o,es,ep,ho,hd,_⟩:=hn;⟨o,ho,.inl ⟨es,ep,hd⟩⟩
omit [Zz] in
theorem FI{h:Heap}{a:Addr}{v}(hn:h.IsCell a v):∃ o,h.get? a=some o∧DC o:=let ⟨o,ho,hd⟩:=hn;⟨o,ho,.inr ⟨v,hd⟩⟩
theorem CO{G:Cx}{H:AH}{h:Heap}(hr:HR G H h){a:Addr}(hn:∃ o,h.get? a=some o∧DC o):¬ Ct H a:=by
 rintro⟨xs,hx⟩
 obtain⟨⟨vs,n,hl,_⟩,_⟩:=hr a _ hx
 obtain⟨o,ho,hd⟩:=hn
 rw[hl]at ho;(replace ho:=Option.some.inj ho;subst ho)
 exact hd.not_solid (.inr (Ab _ _))

theorem LR.at{G:Cx}{F:Fx}{σ:Loc}{h h':Heap}(x:LR G F σ h)(JZ:∀ b o,DC o→h.get? b=some o→∃ o',h'.get? b=some o'∧o'.data=o.data)
  (hv:∀ p v,VR h p v→VR h' p v):LR G F σ h':=by
 refine AJ fun WW9 hW9=>?_
 obtain⟨hfr,hodd,hwl,hf,hnk,hg,hbl,⟨m,hn',hm⟩,hk,hce,ha⟩:=x
 refine hW9 ?_
 clear hW9 WW9
 refine⟨hfr,fun b hb=>?_,hwl,hf,hnk,hg,hbl,⟨m,?_,fun y p e1 e2=>?_⟩,hk,fun y hy=>?_,ha⟩
 ·obtain⟨o,ho,hd⟩:=hodd b hb;obtain⟨o',h1,h2⟩:=JZ b o hd ho;exact⟨o',h1,hd.of h2⟩
 ·obtain⟨o,es,ep,ho,hd,hr⟩:=hn';obtain⟨o',h1,h2⟩:=JZ _ _ (.inl ⟨_,_,hd⟩) ho;exact⟨o',es,ep,h1,h2.trans hd,hr⟩
 ·obtain⟨v,h1,h2⟩:=hm y p e1 e2;exact⟨v,h1,hv _ _ h2⟩
 ·refine AJ fun WW9 hW9=>?_
  obtain⟨c,v₀,h1,⟨o,ho,hd⟩,h3⟩:=hce y hy
  refine hW9 ?_
  clear hW9 WW9
  refine AJ fun WW9 hW9=>?_
  obtain⟨o',g1,g2⟩:=JZ _ _ (.inr ⟨_,hd⟩) ho
  refine hW9 ?_
  clear hW9 WW9
  refine⟨c,v₀,h1,⟨o',g1,g2.trans hd⟩,fun p e=>?_⟩
  obtain⟨v,e1,e2⟩:=h3 p e;exact⟨v,e1,hv _ _ e2⟩

theorem LR.kp{G:Cx}{H H':AH}{s s':Shared}{F:Fx}{σ:Loc}(x:LR G F σ s.heap)(ok:OkH G H s)(k:Kp H s H' s'):LR G F σ s'.heap :=
 x.at (fun b o hd e=>(k.kept b o e (CO ok.hr ⟨o,e,hd⟩)).data hd) (fun O O h=>k.vr ok h)

noncomputable def Ev(G:Cx)(F:Fx)(e:Expr)(σ:Loc)(H:AH)(Q:PV→AH→Prop):Prop :=
 ∀ s,OkH G H s→LR G F σ s.heap→ME G F.A (eval e F.env) H s Q
noncomputable def EvB(G:Cx)(F:Fx)(e:Expr)(σ:Loc)(H:AH)(Q:Bool→AH→Prop):Prop :=
 ∀ s,OkH G H s→LR G F σ s.heap→wpAny (model G.prog G.w) F.A (isTrue e F.env (eval e F.env)) (PostB G H s Q) Bb s
noncomputable def Gl(G:Cx)(F:Fx)(es:List Expr)(σ:Loc)(H:AH)(Q:List PV→AH→Prop):Prop :=
 ∀ s pos,OkH G H s→LR G F σ s.heap→wpAny (model G.prog G.w) F.A (spliced (backTo pos (starEach es F.env))) (PostL G H s Q) Bb s

inductive PF where
 | next | brk | cont
 | ret (p:PV)
noncomputable def FR(h:Heap):PF→Flow→Prop
 | .next,f=>f=.next
 | .brk,f=>f=.brk
 | .cont,f=>f=.cont
 | .ret p,f=>∃ v,f=.ret v∧VR h p v

structure KpF (W:Addr→Prop) (H:AH) (s:Shared) (H':AH) (s':Shared):Prop where
 os:s'.os=s.os
 kept:∀ b o,s.heap.get? b=some o→¬ Ct H b→¬ W b→Near s'.heap b o
 dom:DomLe H s.heap H'
 live:∀ b o,s.heap.get? b=some o→¬ Ct H b→W b→∃ o',s'.heap.get? b=some o'
omit [Zz] in
theorem Kp.toF{W:Addr→Prop}{H H':AH}{s s':Shared}(x:Kp H s H' s'):KpF W H s H' s':=⟨x.os,fun b o e h O=>x.kept b o e h,x.dom,fun b o e h O=>let ⟨o',h1,_⟩:=x.kept b o e h;⟨o',h1⟩⟩
theorem KpF.refl(W:Addr→Prop)(H:AH)(s:Shared):KpF W H s H s:=(Kp.refl H s).toF
theorem KpF.nm{W:Addr→Prop}{H H':AH}{s s':Shared}(x:KpF W H s H' s'){b:Addr}{o:Obj}(e:s.heap.get? b=some o)(hm:¬ Ct H b):¬ Ct H' b:=fun hm'=>by
 rcases x.dom.mut hm' with h | h
 ·exact hm h
 ·rw[h]at e;injection e
theorem KpF.back{W:Addr→Prop}{H H':AH}{s s':Shared}(x:KpF W H s H' s'){b:Addr}(hm:¬ Ct H b)(h:s'.heap.get? b=.none):s.heap.get? b=.none:=by
 cases e:s.heap.get? b with
 | none=>rfl
 | some o =>
  by_cases hno:W b
  ·obtain⟨o',ho'⟩:=x.live b o e hm hno;rw[ho']at h;injection h
  ·exact((x.kept b o e hm hno).ne h).elim
theorem KpF.trans{W:Addr→Prop}{H H' H'':AH}{s s' s'':Shared}(x:KpF W H s H' s')(y:KpF W H' s' H'' s''):KpF W H s H'' s'':=by
 refine⟨y.os.trans x.os,fun b o e hm hno=>(x.kept b o e hm hno).step fun o' e'=>y.kept b o' e' (x.nm e hm) hno,x.dom.trans y.dom (fun b hb h=>x.back (Ah hb) h) fun b o hb h=>x.back (AS hb) h,fun b o e hm ho=>?_⟩
 obtain⟨o',ho'⟩:=x.live b o e hm ho
 exact y.live b o' ho' (x.nm e hm) ho

theorem KpF.odd_kept{G:Cx}{F:Fx}{σ:Loc}{H H':AH}{s s':Shared}(x:KpF F.W H s H' s')(lr:LR G F σ s.heap){b:Addr}{o:Obj}(e:s.heap.get? b=some o)(hm:¬ Ct H b)(hd:¬ Soft o):s'.heap.get? b=some o :=
 (x.kept b o e hm fun hw=>by obtain⟨o',ho',hd'⟩:=lr.odd b hw;rw[ho']at e;(replace e:=Option.some.inj e;subst e);exact hd (.inl hd')).hard hd
theorem KpF.vr{G:Cx}{F:Fx}{σ:Loc}{H H':AH}{s s':Shared}(x:KpF F.W H s H' s')(ok:OkH G H s)(lr:LR G F σ s.heap){p:PV}{v:Value}(h:VR s.heap p v):VR s'.heap p v :=
 VR.mono (fun b o hf e=>x.odd_kept lr e (Aw ok.hr e (A5 hf)) (BJ hf)) p v h
theorem KpF.vrs{G:Cx}{F:Fx}{σ:Loc}{H H':AH}{s s':Shared}(x:KpF F.W H s H' s')(ok:OkH G H s)(lr:LR G F σ s.heap){p:List PV}{v:List Value}(h:VRs s.heap p v):VRs s'.heap p v :=
 VRs.mono (fun b o hf e=>x.odd_kept lr e (Aw ok.hr e (A5 hf)) (BJ hf)) p v h

inductive PostF (G:Cx) (F:Fx) (H:AH) (s:Shared) (Q:PF→Loc→AH→Prop) (f:Flow) (s':Shared):Prop where
 | mk (pf:PF) (σ':Loc) (H':AH) (hf:FR s'.heap pf f) (ok:OkH G H' s') (lr:LR G F σ' s'.heap) (k:KpF F.W H s H' s') (hq:Q pf σ' H'):PostF G F H s Q f s'
theorem PostF.on{G:Cx}{F:Fx}{H:AH}{s s':Shared}{Q:PF→Loc→AH→Prop}{v:Flow}{W:Prop}(x:PostF G F H s Q v s')(f:∀ pf σ' H',FR s'.heap pf v→OkH G H' s'→LR G F σ' s'.heap→KpF F.W H s H' s'→Q pf σ' H'→W):W:=by cases x with | mk pf p H' h1 h2 h3 h4 h5=>exact f pf p H' h1 h2 h3 h4 h5
theorem PostF.trans{G:Cx}{F:Fx}{H H1:AH}{s s1 s2:Shared}{Q}{f}(k:KpF F.W H s H1 s1)(x:PostF G F H1 s1 Q f s2):PostF G F H s Q f s2 :=
 by obtain⟨p,σ',H',h1,h2,h3,h4,h5⟩:=x;exact⟨p,σ',H',h1,h2,h3,k.trans h4,h5⟩
inductive PostS (G:Cx) (F:Fx) (H:AH) (s:Shared) (Q:Loc→AH→Prop) (u:Unit) (s':Shared):Prop where
 | mk (σ':Loc) (H':AH) (ok:OkH G H' s') (lr:LR G F σ' s'.heap) (k:KpF F.W H s H' s') (hq:Q σ' H'):PostS G F H s Q u s'
theorem PostS.on{G:Cx}{F:Fx}{H:AH}{s s':Shared}{Q:Loc→AH→Prop}{v:Unit}{W:Prop}(x:PostS G F H s Q v s')(f:∀ σ' H',OkH G H' s'→LR G F σ' s'.heap→KpF F.W H s H' s'→Q σ' H'→W):W:=by cases x with | mk p H' h2 h3 h4 h5=>exact f p H' h2 h3 h4 h5
theorem PostS.trans{G:Cx}{F:Fx}{H H1:AH}{s s1 s2:Shared}{Q}{f}(k:KpF F.W H s H1 s1)(x:PostS G F H1 s1 Q f s2):PostS G F H s Q f s2 :=
 by obtain⟨σ',H',h2,h3,h4,h5⟩:=x;exact⟨σ',H',h2,h3,k.trans h4,h5⟩

noncomputable def Ex(G:Cx)(F:Fx)(st:Stmt)(σ:Loc)(H:AH)(Q:PF→Loc→AH→Prop):Prop :=
 ∀ s,OkH G H s→LR G F σ s.heap→wpAny (model G.prog G.w) F.A (exec st F.env) (PostF G F H s Q) Bb s
noncomputable def Exs(G:Cx)(F:Fx)(sts:List Stmt)(σ:Loc)(H:AH)(Q:PF→Loc→AH→Prop):Prop :=
 ∀ s,OkH G H s→LR G F σ s.heap→wpAny (model G.prog G.w) F.A (execs sts F.env) (PostF G F H s Q) Bb s

noncomputable def As(G:Cx)(F:Fx)(t:Expr)(p:PV)(σ:Loc)(H:AH)(Q:Loc→AH→Prop):Prop :=
 ∀ s v,OkH G H s→LR G F σ s.heap→VR s.heap p v→wpAny (model G.prog G.w) F.A (assign t F.env v) (PostS G F H s Q) Bb s

noncomputable def MD(F:Fx)(x:Str):Prop:=F.env.kindOf x=some .local∨(F.env.kindOf x=some .cell∧∀ c,F.env.cells.lookup x=some c→F.W c)

section
variable {G:Cx} {A:Around} {F:Fx} {σ:Loc} {H:AH}

theorem HR.otherZ{h h':Heap}(hr:HR G H h)(k:∀ b o,h.get? b=some o→DS b o∨Bp o→h'.get? b=some o):HR G H h':=fun a o e=>by
 obtain⟨⟨vs,n,hl,hv,hz⟩,hb⟩:=hr a o e
 exact⟨⟨vs,n,k _ _ hl (.inr (Ab _ _)),VRs.monoZ (fun b o hf e=>k _ _ e (.inl hf)) _ _ hv,hz⟩,hb⟩
theorem HR.other{h h':Heap}(hr:HR G H h)(k:∀ b o,h.get? b=some o→FK o∨Bp o→h'.get? b=some o):HR G H h':=hr.otherZ fun b o e h=>k b o e (h.imp (·.1) id)


theorem GO{s:Shared}{a:Addr}{h':Heap}{oa oa':Obj}{tk:Nat}(ok:OkH G H s)(lr:LR G F σ s.heap)(hown:F.W a)(hoa:s.heap.get? a=some oa)(hns:DC oa)
  (hs:Heap.SameBut a s.heap h') (hoa':h'.get? a=some oa') (hns':DC oa') :
  OkH G H { s with heap:=h',toks:=tk }∧KpF F.W H s H { s with heap:=h',toks:=tk }∧(∀ p v,VR s.heap p v→VR h' p v)∧(∀ b,F.W b→∃ o,h'.get? b=some o∧DC o):=by
 have hba:=(lr.own a hown).1
 have k:∀ b o,s.heap.get? b=some o→FK o∨Bp o→h'.get? b=some o:=fun b o e hd=>(hs.2 b (by
  rintro rfl;rw[hoa]at e;(replace e:=Option.some.inj e;subst e);exact hns.not_solid hd)).trans e
 refine⟨⟨fun b o e=>(hs.2 b (by rintro rfl;rw[hba]at e;injection e)).trans (ok.keep b o e),ok.hr.other k,ok.gens,ok.dat.dc fun b o O hD e=>(hs.2 b (by rintro rfl;obtain⟨o',hD⟩:=hD;exact(lr.own _ hown).2 _ hD)).trans e,ok.tab.keep fun b o hl e=>(hs.2 b (by rintro rfl;rw[hoa]at e;(replace e:=Option.some.inj e;subst e);exact hl.not_dc hns)).trans e⟩,⟨rfl,fun b o e O hno=>.of ((hs.2 b (by rintro rfl;exact hno hown)).trans e),DomLe.refl _ _,fun b o e O O=>?_⟩,
  fun p v hv=>VR.mono (fun b o hf e=>k _ _ e (.inl hf)) p v hv,fun b hb=>?_⟩
 ·by_cases hb:b=a
  ·subst hb;exact⟨_,hoa'⟩
  ·exact⟨o,(hs.2 b hb).trans e⟩
 ·by_cases hba:b=a
  ·subst hba;exact⟨_,hoa',hns'⟩
  ·obtain⟨o,ho,hd⟩:=lr.odd b hb
   exact⟨o,(hs.2 b hba).trans ho,hd⟩

theorem BY{x:Str}{p:PV}{v:Value}{s:Shared}{Q:Loc→AH→Prop}(hk:MD F x)
  (ok:OkH G H s) (lr:LR G F σ s.heap) (hv:VR s.heap p v)
  (h:Q (σ.set x p) H):wpAny (model G.prog G.w) A (storeName F.env x v) (PostS G F H s Q) Bb s:=by
 obtain⟨hfr,hodd,hwl,hf,hnk,hg,hbl,⟨m,hn,hm⟩,hki,hce,ha⟩:=id lr
 rcases hk with hk | ⟨hk,hkw⟩
 ·refine wpAny_storeName_local hk hn (fun h' hn' hs'=>?_) (by rw[hf];rfl)
  obtain⟨oa,ho,hd⟩:=D4 hn
  obtain⟨oa',ho',hd'⟩:=D4 hn'
  obtain⟨ok',kp',vr',odd'⟩:=GO (tk:=s.toks+1) ok lr hwl ho hd hs' ho' hd'
  refine⟨_,H,ok',⟨hfr,odd',hwl,hf,hnk,hg,hbl,⟨_,hn',fun y q e1 e2=>?_⟩,fun y q e=>?_,fun y hy=>?_,ha⟩,kp',h⟩
  ·unfold Loc.set at e1
   by_cases hy:y=x
   ·subst hy;rw[if_pos rfl]at e1;(replace e1:=Option.some.inj e1;subst e1)
    exact⟨v,if_pos rfl,vr' _ _ hv⟩
   ·rw[if_neg hy]at e1 ⊢
    obtain⟨u,h1,h2⟩:=hm y q e1 e2
    exact⟨u,h1,vr' _ _ h2⟩
  ·unfold Loc.set at e
   by_cases hy:y=x
   ·subst hy;exact .inl hk
   ·rw[if_neg hy]at e;exact hki y q e
  ·obtain⟨c,v₀,h1,h2,h3⟩:=hce y hy
   have hyx:y≠x:=by rintro rfl;rw[hk]at hy;rcases hy with hy | hy<;>cases hy
   refine⟨c,v₀,h1,h2.sameBut hs' ?_,fun q e=>?_⟩
   ·rintro rfl;obtain⟨o,e1,e2⟩:=h2;rw[ho]at e1;(replace e1:=Option.some.inj e1;subst e1)
    obtain⟨_,_,_,ho2,hd2,_⟩:=hn;rw[ho]at ho2;(replace ho2:=Option.some.inj ho2;subst ho2);rw[hd2]at e2;injection e2
   ·unfold Loc.set at e;rw[if_neg hyx]at e
    obtain⟨u,e1,e2⟩:=h3 q e;exact⟨u,e1,vr' _ _ e2⟩
 ·obtain⟨c,v₀,h1,h2,h3⟩:=hce x (.inl hk)
  have hmem:=mem_of_lookup h1
  refine wpAny_storeName_cell hf hk h1 h2 fun h' hc' hs'=>?_
  obtain⟨oa,ho,hd⟩:=id h2
  obtain⟨oa',ho',hd'⟩:=FI hc'
  obtain⟨ok',kp',vr',odd'⟩:=GO (tk:=s.toks) ok lr (hkw c h1) ho (.inr ⟨_,hd⟩) hs' ho' hd'
  have hcL:F.env.locals≠c:=by
   rintro rfl;obtain⟨_,_,_,ho2,hd2,_⟩:=hn;rw[ho]at ho2;(replace ho2:=Option.some.inj ho2;subst ho2);rw[hd]at hd2;injection hd2
  refine⟨_,H,ok',⟨hfr,odd',hwl,hf,hnk,hg,hbl,⟨m,hn.sameBut hs' hcL,fun y q e1 e2=>?_⟩,fun y q e=>?_,fun y hy=>?_,ha⟩,kp',h⟩
  ·have hyx:y≠x:=by rintro rfl;rw[hk]at e2;cases e2
   unfold Loc.set at e1;rw[if_neg hyx]at e1
   obtain⟨u,g1,g2⟩:=hm y q e1 e2
   exact⟨u,g1,vr' _ _ g2⟩
  ·unfold Loc.set at e
   by_cases hy:y=x
   ·subst hy;exact .inr (.inl hk)
   ·rw[if_neg hy]at e;exact hki y q e
  ·by_cases hyx:y=x
   ·subst hyx
    refine⟨c,some v,h1,hc',fun q e=>?_⟩
    unfold Loc.set at e;rw[if_pos rfl]at e;(replace e:=Option.some.inj e;subst e)
    exact⟨v,rfl,vr' _ _ hv⟩
   ·obtain⟨c2,v2,g1,g2,g3⟩:=hce y hy
    refine⟨c2,v2,g1,g2.sameBut hs' ?_,fun q e=>?_⟩
    ·intro e;exact hyx (name_of_addr ha (mem_of_lookup g1) (e▸hmem))
    ·unfold Loc.set at e;rw[if_neg hyx]at e
     obtain⟨u,e1,e2⟩:=g3 q e;exact⟨u,e1,vr' _ _ e2⟩


theorem BT{x:Str}{pos:Pos}{p:PV}{Q:PV→AH→Prop}(hx:σ x=some p)(h:Q p H):Ev G F (.Name x pos) σ H Q:=by
 intro s ok lr
 obtain⟨hfr,hodd,hwl,hf,hnk,hg,hbl,⟨m,hn,hm⟩,hki,hce,ha⟩:=id lr
 rcases hki x p hx with hk | hk | hk
 ·obtain⟨v,h1,h2⟩:=hm x p hx hk
  exact wpAny_Name (wpAny_loadName_local hf hk hn h1 (AV ok h2 h)) (Bv hnk hk).1
 ·obtain⟨c,v₀,h1,h2,h3⟩:=hce x (.inl hk)
  obtain⟨v,rfl,hv⟩:=h3 p hx
  exact wpAny_Name (wpAny_loadName_cell hf hk h1 h2 (AV ok hv h)) (Bv hnk hk).1
 ·obtain⟨c,v₀,h1,h2,h3⟩:=hce x (.inr hk)
  obtain⟨v,rfl,hv⟩:=h3 p hx
  exact wpAny_Name (wpAny_loadName_free hf hk h1 h2 (AV ok hv h) (Bv hnk hk).2) (Bv hnk hk).1

theorem Ej{x:Str}{pos:Pos}{a:Addr}{Q:PV→AH→Prop}(hk:F.env.kindOf x=some .globalImplicit)(hx:G.mg x=some (.ref a))(h:Q (.ref a) H):Ev G F (.Name x pos) σ H Q:=by
 intro s ok lr
 have hg:s.heap.Ns F.env.globals G.mg:=by rw[lr.glob];exact G.g.keeps ok.keep
 exact Calls.Name_function_global lr.fn hk (Calls.loadGlobal_global hg hx (AV (p:=.ref a) ok rfl h)) (Bv lr.nok hk).1

theorem BX{x:Str}{pos:Pos}{v:Value}{Q:PV→AH→Prop}(hk:F.env.kindOf x=some .globalImplicit)(hx:G.mg x=none)(hb:bootBuiltins x=some v)(hn:x ≠ "__name__")(h:Q (.val v) H) :
  Ev G F (.Name x pos) σ H Q:=by
 intro s ok lr
 have hg:s.heap.Ns F.env.globals G.mg:=by rw[lr.glob];exact G.g.keeps ok.keep
 have hb':s.heap.Ns F.env.builtins G.mb:=by rw[lr.blt];exact G.b.keeps ok.keep
 exact Calls.Name_function_global lr.fn hk (Calls.loadGlobal_builtin hg hx hb' ((G.builtins x hn).trans hb) (AV (p:=.val v) ok rfl h)) (Bv lr.nok hk).1

theorem Au{i:Int}{k:Nat}{pos:Pos}{Q:PV→AH→Prop}(h:Q (.int i) H):Ev G F (.Constant (.int i) k pos) σ H Q :=
 fun s ok O=>wpAny_Constant_int (BE (p:=.int i) ok ⟨_,rfl⟩ h)
theorem Ms{k:Nat}{pos:Pos}{Q:PV→AH→Prop}(h:Q .none H):Ev G F (.Constant .none k pos) σ H Q :=
 fun s ok O=>wpAny_Constant_none (AV (p:=.none) ok rfl h)
theorem HX{b:Bool}{k:Nat}{pos:Pos}{Q:PV→AH→Prop}(h:Q (.bool b) H):Ev G F (.Constant (.bool b) k pos) σ H Q :=
 fun s ok O=>wpAny_Constant_bool (AV (p:=.bool b) ok rfl h)

theorem Ev.andThen{e:Expr}{Q Q':PV→AH→Prop}{f:Value→Sem Value}{s:Shared}(h:Ev G F e σ H Q)(ok:OkH G H s)(lr:LR G F σ s.heap)
  (k:∀ p v H1 s1,Q p H1→VR s1.heap p v→OkH G H1 s1→LR G F σ s1.heap→Kp H s H1 s1→ME G F.A (f v) H1 s1 Q') :
  wpAny (model G.prog G.w) F.A (eval e F.env) (fun v s1=>wpAny (model G.prog G.w) F.A (f v) (Post G H s Q') Bb s1) Bb s :=
 wpAny_mono (h s ok lr) (fun v s1 zz2=>by obtain⟨p,H1,hv,ok1,k1,hq⟩:=zz2;exact wpAny_mono (k p v H1 s1 hq hv ok1 (lr.kp ok k1) k1) (fun O O x=>x.trans k1) fun O O x=>x) fun O O x=>x

theorem AZ{l r:Expr}{op:Operator}{pos:Pos}{Q:PV→AH→Prop}
  (h:Ev G F l σ H (fun a H1=>Ev G F r σ H1 (fun b H2=>Cv G F.A (binaryOp op) a b H2 Q))):Ev G F (.BinOp l op r pos) σ H Q:=by
 intro s ok lr
 refine wpAny_BinOp (wpAny_mono (h s ok lr) (fun a s1 zz2=>zz2.on fun p H1 hv ok1 k1 hq=>wpAny_mono (hq s1 ok1 (lr.kp ok k1)) (fun b s2 zz2=>zz2.on fun q H2 hu ok2 k2 hq2=>?_) fun O O x=>x) fun O O x=>x)
 exact wpAny_mono (hq2 s2 a b ok2 (k2.vr ok1 hv) hu) (fun O O x=>(x.trans k2).trans k1) fun O O x=>x

theorem JJ{l r:Expr}{op:CmpOp}{pos:Pos}{Q:PV→AH→Prop}
  (h:Ev G F l σ H (fun a H1=>Ev G F r σ H1 (fun b H2=>Cv G F.A (compareOp op) a b H2 Q))) (hm:behindInMarks op r=false):Ev G F (.Compare l [op] [r] pos) σ H Q:=by
 intro s ok lr
 refine wpAny_Compare1 (wpAny_mono (h s ok lr) (fun a s1 zz2=>zz2.on fun p H1 hv ok1 k1 hq=>wpAny_mono (hq s1 ok1 (lr.kp ok k1)) (fun b s2 zz2=>zz2.on fun q H2 hu ok2 k2 hq2=>?_) fun O O x=>x) fun O O x=>x) hm
 exact wpAny_mono (hq2 s2 a b ok2 (k2.vr ok1 hv) hu) (fun O O x=>(x.trans k2).trans k1) fun O O x=>x

theorem Lx{x:Expr}{op:UnaryOp}{pos:Pos}{Q:PV→AH→Prop}(h:Ev G F x σ H (fun a H1=>SN G F.A (unaryOp op) a H1 Q)):Ev G F (.UnaryOp op x pos) σ H Q:=by
 intro s ok lr
 exact wpAny_UnaryOp (h.andThen ok lr fun p v H1 s1 hq hv ok1 O O=>hq s1 v ok1 hv)
end
end Mine
namespace Mine
variable [zz:Zz]
section
variable {G:Cx} {A:Around} {F:Fx} {σ:Loc} {H:AH}

theorem Co{s:Shared}(ok:OkH G H s):H s.heap.objs.size=none:=by
 cases e:H s.heap.objs.size with
 | none=>rfl
 | some o =>
  obtain⟨⟨vs,n,hl,_⟩,_⟩:=ok.hr _ _ e
  exact absurd (Heap.lt_size hl) (Nat.lt_irrefl _)

theorem Bn{s:Shared}(ok:OkH G H s)(o:Obj):OkH G H { s with heap:=s.heap.push o }∧Kp H s H { s with heap:=s.heap.push o } :=
 ⟨⟨fun b o' e=>Heap.get?_push_of_some _ (ok.keep b o' e),ok.hr.other fun b o' e O=>Heap.get?_push_of_some _ e,ok.gens,ok.dat.all fun b o' e=>Heap.get?_push_of_some _ e,ok.tab.keep fun b o' O e=>Heap.get?_push_of_some _ e⟩,
  ⟨rfl,fun b o' e O=>.of (Heap.get?_push_of_some _ e),DomLe.refl _ _⟩⟩

theorem DD{s:Shared}(ok:OkH G H s){ps:List PV}{vs:List Value}(hv:VRs s.heap ps vs)(hz:ps.length≤sizeLine) :
  OkH G (H.set s.heap.objs.size (.lst ps)) { s with heap:=s.heap.push { cls:=.type "list", data:=.seq vs.toArray } } ∧
  Kp H s (H.set s.heap.objs.size (.lst ps)) { s with heap:=s.heap.push { cls:=.type "list", data:=.seq vs.toArray } }:=by
 obtain⟨ok',k'⟩:=Bn ok { cls:=.type "list", data:=.seq vs.toArray }
 refine⟨⟨ok'.keep,fun a o e=>?_,ok'.gens,ok'.dat,ok'.tab⟩,⟨rfl,k'.kept,fun b o hb=>?_⟩⟩
 ·unfold AH.set at e
  by_cases ha:a=s.heap.objs.size
  ·rw[if_pos ha]at e;(replace e:=Option.some.inj e;subst e)
   refine⟨⟨vs,0,by rw[ha];exact IsL.new _ _,k'.vrs ok hv,hz⟩,fun O O=>?_⟩
   cases e:G.base.get? a with
   | none=>rfl
   | some o=>have:=Heap.lt_size (ok.keep _ _ e);rw[ha]at this;exact absurd this (Nat.lt_irrefl _)
  ·rw[if_neg ha]at e;exact ok'.hr a o e
 ·unfold AH.set at hb
  by_cases ha:b=s.heap.objs.size
  ·left
   cases e:s.heap.get? b with
   | none=>rfl
   | some o=>have:=Heap.lt_size e;rw[ha]at this;exact absurd this (Nat.lt_irrefl _)
  ·rw[if_neg ha]at hb;exact .inr ⟨o,hb,id⟩


theorem ES{s:Shared}(ok:OkH G H s){ps:List PV}{vs:List Value}{Q:PV→AH→Prop}{tk:Nat}(hv:VRs s.heap ps vs)(hz:ps.length≤sizeLine)
  (h:∀ a,H a=none→Q (.ref a) (H.set a (.lst ps))):Post G H s Q (.ref s.heap.objs.size) { s with heap:=s.heap.push { cls:=.type "list", data:=.seq vs.toArray },toks:=tk }:=by
 obtain⟨ok',k'⟩:=DD ok hv hz
 exact⟨.ref s.heap.objs.size,_,rfl,ok'.toks tk,k'.trans (Kp.toks _ _ tk),h _ (Co ok)⟩
theorem Io{s:Shared}(ok:OkH G H s){ps:List PV}{vs:List Value}{Q:PV→AH→Prop}{tk:Nat}(hv:VRs s.heap ps vs)
  (h:Q (.tup ps) H):Post G H s Q (.ref s.heap.objs.size) { s with heap:=s.heap.push { cls:=.type "tuple", data:=.seq vs.toArray },toks:=tk }:=by
 obtain⟨ok',k'⟩:=Bn ok { cls:=.type "tuple", data:=.seq vs.toArray }
 exact⟨.tup ps,_,⟨_,vs,0,rfl,IsT.new _ _,k'.vrs ok hv,fun hz=>by
  obtain⟨o,ho,_⟩:=ok.tab.1 _ hz;exact absurd (Heap.lt_size ho) (Nat.lt_irrefl _)⟩,ok'.toks tk,k'.trans (Kp.toks _ _ tk),h⟩


theorem AP{Q:List PV→AH→Prop}(h:Q [] H):Gl G F [] σ H Q:=fun s pos ok O=>spliced_none ⟨[],H,rfl,ok,Kp.refl H s,h⟩
theorem AM{e:Expr}{es:List Expr}{Q:List PV→AH→Prop}(h:Ev G F e σ H (fun p H1=>Gl G F es σ H1 (fun ps H2=>Q (p::ps) H2)))
  (he:starEach (e::es) F.env=(false,eval e F.env)::starEach es F.env:=by with_unfolding_all rfl):Gl G F (e::es) σ H Q:=by
 intro s pos ok lr
 refine spliced_more (wpAny_mono (h s ok lr) (fun a s1 zz2=>zz2.on fun p H1 hv ok1 k1 hq=>wpAny_mono (hq s1 pos ok1 (lr.kp ok k1)) (fun b s2 zz2=>zz2.on fun q H2 hu ok2 k2 hq2=>?_) fun O O x=>x) fun O O x=>x) he
 exact⟨p::q,H2,⟨a,b,rfl,k2.vr ok1 hv,hu⟩,ok2,k1.trans k2,hq2⟩

theorem BB{es:List Expr}{k:Nat}{pos:Pos}{Q:PV→AH→Prop}(h:Gl G F es σ H (fun ps H1=>ps.length≤sizeLine∧Q (.tup ps) H1)):Ev G F (.Tuple es k pos) σ H Q:=by
 intro s ok lr
 refine wpAny_Tuple (wpAny_mono (h s pos ok lr) (fun vs s1 zz2=>zz2.on fun ps H1 hv ok1 k1 zz2_5=>zz2_5.elim fun hz hq=>⟨by rw[hv.length];exact hz,?_⟩) fun O O x=>x)
 exact(Io (tk:=s1.toks) ok1 hv hq).trans k1
theorem B3{es:List Expr}{pos:Pos}{Q:PV→AH→Prop}(h:Gl G F es σ H (fun ps H1=>ps.length≤sizeLine∧∀ a,H1 a=none→Q (.ref a) (H1.set a (.lst ps)))):Ev G F (.List es pos) σ H Q:=by
 intro s ok lr
 refine wpAny_List (wpAny_mono (h s pos ok lr) (fun vs s1 zz2=>zz2.on fun ps H1 hv ok1 k1 zz2_5=>zz2_5.elim fun hz hq=>⟨by rw[hv.length];exact hz,?_⟩) fun O O x=>x)
 exact(ES (tk:=s1.toks) ok1 hv hz hq).trans k1


theorem Am{l r:Expr}{op:CmpOp}{pos:Pos}{Q:Bool→AH→Prop}
  (h:Ev G F l σ H (fun a H1=>Ev G F r σ H1 (fun b H2=>Cv G F.A (compareOp op) a b H2 (fun p H3=>∃ c,p=.bool c∧Q c H3)))) (hm:behindInMarks op r=false:=by with_unfolding_all rfl) :
  EvB G F (.Compare l [op] [r] pos) σ H Q:=by
 intro s ok lr
 refine wpAny_isTrue_Compare1 (wpAny_mono (h s ok lr) (fun a s1 zz2=>zz2.on fun p H1 hv ok1 k1 hq=>wpAny_mono (hq s1 ok1 (lr.kp ok k1)) (fun b s2 zz2=>zz2.on fun q H2 hu ok2 k2 hq2=>?_) fun O O x=>x) fun O O x=>x) hm
 refine wpAny_mono (hq2 s2 a b ok2 (k2.vr ok1 hv) hu) (fun v s3 zz2=>zz2.on fun r H3 hw ok3 k3 zz2_5=>zz2_5.elim fun c zz2_5=>zz2_5.elim fun hc hq3=>?_) fun O O x=>x
 subst hc;rw[show v=.bool c from hw]
 exact wpAny_truthy_bool ⟨H3,ok3,(k1.trans k2).trans k3,hq3⟩
theorem DQ{x:Expr}{pos:Pos}{Q:Bool→AH→Prop}(h:EvB G F x σ H (fun b H1=>Q (!b) H1)):EvB G F (.UnaryOp .Not x pos) σ H Q :=
 fun s ok lr=>wpAny_isTrue_Not (wpAny_mono (h s ok lr) (fun O O zz2=>by obtain⟨H1,ok1,k1,hq⟩:=zz2;exact⟨H1,ok1,k1,hq⟩) fun O O x=>x)
theorem FL{x y:Expr}{pos:Pos}{Q:Bool→AH→Prop}(h:EvB G F x σ H (fun b H1=>if b then EvB G F y σ H1 Q else Q false H1)):EvB G F (.BoolOp .And [x,y] pos) σ H Q:=by
 intro s ok lr
 refine wpAny_isTrue_BoolOp (wpAny_allTrue_And_cons (wpAny_mono (h s ok lr) (fun b s1 zz2=>zz2.on fun H1 ok1 k1 hq=>?_) fun O O x=>x))
 cases b with
 | false=>exact⟨H1,ok1,k1,hq⟩
 | true =>
  refine wpAny_allTrue_And_cons (wpAny_mono (hq s1 ok1 (lr.kp ok k1)) (fun b s2 zz2=>zz2.on fun H2 ok2 k2 hq2=>?_) fun O O x=>x)
  cases b with
  | false=>exact⟨H2,ok2,k1.trans k2,hq2⟩
  | true=>exact wpAny_allTrue_And_nil ⟨H2,ok2,k1.trans k2,hq2⟩
theorem EJ{e:Expr}{Q:Bool→AH→Prop}(h:Ev G F e σ H (fun p H1=>SM G F.A truthy p H1 Q))
  (he:isTrue e F.env (eval e F.env)=(do let v ← eval e F.env;standAt e.pos;holding [v] (truthy v)):=by rfl):EvB G F e σ H Q:=by
 intro s ok lr
 refine wpAny_isTrue_value (wpAny_mono (h s ok lr) (fun v s1 zz2=>by obtain⟨p,H1,hv,ok1,k1,hq⟩:=zz2;exact wpAny_mono (hq s1 v ok1 hv) (fun O O x=>x.trans k1) fun O O x=>x) fun O O x=>x) he
theorem Cf{t b o:Expr}{pos:Pos}{Q:PV→AH→Prop}(h:EvB G F t σ H (fun c H1=>if c then Ev G F b σ H1 Q else Ev G F o σ H1 Q)):Ev G F (.IfExp t b o pos) σ H Q:=by
 intro s ok lr
 refine wpAny_IfExp (wpAny_mono (h s ok lr) (fun c s1 zz2=>zz2.on fun H1 ok1 k1 hq=>?_) fun O O x=>x)
 cases c with
 | true=>exact wpAny_mono (hq s1 ok1 (lr.kp ok k1)) (fun O O x=>x.trans k1) fun O O x=>x
 | false=>exact wpAny_mono (hq s1 ok1 (lr.kp ok k1)) (fun O O x=>x.trans k1) fun O O x=>x


noncomputable def CK{α:Type}(xs:List α)(k:Int):Option α:=if 0≤k then xs[k.toNat]? else if -(xs.length:Int)≤k then xs[(k+xs.length).toNat]? else none

theorem Bd{v i:Expr}{pos:Pos}{Q:PV→AH→Prop}
  (h:Ev G F v σ H (fun o H1=>Ev G F i σ H1 (fun j H2=>Cv G F.A (subscriptTail v i) o j H2 Q))):Ev G F (.Subscript v i pos) σ H Q:=by
 intro s ok lr
 refine Subscript_ (wpAny_mono (h s ok lr) (fun a s1 zz2=>zz2.on fun p H1 hv ok1 k1 hq=>wpAny_mono (hq s1 ok1 (lr.kp ok k1)) (fun b s2 zz2=>zz2.on fun q H2 hu ok2 k2 hq2=>?_) fun O O x=>x) fun O O x=>x)
 exact wpAny_mono (hq2 s2 a b ok2 (k2.vr ok1 hv) hu) (fun O O x=>(x.trans k2).trans k1) fun O O x=>x

theorem FC{s:Shared}{a:Addr}{ho:HO}{k:Int}{t:Tok}{p:PV}{Q:PV→AH→Prop}(ok:OkH G H s)(hH:H a=some ho)(hk:CK ho.items k=some p)(h:Q p H) :
  ME G A (getItem (.ref a) (.int k t)) H s Q:=by
 obtain⟨⟨vs,n,hl,hv,hz⟩,_⟩:=ok.hr a ho hH
 have hlen:=hv.length
 have hz':ho.items.length≤16777216:=by rw[← sizeLine_eq];exact hz
 unfold CK at hk
 by_cases h0:0≤k
 ·rw[if_pos h0]at hk
  obtain⟨v,h1,h2⟩:=hv.get hk
  have hlt:=(List.getElem?_eq_some_iff.mp hk).1
  refine wpAny_getItem_list hl.isList h0 (by exact SB hlt hz') (x:=v) (by simpa using h1) (AV ok h2 h)
 ·rw[if_neg h0]at hk
  by_cases h1 : -(ho.items.length:Int)≤k
  ·rw[if_pos h1]at hk
   obtain⟨v,h2,h3⟩:=hv.get hk
   refine wpAny_getItem_list_neg hl.isList (by exact Int.lt_of_not_ge h0) (by simp only[List.size_toArray];exact hlen▸h1) (by exact SA h1 hz') (x:=v) (by simp only[List.size_toArray,List.getElem?_toArray];rw[hlen];exact h2) (AV ok h3 h)
  ·rw[if_neg h1]at hk;injection hk

theorem AK{v i:Expr}{a:Addr}{ho:HO}{k:Int}{p:PV}{Q:PV→AH→Prop}(hH:H a=some ho)(hk:CK ho.items k=some p)(h:Q p H)
  (hs:∀ o j,subscripted i false o j=operate [o,j] (getItem o j):=by intros;rfl):Cv G A (subscriptTail v i) (.ref a) (.int k) H Q:=by
 rintro s _ _ ok rfl ⟨t,rfl⟩
 obtain⟨⟨vs,n,hl,hv,hz⟩,_⟩:=id (ok.hr a ho hH)
 exact tail_any (T := "list") ⟨_,hl,rfl⟩ slot_list_getitem.lookup (FC ok hH hk h) (hs _ _)

theorem Fo{s:Shared}{xs:List PV}{v:Value}{k:Int}{t:Tok}{p:PV}{Q:PV→AH→Prop}(ok:OkH G H s)(hv:VR s.heap (.tup xs) v)(hz:xs.length≤1000)(hk:CK xs k=some p)(h:Q p H) :
  ME G A (getItem v (.int k t)) H s Q:=by
 obtain⟨a,vs,n,rfl,hT,hvs,_⟩:=hv
 have hlen:=hvs.length
 unfold CK at hk
 have key:∃ j u,seqIndex? k (vs.toArray.size)=some j∧vs.toArray[j]?=some u∧VR s.heap p u ∧ -2 ^ 63≤k∧k<2 ^ 63:=by
  by_cases h0:0≤k
  ·rw[if_pos h0]at hk
   obtain⟨u,h1,h2⟩:=hvs.get hk
   have hlt:=(List.getElem?_eq_some_iff.mp hk).1
   refine⟨k.toNat,u,?_,by simpa using h1,h2,by exact Int.le_trans (by decide) h0,by exact R9 hlt hz⟩
   unfold seqIndex?
   simp only[List.size_toArray]
   rw[if_neg (by exact Int.not_lt.mpr h0:¬ k<0),if_pos (by simp only[Bool.and_eq_true,decide_eq_true_eq];exact R8 h0 hlt hlen)]
  ·rw[if_neg h0]at hk
   by_cases h1 : -(xs.length:Int)≤k
   ·rw[if_pos h1]at hk
    obtain⟨u,h2,h3⟩:=hvs.get hk
    refine⟨(k+xs.length).toNat,u,?_,by simpa using h2,h3,by exact R7 h1 hz,by exact R6 h0⟩
    unfold seqIndex?
    simp only[List.size_toArray]
    rw[if_pos (by exact Int.lt_of_not_ge h0:k<0),hlen,if_pos (by simp only[Bool.and_eq_true,decide_eq_true_eq];exact R1 h1 h0)]
   ·rw[if_neg h1]at hk;injection hk
 obtain⟨j,u,h1,h2,h3,h4,h5⟩:=key
 exact P.getItem_tuple hT h4 h5 h1 h2 (AV ok h3 h)

theorem DB{v i:Expr}{xs:List PV}{k:Int}{p:PV}{Q:PV→AH→Prop}(hz:xs.length≤1000)(hk:CK xs k=some p)(h:Q p H)
  (hs:∀ o j,subscripted i false o j=operate [o,j] (getItem o j):=by intros;rfl):Cv G A (subscriptTail v i) (.tup xs) (.int k) H Q:=by
 rintro s u _ ok hu ⟨t,rfl⟩
 obtain⟨a,vs,n,rfl,hT,hvs,_⟩:=id hu
 exact tail_any (T := "tuple") ⟨_,hT,rfl⟩ PySem.F.slot_tuple_getitem.lookup (Fo ok hu hz hk h) (hs _ _)



theorem L1{f:Str}{np pos:Pos}{fa:Addr}{fo:Obj}{fd:FuncData}{e:Expr}{es:List Expr}{Q:PV→AH→Prop}(hk:F.env.kindOf f=some .globalImplicit)(hf:G.mg f=some (.ref fa))
  (hfo:G.base.get? fa=some fo) (hfd:fo.data=.func fd)
  (h:Gl G F (e::es) σ H (fun ps H1=>OpL G F.A (fun vs=>call (.ref fa) vs) ps H1 Q)) (he:starEach (e::es) F.env=(false,eval e F.env)::starEach es F.env:=by rfl) :
  Ev G F (.Call (.Name f np) (e::es) [] pos) σ H Q:=by
 intro s ok lr
 refine wpAny_Call_NameR (wpAny_mono (Ej (Q:=fun p H1=>p=.ref fa∧H1=H) hk hf ⟨rfl,rfl⟩ s ok lr) (fun v s1 zz2=>zz2.on fun p H1 hv ok1 k1 zz2_5=>zz2_5.elim fun hp hH=>?_) fun O O x=>x)
 subst hp;subst hH
 rw[show v=.ref fa from hv]
 refine callWith_def hfd (wpAny_mono (h s1 pos ok1 (lr.kp ok k1)) (fun vs s2 zz2=>zz2.on fun ps H2 hvs ok2 k2 hq=>⟨ok2.keep _ _ hfo,?_⟩) fun O O x=>x) he
 exact wpAny_mono (hq s2 vs ok2 hvs) (fun O O x=>(x.trans k2).trans k1) fun O O x=>x


theorem L3{f:Str}{np pos:Pos}{id:String}{e:Expr}{es:List Expr}{Q:PV→AH→Prop}(hk:F.env.kindOf f=some .globalImplicit)(hf:G.mg f=none)(hb:bootBuiltins f=some (.builtin id))(hn:f ≠ "__name__")
  (h:Gl G F (e::es) σ H (fun ps H1=>OpL G F.A (fun vs=>call (.builtin id) vs) ps H1 Q)) (he:starEach (e::es) F.env=(false,eval e F.env)::starEach es F.env:=by rfl)
  (hplain:∀ pos,(backTo pos (starEach es F.env)).any (·.1)=false:=by intro _;rfl) :
  Ev G F (.Call (.Name f np) (e::es) [] pos) σ H Q:=by
 intro s ok lr
 refine wpAny_Call_NameR (wpAny_mono (BX (Q:=fun p H1=>p=.val (.builtin id)∧H1=H) hk hf hb hn ⟨rfl,rfl⟩ s ok lr) (fun v s1 zz2=>zz2.on fun p H1 hv ok1 k1 zz2_5=>zz2_5.elim fun hp hH=>?_) fun O O x=>x)
 subst hp;subst hH
 rw[show v=.builtin id from hv]
 refine PyProof.Rows.callWith_builtin1 (wpAny_mono (h s1 pos ok1 (lr.kp ok k1)) (fun vs s2 zz2=>zz2.on fun ps H2 hvs ok2 k2 hq=>?_) fun O O x=>x) he (hplain pos)
 exact wpAny_mono (hq s2 vs ok2 hvs) (fun O O x=>(x.trans k2).trans k1) fun O O x=>x


theorem L0{f:Str}{np pos:Pos}{T:String}{e:Expr}{es:List Expr}{Q:PV→AH→Prop}(hk:F.env.kindOf f=some .globalImplicit)(hf:G.mg f=none)(hb:bootBuiltins f=some (.type T))(hn:f ≠ "__name__")
  (h:Gl G F (e::es) σ H (fun ps H1=>OpL G F.A (fun vs=>call (.type T) vs) ps H1 Q)) (he:starEach (e::es) F.env=(false,eval e F.env)::starEach es F.env:=by rfl)
  (hplain:∀ pos,(backTo pos (starEach es F.env)).any (·.1)=false:=by intro _;rfl) :
  Ev G F (.Call (.Name f np) (e::es) [] pos) σ H Q:=by
 intro s ok lr
 refine wpAny_Call_NameR (wpAny_mono (BX (Q:=fun p H1=>p=.val (.type T)∧H1=H) hk hf hb hn ⟨rfl,rfl⟩ s ok lr) (fun v s1 zz2=>zz2.on fun p H1 hv ok1 k1 zz2_5=>zz2_5.elim fun hp hH=>?_) fun O O x=>x)
 subst hp;subst hH
 rw[show v=.type T from hv]
 refine PySem.Pv.callWith_type1 (wpAny_mono (h s1 pos ok1 (lr.kp ok k1)) (fun vs s2 zz2=>zz2.on fun ps H2 hvs ok2 k2 hq=>?_) fun O O x=>x) he (hplain pos)
 exact wpAny_mono (hq s2 vs ok2 hvs) (fun O O x=>(x.trans k2).trans k1) fun O O x=>x


theorem F3{o:Expr}{name:Str}{apos pos:Pos}{id:String}{e:Expr}{es:List Expr}{Q:PV→AH→Prop}(slot:Slot "list" name id)(hty:typeOf (.builtin id)=pure (.type "method_descriptor"))
  (h:Ev G F o σ H (fun p H1=>∃ a ho,p=.ref a∧H1 a=some ho∧Gl G F (e::es) σ H1 (fun ps H2=>OpL G F.A (fun vs=>call (.builtin id) vs) (.ref a::ps) H2 Q)))
  (hbase:attributeBase o name F.env (eval o F.env)=eval o F.env) (hline:(apos.endLine==pos.line)=true)
  (he:starEach (e::es) F.env=(false,eval e F.env)::starEach es F.env:=by rfl)
  (hfew:∀ pos,((backTo pos (starEach (e::es) F.env)).all (fun x=>!x.1)&&(backToKw pos (keywordEach [] F.env)).all (fun x=>x.1.isSome)
   && decide ((e::es).length+([]:List Keyword).length+(if ([]:List Keyword).isEmpty then 0 else 1)<30))=true:=by intro _;rfl)
  (hplain:∀ pos,(backTo pos (starEach (e::es) F.env)).any (·.1)=false:=by intro _;rfl) :
  Ev G F (.Call (.Attribute o name apos) (e::es) [] pos) σ H Q:=by
 intro s ok lr
 refine wpAny_Call_method hbase (hfew pos) hline PySem.F.plainAttrs_list slot hty (wpAny_mono (h s ok lr) (fun v s1 zz2=>zz2.on fun p H1 hv ok1 k1 zz2_5=>zz2_5.elim fun a zz2_5=>zz2_5.elim fun ho zz2_5=>zz2_5.elim fun hp zz2_5=>zz2_5.elim fun hH hq=>?_) fun O O x=>x)
 subst hp
 rw[show v=.ref a from hv]
 obtain⟨⟨vs,n,hl,_⟩,_⟩:=ok1.hr a ho hH
 refine⟨⟨_,hl,rfl⟩,fun b hb=>?_,?_⟩
 ·cases hb;exact⟨_,hl,rfl⟩
 ·refine Calls.callWith_builtin (hplain pos) ?_
  have hs:=hq s1 pos ok1 (lr.kp ok k1)
  rw[show backTo pos (starEach (e::es) F.env)=(false,eval e F.env)::backTo pos (starEach es F.env)from by rw[he];rfl]at hs ⊢
  refine Calls.evalArgs_plain (wpAny_mono hs (fun vs s2 zz2=>zz2.on fun ps H2 hvs ok2 k2 hq2=>?_) fun O O x=>x)
  exact wpAny_mono (hq2 s2 (.ref a::vs) ok2 ⟨_,_,rfl,rfl,hvs⟩) (fun O O x=>(x.trans k2).trans k1) fun O O x=>x

theorem Ei{o:Expr}{name:Str}{apos pos:Pos}{id:String}{Q:PV→AH→Prop}(slot:Slot "list" name id)(hty:typeOf (.builtin id)=pure (.type "method_descriptor"))
  (h:Ev G F o σ H (fun p H1=>∃ a ho,p=.ref a∧H1 a=some ho∧OpL G F.A (fun vs=>call (.builtin id) vs) [.ref a] H1 Q))
  (hbase:attributeBase o name F.env (eval o F.env)=eval o F.env) (hline:(apos.endLine==pos.line)=true) :
  Ev G F (.Call (.Attribute o name apos) [] [] pos) σ H Q:=by
 intro s ok lr
 refine wpAny_Call_method (args:=[]) hbase rfl hline PySem.F.plainAttrs_list slot hty (wpAny_mono (h s ok lr) (fun v s1 zz2=>zz2.on fun p H1 hv ok1 k1 zz2_5=>zz2_5.elim fun a zz2_5=>zz2_5.elim fun ho zz2_5=>zz2_5.elim fun hp zz2_5=>zz2_5.elim fun hH hq=>?_) fun O O x=>x)
 subst hp
 rw[show v=.ref a from hv]
 refine AJ fun WW9 hW9=>?_
 obtain⟨⟨vs,n,hl,_⟩,_⟩:=ok1.hr a ho hH
 refine hW9 ?_
 clear hW9 WW9
 refine⟨⟨_,hl,rfl⟩,fun b hb=>?_,?_⟩
 ·cases hb;exact⟨_,hl,rfl⟩
 ·refine Calls.callWith_builtin rfl (PyProof.Rows.evalArgs_none ?_)
  exact wpAny_mono (hq s1 [.ref a] ok1 ⟨_,_,rfl,rfl,rfl⟩) (fun O O x=>x.trans k1) fun O O x=>x


theorem AF{Q:PF→Loc→AH→Prop}(h:Q .next σ H):Exs G F [] σ H Q:=fun s ok lr=>wpAny_execs_nil ⟨.next,σ,H,rfl,ok,lr,KpF.refl F.W H s,h⟩
set_option tactic.hygienic true in
theorem AI{st:Stmt}{rest:List Stmt}{Q:PF→Loc→AH→Prop}(h:Ex G F st σ H (fun f σ1 H1=>match f with | .next=>Exs G F rest σ1 H1 Q | f=>Q f σ1 H1)):Exs G F (st::rest) σ H Q:=by
 intro s ok lr
 refine wpAny_execs_cons (wpAny_mono (h s ok lr) (fun f s1 zz2=>zz2.on fun pf σ1 H1 hf ok1 lr1 k1 hq=>?_) fun O O x=>x)
 cases pf with
 | next=>rw[show f=.next from hf];exact wpAny_mono (hq s1 ok1 lr1) (fun O O x=>x.trans k1) fun O O x=>x
 | brk=>rw[show f=.brk from hf];exact⟨.brk,σ1,H1,rfl,ok1,lr1,k1,hq⟩
 | cont=>rw[show f=.cont from hf];exact⟨.cont,σ1,H1,rfl,ok1,lr1,k1,hq⟩
 | ret p=>obtain⟨v,rfl,hv⟩:=id hf;exact⟨.ret p,σ1,H1,hf,ok1,lr1,k1,hq⟩

theorem EF{e:Expr}{pos:Pos}{Q:PF→Loc→AH→Prop}(h:Ev G F e σ H (fun O H1=>Q .next σ H1))(hs:swapsWith e none pos.line F.env=pure false:=by rfl) :
  Ex G F (.Expr e pos) σ H Q:=fun s ok lr =>
 wpAny_Expr_any (wpAny_mono (h s ok lr) (fun v s1 zz2=>by obtain⟨p,H1,hv,ok1,k1,hq⟩:=zz2;exact⟨.next,σ,H1,rfl,ok1,lr.kp ok k1,k1.toF,hq⟩) fun O O x=>x) (by unfold interactive;rw[lr.fn];rfl) hs
theorem Id{pos:Pos}{Q:PF→Loc→AH→Prop}(h:Q .brk σ H):Ex G F (.Break pos) σ H Q:=fun s ok lr=>wpAny_Break ⟨.brk,σ,H,rfl,ok,lr,KpF.refl F.W H s,h⟩
theorem E3{pos:Pos}{Q:PF→Loc→AH→Prop}(h:Q .cont σ H):Ex G F (.Continue pos) σ H Q:=fun s ok lr=>wpAny_Continue ⟨.cont,σ,H,rfl,ok,lr,KpF.refl F.W H s,h⟩
theorem J4{e:Expr}{pos:Pos}{Q:PF→Loc→AH→Prop}(h:Ev G F e σ H (fun p H1=>Q (.ret p) σ H1)):Ex G F (.Return (some e) pos) σ H Q:=fun s ok lr =>
 wpAny_Return_some (wpAny_mono (h s ok lr) (fun v s1 zz2=>by obtain⟨p,H1,hv,ok1,k1,hq⟩:=zz2;exact⟨.ret p,σ,H1,⟨v,rfl,hv⟩,ok1,lr.kp ok k1,k1.toF,hq⟩) fun O O x=>x)
theorem Af{t:Expr}{b o:List Stmt}{pos:Pos}{Q:PF→Loc→AH→Prop}(h:EvB G F t σ H (fun c H1=>if c then Exs G F b σ H1 Q else Exs G F o σ H1 Q)):Ex G F (.If t b o pos) σ H Q:=by
 intro s ok lr
 refine wpAny_If (wpAny_mono (h s ok lr) (fun c s1 zz2=>zz2.on fun H1 ok1 k1 hq=>?_) fun O O x=>x)
 cases c with
 | true=>exact wpAny_mono (hq s1 ok1 (lr.kp ok k1)) (fun O O x=>x.trans k1.toF) fun O O x=>x
 | false=>exact wpAny_mono (hq s1 ok1 (lr.kp ok k1)) (fun O O x=>x.trans k1.toF) fun O O x=>x

set_option tactic.hygienic true in
theorem Aq{x:Str}{npos pos:Pos}{e:Expr}{Q:PF→Loc→AH→Prop}(hk:MD F x)
  (h:Ev G F e σ H (fun p H1=>Q .next (σ.set x p) H1)) (hs:swapsWith e (some (.Name x npos)) pos.line F.env=pure false:=by rfl):Ex G F (.Assign [.Name x npos] e pos) σ H Q:=by
 intro s ok lr
 refine wpAny_Assign_Name (wpAny_mono (h s ok lr) (fun v s1 zz2=>zz2.on fun p H1 hv ok1 k1 hq=>?_) fun O O x=>x) hs
 refine wpAny_mono (BY (Q:=fun σ' H'=>Q .next σ' H') hk ok1 (lr.kp ok k1) hv hq) (fun O s2 zz2=>zz2.on fun σ' H2 ok2 lr2 k2 hq2=>?_) fun O O x=>x
 exact⟨.next,σ',H2,rfl,ok2,lr2,k1.toF.trans k2,hq2⟩

theorem HV{o i:Expr}{spos pos:Pos}{e:Expr}{Q:PF→Loc→AH→Prop}
  (h:Ev G F e σ H (fun p H1=>Ev G F o σ H1 (fun q H2=>Ev G F i σ H2 (fun r H3=>SE G F.A setItem q r p H3 (fun H4=>Q .next σ H4)))))
  (hs:swapsWith e (some (.Subscript o i spos)) pos.line F.env=pure false:=by rfl):Ex G F (.Assign [.Subscript o i spos] e pos) σ H Q:=by
 intro s ok lr
 refine wpAny_Assign_Subscript (wpAny_mono (h s ok lr) (fun v s1 zz2=>zz2.on fun p H1 hv ok1 k1 hq=>wpAny_mono (hq s1 ok1 (lr.kp ok k1)) (fun u s2 ⟨q,H2,hu,ok2,k2,hq2⟩ =>
  wpAny_mono (hq2 s2 ok2 ((lr.kp ok k1).kp ok1 k2)) (fun w s3 zz2=>zz2.on fun r H3 hw ok3 k3 hq3=>?_) fun O O x=>x) fun O O x=>x) fun O O x=>x) hs
 refine wpAny_mono (hq3 s3 u w v ok3 (k3.vr ok2 hu) hw (k3.vr ok2 (k2.vr ok1 hv))) (fun O s4 zz2=>zz2.on fun H4 ok4 k4 hq4=>?_) fun O O x=>x
 have k:=((k1.trans k2).trans k3).trans k4
 exact⟨.next,σ,H4,rfl,ok4,lr.kp ok k,k.toF,hq4⟩

set_option tactic.hygienic true in
theorem JI{x:Str}{npos pos:Pos}{op:Operator}{e:Expr}{p:PV}{Q:PF→Loc→AH→Prop}(hk:MD F x)(hx:σ x=some p)
  (h:Ev G F e σ H (fun q H1=>Cv G F.A (inplaceOp op) p q H1 (fun r H2=>Q .next (σ.set x r) H2))):Ex G F (.AugAssign (.Name x npos) op e pos) σ H Q:=by
 intro s ok lr
 refine wpAny_AugAssign_Name ?_
 have hld:wpAny (model G.prog G.w) F.A (loadName F.env x) (fun v s1=>s1=s∧VR s.heap p v) Bb s:=by
  refine AJ fun WW9 hW9=>?_
  obtain⟨hfr,hodd,hwl,hf,hnk,hg,hbl,⟨m,hn,hm⟩,hki,hce,ha⟩:=id lr
  refine hW9 ?_
  clear hW9 WW9
  rcases hk with hk | ⟨hk,hkw⟩
  ·refine AJ fun WW9 hW9=>?_
   obtain⟨v,h1,h2⟩:=hm x p hx hk
   refine hW9 ?_
   clear hW9 WW9
   exact wpAny_loadName_local hf hk hn h1 ⟨rfl,h2⟩
  ·refine AJ fun WW9 hW9=>?_
   obtain⟨c,v₀,h1,h2,h3⟩:=hce x (.inl hk)
   refine hW9 ?_
   clear hW9 WW9
   refine AJ fun WW9 hW9=>?_
   obtain⟨v,eq9_0,hv⟩:=h3 p hx
   refine hW9 ?_
   clear hW9 WW9
   subst eq9_0
   exact wpAny_loadName_cell hf hk h1 h2 ⟨rfl,hv⟩
 refine wpAny_mono hld (fun v s1 zz2=>zz2.elim fun e1 hv=>?_) fun O O x=>x
 subst e1
 refine wpAny_mono (h _ ok lr) (fun u s1 zz2=>zz2.on fun q H1 hu ok1 k1 hq=>?_) fun O O x=>x
 refine wpAny_mono (hq s1 v u ok1 (k1.vr ok hv) hu) (fun w s2 zz2=>zz2.on fun r H2 hw ok2 k2 hq2=>?_) fun O O x=>x
 refine wpAny_mono (BY (Q:=fun σ' H'=>Q .next σ' H') hk ok2 ((lr.kp ok k1).kp ok1 k2) hw hq2) (fun O s3 zz2=>zz2.on fun σ' H3 ok3 lr3 k3 hq3=>?_) fun O O x=>x
 exact⟨.next,σ',H3,rfl,ok3,lr3,(k1.trans k2).toF.trans k3,hq3⟩
end
end Mine
namespace Mine
variable [zz:Zz]
section
variable {G:Cx} {A:Around} {F:Fx} {σ:Loc} {H:AH}


set_option tactic.hygienic true in
theorem Ls{t:Expr}{b:List Stmt}{pos:Pos}{Q:PF→Loc→AH→Prop}(I:Nat→Loc→AH→Prop)(n:Nat)(h0:I n σ H)
  (hI:∀ n σ' H',I n σ' H'→EvB G F t σ' H' (fun c H1=>if c then Exs G F b σ' H1 (fun f σ2 H2=>match f with
   | .next | .cont=>∃ m,m<n∧I m σ2 H2
   | .brk=>Q .next σ2 H2
   | .ret p=>Q (.ret p) σ2 H2) else Q .next σ' H1)):Ex G F (.While t b [] pos) σ H Q:=by
 intro s ok lr
 refine wpAny_While (codeAny_whileLoop (fun n s'=>∃ σ' H',I n σ' H'∧OkH G H' s'∧LR G F σ' s'.heap∧KpF F.W H s H' s') ?_ n ⟨σ,H,h0,ok,lr,KpF.refl _ _ _⟩)
 intro n s1 zq9
 refine AJ fun WW9 hW9=>?_
 obtain⟨σ1,H1,hi,ok1,lr1,k1⟩:=zq9
 refine hW9 ?_
 clear hW9 WW9
 refine Ak (wpAny_mono (hI n σ1 H1 hi s1 ok1 lr1) (fun c s2 zz2=>zz2.on fun H2 ok2 k2 hq=>?_) fun O O x=>x)
 have lr2:=lr1.kp ok1 k2
 have k12:=k1.trans k2.toF
 cases c with
 | false =>
  simp only[Bool.false_eq_true,if_false]at hq ⊢
  exact wpAny_execs_nil ⟨.next,σ1,H2,rfl,ok2,lr2,k12,hq⟩
 | true =>
  simp only[if_true]at hq ⊢
  refine Ak (wpAny_mono (hq s2 ok2 lr2) (fun f s3 zz2=>zz2.on fun pf σ3 H3 hf ok3 lr3 k3 hq3=>?_) fun O O x=>x)
  cases pf with
  | next=>rw[show f=.next from hf];obtain⟨m,hm,hi'⟩:=hq3;exact⟨m,hm,σ3,H3,hi',ok3,lr3,k12.trans k3⟩
  | cont=>rw[show f=.cont from hf];obtain⟨m,hm,hi'⟩:=hq3;exact⟨m,hm,σ3,H3,hi',ok3,lr3,k12.trans k3⟩
  | brk=>rw[show f=.brk from hf];exact⟨.next,σ3,H3,rfl,ok3,lr3,k12.trans k3,hq3⟩
  | ret p=>obtain⟨v,rfl,hv⟩:=id hf;exact⟨.ret p,σ3,H3,hf,ok3,lr3,k12.trans k3,hq3⟩



noncomputable def Mq(o:Obj):Prop:=¬ FK o∧¬ Bp o∧¬ Soft o∧¬ Low o

noncomputable def OddZ(b:Addr)(o:Obj):Prop:=(Zz.z b→Tup o)∧(¬ Zz.z b→Mq o)
omit [Zz] in
theorem Tup.not_lst{o:Obj}(h:Tup o):¬ Bp o:=Low.not_lst (.inr (.inr h))
omit [Zz] in
theorem Tup.not_soft{o:Obj}(h:Tup o):¬ Soft o:=by
 rintro(h1 | ⟨ps,rfl,_⟩)
 ·exact Low.not_dc (.inr (.inr h)) h1
 ·cases h.1
theorem OddZ.not_lst{b:Addr}{o:Obj}(h:OddZ b o):¬ Bp o:=by
 by_cases hz:Zz.z b
 ·exact(h.1 hz).not_lst
 ·exact(h.2 hz).2.1
theorem OddZ.not_soft{b:Addr}{o:Obj}(h:OddZ b o):¬ Soft o:=by
 by_cases hz:Zz.z b
 ·exact(h.1 hz).not_soft
 ·exact(h.2 hz).2.2.1
theorem OddZ.not_fix{b:Addr}{o:Obj}(h:OddZ b o):¬ DS b o:=by
 by_cases hz:Zz.z b
 ·rintro⟨_,h2⟩;exact h2.elim (absurd hz) (absurd (h.1 hz))
 ·exact fun h1=>(h.2 hz).1 h1.1
theorem OddZ.of{b:Addr}{h:Heap}(hz:¬ Zz.z b)(x:∃ o,h.get? b=some o∧Mq o):∃ o,h.get? b=some o∧OddZ b o:=let ⟨o,h1,h2⟩:=x;⟨o,h1,fun h=>absurd h hz,fun O=>h2⟩
theorem Hy{s:Shared}(ok:OkH G H s){b:Addr}(x:∃ o,s.heap.get? b=some o∧Mq o):¬ Zz.z b:=fun hz=>by
 obtain⟨o,h1,h2⟩:=x;obtain⟨o',h3,h4⟩:=ok.tab.1 b hz
 rw[h1]at h3;(replace h3:=Option.some.inj h3;subst h3);exact h2.2.2.2 (.inr (.inr h4))
theorem BP{s:Shared}(ok:OkH G H s){b:Addr}(x:s.heap.get? b=none):¬ Zz.z b:=fun hz=>by
 obtain⟨o',h3,h4⟩:=ok.tab.1 b hz
 rw[x]at h3;injection h3
structure J7 (G:Cx) (A:Around) (target:Expr) (H:AH) (h:Heap) (I:Addr) (xs:List PV) (fp wr:List Addr) (P Md:Nat→Value→Heap→Prop) (St:Nat→Heap→Prop):Prop where
 K:KTurns G.prog G.w A target I fp wr xs.length P Md St
 st:St 0 h
 odd:∀ i h,St i h→∀ b∈wr,∃ o,h.get? b=some o∧OddZ b o
 oddM:∀ i v h,Md i v h→∀ b∈wr,∃ o,h.get? b=some o∧OddZ b o
 base:∀ b∈wr,G.base.get? b=none
 self:∀(s:Shared) (Q:Value→Shared→Prop) (E:Value→Shared→Prop),St 0 s.heap→Q (.ref I) s→wpAny (model G.prog G.w) A (pyIter (.ref I)) Q E s
 src:∀ b∈fp,b∈wr∨∃ o,h.get? b=some o∧¬ Ct H b∧¬ Soft o
 val:∀ i v h',(∀ b o,DS b o→h.get? b=some o→h'.get? b=some o)→i<xs.length→P i v h'→∃ x,xs[i]?=some x∧VR h' x v


theorem My{s:Shared}{wr:List Addr}{h':Heap}(hw:∀ b∈wr,∃ o,s.heap.get? b=some o∧OddZ b o)(hk:∀ b o,b∉wr→s.heap.get? b=some o→h'.get? b=some o):∀ b o,s.heap.get? b=some o→DS b o∨Bp o∨Soft o→h'.get? b=some o:=fun b o e hd=>hk b o (fun hm=>by
  obtain⟨o',ho',hod⟩:=hw b hm;rw[ho']at e;(replace e:=Option.some.inj e;subst e)
  rcases hd with h | h | h
  ·exact hod.not_fix h
  ·exact hod.not_lst h
  ·exact hod.not_soft h) e
theorem Iu{s:Shared}{wr:List Addr}{h':Heap}{tk:Nat}(ok:OkH G H s)(hb:∀ b∈wr,G.base.get? b=none)(hw:∀ b∈wr,∃ o,s.heap.get? b=some o∧OddZ b o)(hw':∀ b∈wr,Zz.z b→∃ o,h'.get? b=some o∧Tup o)(hk:∀ b o,b∉wr→s.heap.get? b=some o→h'.get? b=some o) :
  OkH G H { s with heap:=h',toks:=tk }:=by
 have k:=My hw hk
 refine⟨fun b o e=>hk b o (fun hm=>by rw[hb b hm]at e;injection e) (ok.keep b o e),ok.hr.otherZ fun b o e hd=>k b o e (hd.imp id .inl),ok.gens,ok.dat.dc fun b o hd O e=>k b o e (.inr (.inr (.inl hd))),fun b hz=>?_,fun P hP=>?_⟩
 ·by_cases hm:b∈wr
  ·exact hw' b hm hz
  ·obtain⟨o,h1,h2⟩:=ok.tab.1 b hz;exact⟨o,hk b o hm h1,h2⟩
 ·refine AJ fun WW9 hW9=>?_
  obtain⟨ps,h1,h2,h3⟩:=ok.tab.2 P hP
  refine hW9 ?_
  clear hW9 WW9
  refine⟨ps,k _ _ h1 (.inr (.inr (.inr ⟨_,rfl,h2⟩))),h2,fun pos cv e=>?_⟩
  refine AJ fun WW9 hW9=>?_
  obtain⟨c,o,vs,t,g1,g2,g4,g5⟩:=h3 pos cv e
  refine hW9 ?_
  clear hW9 WW9
  exact⟨c,o,vs,t,g1,k _ _ g2 (.inl (LU (IL ⟨vs,_,_,g4,g5⟩) (by rintro⟨_,vs',n,h⟩;rw[g4]at h;injection h))),g4,g5⟩
theorem CZ{s:Shared}{wr:List Addr}{h':Heap}{tk:Nat}(ok:OkH G H s)(lr:LR G F σ s.heap)(hb:∀ b∈wr,G.base.get? b=none)(hw:∀ b∈wr,∃ o,s.heap.get? b=some o∧OddZ b o)(hw':∀ b∈wr,Zz.z b→∃ o,h'.get? b=some o∧Tup o)(hk:∀ b o,b∉wr→s.heap.get? b=some o→h'.get? b=some o) :
  OkH G H { s with heap:=h',toks:=tk }∧LR G F σ h' :=
 have k:=My hw hk
 ⟨Iu ok hb hw hw' hk,lr.at (fun b o hd e=>⟨o,k b o e (.inr (.inr (.inl hd))),rfl⟩) fun p v hv=>VR.monoZ (fun b o hf e=>k b o e (.inl hf)) p v hv⟩
theorem Hw{wr:List Addr}{h:Heap}(x:∀ b∈wr,∃ o,h.get? b=some o∧OddZ b o):∀ b∈wr,Zz.z b→∃ o,h.get? b=some o∧Tup o:=fun b hb hz=>let ⟨o,h1,h2⟩:=x b hb;⟨o,h1,h2.1 hz⟩


structure KpI (W:Addr→Prop) (wr:List Addr) (H:AH) (s:Shared) (H':AH) (s':Shared):Prop where
 os:s'.os=s.os
 kept:∀ b o,s.heap.get? b=some o→¬ Ct H b→¬ W b→b∉wr→Near s'.heap b o
 dom:∀ b o,H' b=some o→s.heap.get? b=none∨b∈wr∨∃ o',H b=some o'∧(o.isL=true→o'.isL=true)
 live:∀ b o,s.heap.get? b=some o→¬ Ct H b→W b→b∉wr→∃ o',s'.heap.get? b=some o'
omit [Zz] in
theorem KpI.nm{W:Addr→Prop}{wr:List Addr}{H H':AH}{s s':Shared}(x:KpI W wr H s H' s'){b:Addr}{o:Obj}(e:s.heap.get? b=some o)(hm:¬ Ct H b)(hw:b∉wr):¬ Ct H' b:=fun zz0=>zz0.elim fun xs hx=>by
 rcases x.dom b _ hx with h | h | ⟨o',h1,h2⟩
 ·rw[h]at e;injection e
 ·exact hw h
 ·cases o' with
  | lst ys=>exact hm ⟨ys,h1⟩
  | fro ys=>exact absurd (h2 rfl) (by simp[HO.isL])
omit [Zz] in
theorem KpI.back{W:Addr→Prop}{wr:List Addr}{H H':AH}{s s':Shared}(x:KpI W wr H s H' s'){b:Addr}(hm:¬ Ct H b)(h:s'.heap.get? b=.none):s.heap.get? b=.none∨b∈wr:=by
 cases e:s.heap.get? b with
 | none=>exact .inl rfl
 | some o =>
  by_cases hw:b∈wr
  ·exact .inr hw
  ·by_cases hno:W b
   ·obtain⟨o',ho'⟩:=x.live b o e hm hno hw;rw[ho']at h;injection h
   ·exact((x.kept b o e hm hno hw).ne h).elim
theorem KpI.trans{W:Addr→Prop}{wr:List Addr}{H H' H'':AH}{s s' s'':Shared}(x:KpI W wr H s H' s')(y:KpI W wr H' s' H'' s''):KpI W wr H s H'' s'':=by
 refine⟨y.os.trans x.os,fun b o e hm hno hw=>(x.kept b o e hm hno hw).step fun o' e'=>y.kept b o' e' (x.nm e hm hw) hno hw,fun b o e=>?_,fun b o e hm ho hw=>?_⟩
 ·rcases y.dom b o e with h | h | ⟨o',h1,h2⟩
  ·cases hb:H b with
   | none=>exact(x.back (Ah hb) h).imp id .inl
   | some o' =>
    cases o' with
    | lst ys=>exact .inr (.inr ⟨_,rfl,fun O=>rfl⟩)
    | fro ys=>exact(x.back (AS hb) h).imp id .inl
  ·exact .inr (.inl h)
  ·rcases x.dom b o' h1 with h3 | h3 | ⟨o'',h3,h4⟩
   ·exact .inl h3
   ·exact .inr (.inl h3)
   ·exact .inr (.inr ⟨o'',h3,fun h=>h4 (h2 h)⟩)
 ·obtain⟨o',ho'⟩:=x.live b o e hm ho hw
  exact y.live b o' ho' (x.nm e hm hw) ho hw
omit [Zz] in
theorem KpF.toI{W:Addr→Prop}{wr:List Addr}{H H':AH}{s s':Shared}(x:KpF W H s H' s'):KpI W wr H s H' s' :=
 ⟨x.os,fun b o e hm hw O=>x.kept b o e hm hw,fun b o hb=>(x.dom b o hb).imp id .inr,fun b o e hm hw O=>x.live b o e hm hw⟩
omit [Zz] in
theorem CB{W:Addr→Prop}{s:Shared}{wr:List Addr}{h':Heap}{tk:Nat}(hk:∀ b o,b∉wr→s.heap.get? b=some o→h'.get? b=some o) :
  KpI W wr H s H { s with heap:=h',toks:=tk } :=
 ⟨rfl,fun b o e O O hb=>.of (hk b o hb e),fun b o h=>.inr (.inr ⟨o,h,id⟩),fun b o e O O hb=>⟨o,hk b o hb e⟩⟩

theorem KpI.after{W:Addr→Prop}{wr:List Addr}{H H':AH}{s0 s s':Shared}(k:Kp H s0 H s)(x:KpI W wr H s H' s')(hw:∀ b∈wr,s0.heap.get? b=none):KpF W H s0 H' s':=by
 have nw:∀ b o,s0.heap.get? b=some o→b∉wr:=fun b o e hb=>by rw[hw b hb]at e;injection e
 refine⟨x.os.trans k.os,fun b o e hm hno=>(k.kept b o e hm).step fun o' e'=>x.kept b o' e' hm hno (nw b o e),fun b o hb=>?_,fun b o e hm hno=>by
  obtain⟨o',e',_⟩:=k.kept b o e hm;exact x.live b o' e' hm hno (nw b o e)⟩
 rcases x.dom b o hb with h | h | h
 ·cases hb:H b with
  | none=>exact .inl (k.back (Ah hb) h)
  | some o' =>
   cases o' with
   | lst ys=>exact .inr ⟨_,rfl,fun O=>rfl⟩
   | fro ys=>exact .inl (k.back (AS hb) h)
 ·exact .inl (hw b h)
 ·exact .inr h

inductive Rl (G:Cx) (F:Fx) (n:Nat) (fp wr:List Addr) (St:Nat→Heap→Prop) (inv:Nat→Loc→AH→Prop) (H:AH) (s:Shared) (k:Nat) (s':Shared):Prop where
 | mk (i:Nat) (σ':Loc) (H':AH) (e:k=n+1 - i) (hi:i≤n) (hinv:inv i σ' H') (ok:OkH G H' s') (lr:LR G F σ' s'.heap) (kp:KpI F.W wr H s H' s') (st:St i s'.heap)
   (src:∀ b∈fp,b∈wr∨∃ o,s.heap.get? b=some o∧s'.heap.get? b=some o∧¬ Ct H' b∧¬ Soft o) (fx:∀ b o,DS b o→s.heap.get? b=some o→s'.heap.get? b=some o):Rl G F n fp wr St inv H s k s'
set_option tactic.hygienic true in
theorem HK{target:Expr}{body:List Stmt}{I:Addr}{xs:List PV}{fp wr:List Addr}{P Md:Nat→Value→Heap→Prop}{St:Nat→Heap→Prop}{s:Shared}{Q:PF→Loc→AH→Prop}{E:Value→Shared→Prop}
  (S:J7 G F.A target H s.heap I xs fp wr P Md St) (hnz:∀ b∈wr,¬ Zz.z b) (ok:OkH G H s) (lr:LR G F σ s.heap) (inv:Nat→Loc→AH→Prop) (h0:inv 0 σ H)
  (step:∀ i x σ' H',xs[i]?=some x→inv i σ' H'→As G F target x σ' H' (fun σ2 H2=>Exs G F body σ2 H2 (fun f σ3 H3=>match f with
   | .next | .cont=>inv (i+1) σ3 H3
   | .brk=>Q .next σ3 H3
   | .ret p=>Q (.ret p) σ3 H3)))
  (fin:∀ σ' H',inv xs.length σ' H'→Q .next σ' H') :
  codeAny (model G.prog G.w) F.A (.forLoop target (.ref I) body [] F.env) (fun r s'=>match r with
   | .ok f=>∃ pf σ' H',FR s'.heap pf f∧OkH G H' s'∧LR G F σ' s'.heap∧KpI F.W wr H s H' s'∧Q pf σ' H'
   | .error e=>E e s') s:=by
 have notW:∀(σ':Loc) (h:Heap) b,LR G F σ' h→(∃ o,h.get? b=some o∧¬ DC o)→¬ F.W b:=fun σ' h b lr' zz4 hw=>zz4.elim fun o zz4=>zz4.elim fun ho hd=>by
  obtain⟨o',ho',hd'⟩:=lr'.odd b hw;rw[ho']at ho;(replace ho:=Option.some.inj ho;subst ho);exact hd hd'
 refine codeAny_forLoop_any (Rl G F xs.length fp wr St inv H s) ?_ (xs.length+1)
  ⟨0,σ,H,rfl,Nat.zero_le _,h0,ok,lr,(KpF.refl _ _ _).toI,S.st,fun b hb=>(S.src b hb).imp id fun zz0=>by obtain⟨o,h1,h2,h3⟩:=zz0;exact⟨o,h1,h1,h2,h3⟩,fun O O O e=>e⟩
 rintro k s1 ⟨i,σ1,H1,rfl,hi,hinv,ok1,lr1,k1,hst,hsrc,hfix⟩
 have oddM:∀ b∈wr,¬ Ct H1 b:=fun b hb hm=>by
  obtain⟨o,ho,hod⟩:=S.odd i _ hst b hb
  obtain⟨xs,hx⟩:=hm
  obtain⟨⟨vs,n,hl,_⟩,_⟩:=ok1.hr b _ hx
  rw[hl]at ho;(replace ho:=Option.some.inj ho;subst ho);exact hod.not_lst (Ab _ _)
 have fixk:∀(h h':Heap),(∀ b∈wr,∃ o,h.get? b=some o∧OddZ b o)→(∀ b o,b∉wr→h.get? b=some o→h'.get? b=some o)→∀ b o,DS b o→h.get? b=some o→h'.get? b=some o:=fun h h' hw hk b o hf e =>
  hk b o (fun hm=>by obtain⟨o',ho',hod⟩:=hw b hm;rw[ho']at e;(replace e:=Option.some.inj e;subst e);exact hod.not_fix hf) e
 by_cases hlt:i<xs.length
 ·refine Ak (S.K.item i s1 _ _ hlt hst fun v h2 tk2 hmd hk2=>?_)
  obtain⟨ok2,lr2⟩:=CZ (tk:=tk2) ok1 lr1 S.base (S.odd i _ hst) (Hw (S.oddM i v h2 hmd)) hk2
  have hw2:=S.oddM i v h2 hmd
  refine S.K.go i v _ _ _ hmd fun h3 hP hst3 hk3=>?_
  obtain⟨ok3,lr3⟩:=CZ (s:={ s1 with heap:=h2,toks:=tk2 }) (tk:=tk2) ok2 lr2 S.base hw2 (Hw (S.odd _ _ hst3)) hk3
  have k3:KpI F.W wr H s H1 { s1 with heap:=h3,toks:=tk2 }:=(k1.trans (CB (tk:=tk2) hk2)).trans (CB (s:={ s1 with heap:=h2,toks:=tk2 }) (tk:=tk2) hk3)
  have hfix3:∀ b o,DS b o→s.heap.get? b=some o→h3.get? b=some o:=fun b o hf e=>fixk _ _ hw2 hk3 b o hf (fixk _ _ (S.odd i _ hst) hk2 b o hf (hfix b o hf e))
  obtain⟨x,hx,hv⟩:=S.val i v h3 hfix3 hlt hP
  have hsrc3:∀ b∈fp,b∈wr∨∃ o,s.heap.get? b=some o∧h3.get? b=some o∧¬ Ct H1 b∧¬ Soft o:=fun b hb=>by
   by_cases hbw:b∈wr
   ·exact .inl hbw
   ·rcases hsrc b hb with h | ⟨o,h1,h2,h3,h4⟩
    ·exact .inl h
    ·exact .inr ⟨o,h1,hk3 b o hbw (hk2 b o hbw h2),h3,h4⟩
  refine Ak (wpAny_mono (step i x σ1 H1 hx hinv _ v ok3 lr3 hv) (fun O s4 zz2=>zz2.on fun σ4 H4 ok4 lr4 k4 hex=>?_) fun O O x=>x)
  refine Ak (wpAny_mono (hex s4 ok4 lr4) (fun f s5 zz2=>zz2.on fun pf σ5 H5 hf ok5 lr5 k5 hq5=>?_) fun O O x=>x)
  have k45:=k4.trans k5
  have kall:=k3.trans k45.toI
  have keep5:∀ b o,h3.get? b=some o→¬ Ct H1 b→¬ Soft o→s5.heap.get? b=some o:=fun b o e hm hd=>(k45.kept b o e hm (notW σ1 h3 b lr3 ⟨o,e,fun h=>hd (.inl h)⟩)).hard hd
  have st5:St (i+1) s5.heap:=S.K.frame _ _ _ hst3 fun b hb o e=>by
   rcases hsrc3 b hb with h | ⟨o',h1,h2,h3,h4⟩
   ·obtain⟨o',ho',hod⟩:=S.odd _ _ hst3 b h
    rw[ho']at e;(replace e:=Option.some.inj e;subst e)
    exact keep5 b _ ho' (oddM b h) hod.not_soft
   ·rw[h2]at e;(replace e:=Option.some.inj e;subst e);exact keep5 b _ h2 h3 h4
  have src5:∀ b∈fp,b∈wr∨∃ o,s.heap.get? b=some o∧s5.heap.get? b=some o∧¬ Ct H5 b∧¬ Soft o:=fun b hb=>by
   rcases hsrc3 b hb with h | ⟨o',h1,h2,h3,h4⟩
   ·exact .inl h
   ·exact .inr ⟨o',h1,keep5 b _ h2 h3 h4,k45.nm (s:={ s1 with heap:=_,toks:=tk2 }) h2 h3,h4⟩
  have fix5:∀ b o,DS b o→s.heap.get? b=some o→s5.heap.get? b=some o:=fun b o hf e =>
   keep5 b o (hfix3 b o hf e) (Aw ok3.hr (hfix3 b o hf e) (A5 hf.1)) (BJ hf.1)
  cases pf with
  | next=>rw[show f=.next from hf];exact⟨xs.length+1 - (i+1),by exact MZ hlt,i+1,σ5,H5,rfl,hlt,hq5,ok5,lr5,kall,st5,src5,fix5⟩
  | cont=>rw[show f=.cont from hf];exact⟨xs.length+1 - (i+1),by exact MZ hlt,i+1,σ5,H5,rfl,hlt,hq5,ok5,lr5,kall,st5,src5,fix5⟩
  | brk=>rw[show f=.brk from hf];exact⟨.next,σ5,H5,rfl,ok5,lr5,kall,hq5⟩
  | ret p=>obtain⟨v,rfl,hv⟩:=id hf;exact⟨.ret p,σ5,H5,hf,ok5,lr5,kall,hq5⟩
 ·have hin:i=xs.length:=by exact Nat.le_antisymm hi (Nat.not_lt.mp hlt)
  subst hin
  refine Ak (S.K.done s1 _ _ hst fun h2 tk2 hk2=>?_)
  obtain⟨ok2,lr2⟩:=CZ (tk:=tk2) ok1 lr1 S.base (S.odd _ _ hst) (fun b hb hz=>absurd hz (hnz b hb)) hk2
  exact wpAny_execs_nil ⟨.next,σ1,H1,rfl,ok2,lr2,k1.trans (CB (tk:=tk2) hk2),fin σ1 H1 hinv⟩


inductive PostI (G:Cx) (A:Around) (target:Expr) (H:AH) (s:Shared) (xs:List PV) (it:Value) (s':Shared):Prop where
 | mk (I:Addr) (fp wr:List Addr) (P Md:Nat→Value→Heap→Prop) (St:Nat→Heap→Prop) (e:it=.ref I) (ok:OkH G H s') (k:Kp H s H s') (hw:∀ b∈wr,s.heap.get? b=none) (S:J7 G A target H s'.heap I xs fp wr P Md St):PostI G A target H s xs it s'
theorem PostI.on{G:Cx}{A:Around}{target:Expr}{H:AH}{s:Shared}{xs:List PV}{it:Value}{s':Shared}{W:Prop}(x:PostI G A target H s xs it s')(f:∀(I:Addr) (fp wr:List Addr) (P Md:Nat→Value→Heap→Prop) (St:Nat→Heap→Prop),it=.ref I→OkH G H s'→Kp H s H s'→(∀ b∈wr,s.heap.get? b=none)→J7 G A target H s'.heap I xs fp wr P Md St→W):W:=by cases x with | mk I fp wr P Md St h1 h2 h3 h4 h5=>exact f I fp wr P Md St h1 h2 h3 h4 h5

noncomputable def F2(G:Cx)(A:Around)(target:Expr)(p:PV)(H:AH)(xs:List PV):Prop :=
 ∀ s v,OkH G H s→VR s.heap p v→wpAny (model G.prog G.w) A (pyIter v) (PostI G A target H s xs) Bb s

theorem QS{H':AH}{s s':Shared}{wr:List Addr}(ok:OkH G H s)(_:Kp H s H' s')(hw:∀ b∈wr,s.heap.get? b=none):∀ b∈wr,¬ Zz.z b:=fun b hb=>BP ok (hw b hb)
set_option tactic.hygienic true in
theorem QM{target iter:Expr}{body:List Stmt}{pos:Pos}{Q:PF→Loc→AH→Prop}
  (h:Ev G F iter σ H (fun p H1=>∃(xs:List PV) (inv:Nat→Loc→AH→Prop),F2 G F.A target p H1 xs∧inv 0 σ H1 ∧
   (∀ i x σ' H',xs[i]?=some x→inv i σ' H'→As G F target x σ' H' (fun σ2 H2=>Exs G F body σ2 H2 (fun f σ3 H3=>match f with
    | .next | .cont=>inv (i+1) σ3 H3
    | .brk=>Q .next σ3 H3
    | .ret p=>Q (.ret p) σ3 H3))) ∧
   (∀ σ' H',inv xs.length σ' H'→Q .next σ' H')))
  (hs:∀ x,foldedSetIterable iter F.env x=pure x):Ex G F (.For target iter body [] pos) σ H Q:=by
 intro s ok lr
 refine wpAny_For (wpAny_mono (h s ok lr) (fun v s1 zz2=>zz2.on fun p H1 hv ok1 k1 zz2_5=>zz2_5.elim fun xs zz2_5=>zz2_5.elim fun inv zz2_5=>zz2_5.elim fun hit zz2_5=>zz2_5.elim fun h0 zz2_5=>zz2_5.elim fun hstep hfin=>?_) fun O O x=>x) hs
 refine wpAny_mono (hit s1 v ok1 hv) (fun it s2 zz2=>zz2.on fun I fp wr P Md St e ok2 k2 hw S=>?_) fun O O x=>x
 subst e
 refine codeAny_mono (HK (E:=fun e s'=>cameBackBy (model G.prog G.w) F.A F.env Bb e s') S (QS ok1 k2 hw) ok2 ((lr.kp ok k1).kp ok1 k2) inv h0 hstep hfin) fun r s' hr=>?_
 cases r with
 | error e=>exact hr
 | ok f =>
  obtain⟨pf,σ',H',hf,ok',lr',k',hq⟩:=hr
  exact⟨pf,σ',H',hf,ok',lr',k1.toF.trans (KpI.after k2 k' hw),hq⟩


theorem HJ{s:Shared}{a:Addr}{ho:HO}(ok:OkH G H s)(hH:H a=some ho):OkH G (H.set a (.fro ho.items)) s :=
 ⟨ok.keep,fun b o e=>by
  unfold AH.set at e
  by_cases hb:b=a
  ·rw[if_pos hb]at e;(replace e:=Option.some.inj e;subst e);subst hb
   exact⟨(ok.hr _ _ hH).1,fun xs e=>by cases e⟩
  ·rw[if_neg hb]at e;exact ok.hr b o e,ok.gens,ok.dat,ok.tab⟩
omit [Zz] in
theorem frz_mut{a b:Addr}{xs:List PV}:Ct (H.set a (.fro xs)) b↔b≠a∧Ct H b:=by
 unfold Ct AH.set
 by_cases hb:b=a
 ·simp[hb]
 ·simp[hb]
theorem MK{H':AH}{s s':Shared}{a:Addr}{ho:HO}(ok:OkH G H s)(hH:H a=some ho)(ok':OkH G H' s')(hk:∀ o,s.heap.get? a=some o→s'.heap.get? a=some o)(hv:∀ ps vs,VRs s.heap ps vs→VRs s'.heap ps vs) :
  OkH G (H'.set a ho) s':=⟨ok'.keep,fun b o e=>by
  unfold AH.set at e
  by_cases hb:b=a
  ·rw[if_pos hb]at e;(replace e:=Option.some.inj e;subst e);subst hb
   obtain⟨⟨vs,n,hl,hvs,hz⟩,hbase⟩:=ok.hr _ _ hH
   exact⟨⟨vs,n,hk _ hl,hv _ _ hvs,hz⟩,hbase⟩
  ·rw[if_neg hb]at e;exact ok'.hr b o e,ok'.gens,ok'.dat,ok'.tab⟩
theorem Ix{s:Shared}{a:Addr}{ho:HO}(ok:OkH G H s)(hH:H a=some ho):∃ o,s.heap.get? a=some o∧¬ Soft o:=by
 obtain⟨⟨vs,n,hl,_⟩,_⟩:=ok.hr _ _ hH
 exact⟨_,hl,fun hd=>hd.not_solid (.inr (Ab _ _))⟩
theorem KpF.thaw{H':AH}{s s':Shared}{a:Addr}{ho:HO}(ok:OkH G H s)(lr:LR G F σ s.heap)(hH:H a=some ho)(k:KpF F.W (H.set a (.fro ho.items)) s H' s'):KpF F.W H s (H'.set a ho) s'∧∀ o,s.heap.get? a=some o→s'.heap.get? a=some o:=by
 refine⟨⟨k.os,fun b o e hm hw=>k.kept b o e (fun h=>hm (frz_mut.mp h).2) hw,fun b o hb=>?_,fun b o e hm hw=>k.live b o e (fun h=>hm (frz_mut.mp h).2) hw⟩,fun o e=>k.odd_kept lr e (fun h=>(frz_mut.mp h).1 rfl) ?_⟩
 ·unfold AH.set at hb
  by_cases hba:b=a
  ·rw[if_pos hba]at hb;(replace hb:=Option.some.inj hb;subst hb);subst hba
   exact .inr ⟨_,hH,id⟩
  ·rw[if_neg hba]at hb
   rcases k.dom b o hb with h | ⟨o',h1,h2⟩
   ·exact .inl h
   ·unfold AH.set at h1;rw[if_neg hba]at h1;exact .inr ⟨o',h1,h2⟩
 ·refine AJ fun WW9 hW9=>?_
  obtain⟨o',ho',hd⟩:=Ix ok hH
  refine hW9 ?_
  clear hW9 WW9
  rw[ho']at e;(replace e:=Option.some.inj e;subst e);exact hd
theorem PostF.thaw{s s':Shared}{a:Addr}{ho:HO}{Q:PF→Loc→AH→Prop}{f:Flow}(ok:OkH G H s)(lr:LR G F σ s.heap)(hH:H a=some ho)
  (x:PostF G F (H.set a (.fro ho.items)) s (fun f σ' H'=>Q f σ' (H'.set a ho)) f s'):PostF G F H s Q f s':=by
 obtain⟨pf,σ',H',hf,ok',lr',k',hq⟩:=x
 obtain⟨k2,ka⟩:=k'.thaw ok lr hH
 exact⟨pf,σ',_,hf,MK ok hH ok' ka (fun ps vs h=>k'.vrs (HJ ok hH) lr h),lr',k2,hq⟩


omit [Zz] in
theorem DZ{c:String}{fs:Array Value}(h:c ≠ "tuple" ∧ c ≠ "range" ∧ c ≠ "function" ∧ c ≠ "list" ∧ c ≠ "object")(hf:∀ q t,fs[1]?≠some (Value.str q t)):Mq { cls:=.type c,data:=.fields fs }:=by
 refine⟨?_,?_,?_,?_⟩
 ·rintro(⟨h1 | h1 | h1 | h1,_⟩ | ⟨vs,q,t,h1,h2⟩)
  ·simp at h1;exact h.1 h1
  ·simp at h1;exact h.2.1 h1
  ·simp at h1;exact h.2.2.1 h1
  ·simp at h1;exact h.2.2.2.2 h1
  ·cases h1;exact hf q t h2
 ·rintro⟨h1,_⟩;simp at h1;exact h.2.2.2.1 h1
 ·rintro((⟨es,n,h1⟩ | ⟨v,h1⟩) | ⟨ps,h1,_⟩)<;>cases h1
 ·rintro(⟨ps,h1,_⟩ | ⟨vs,q,t,h1,h2⟩ | ⟨_,vs,n,h1⟩)
  ·cases h1
  ·cases h1;exact hf q t h2
  ·injection h1
omit [Zz] in
theorem Ai{h:Heap}{I l:Addr}{i:Nat}(x:h.IsListIter I l i):∃ o,h.get? I=some o∧Mq o:=by
 obtain⟨o,ho,hc,hd⟩:=x
 have hnc:¬ Mt o:=by
  rintro⟨vs,q,t,h1,h2⟩
  first
   | (rw[hd]at h1;cases h1;simp at h2)
   | (obtain⟨_,hd⟩:=hd;rw[hd]at h1;cases h1;simp at h2)
 refine⟨o,ho,?_,?_,?_,?_⟩
 ·rintro(⟨h1 | h1 | h1 | h1,_⟩ | h1)
  any_goals (rw[hc]at h1;simp at h1)
  exact hnc h1
 ·rintro⟨h1,_⟩;rw[hc]at h1;simp at h1
 ·rintro((⟨es,n,h1⟩ | ⟨v,h1⟩) | ⟨ps,rfl,_⟩)<;>(first | (rw[hd]at h1;injection h1) | injection hc)
 ·rintro(⟨ps,rfl,_⟩ | h1 | ⟨h1,_⟩)
  ·injection hc
  ·exact hnc h1
  ·rw[hc]at h1;simp at h1
end
end Mine
namespace Mine
variable [zz:Zz]
section
variable {G:Cx} {A:Around} {F:Fx} {σ:Loc} {H:AH}

omit [Zz] in
theorem CM{prog:Program}{w:World}{A:Around}{target:Expr}{I:Addr}{v:Value}{s:Shared}{Q:Unit→Shared→Prop}{E:Value→Shared→Prop}{o:Obj}{T:String}
  (ho:s.heap.get? I=some o) (hc:o.cls=.type T)
  (hT:["enumerate", "zip", "dict_itemiterator", "dict_reverseitemiterator", "odict_iterator", "itertools.zip_longest", "itertools.pairwise"].contains T=false) (h:Q () s) :
  wpAny (model prog w) A (letOwnedTupleGo target (.ref I) v) Q E s:=by
 have key:∀ a,wpAny (model prog w) A (do
   let o ← load I
   match o.cls,o.data with
   | .type n,.fields vs =>
    if ["enumerate", "zip", "dict_itemiterator", "dict_reverseitemiterator", "odict_iterator", "itertools.zip_longest", "itertools.pairwise"].contains n&&vs[0]?==some (rawInt a) then
     rule "for.unpacks-the-owned-tuple"
     updateField I 0 .none
   | _,_=>pure ():Sem Unit) Q E s:=fun a=>by
  refine wpAny_bind (wpAny_load ho ?_)
  obtain⟨cl,d,dt,sl⟩:=o
  simp only at hc;subst hc
  cases dt<;>first
   | exact wpAny_pure h
   | (simp only[hT,Bool.false_and,Bool.false_eq_true,if_false];exact wpAny_pure h)
 cases target<;>first | exact wpAny_pure h | (cases v<;>first | exact wpAny_pure h | exact key _)

theorem BH{target:Expr}{a:Addr}{ho:HO}(hA:A.handled=none)(hH:H a=some ho)(hnm:¬ Ct H a):F2 G A target (.ref a) H ho.items:=by
 rintro s _ ok rfl
 obtain⟨⟨vs,n,hl,hv,hz⟩,_⟩:=id (ok.hr a ho hH)
 refine wpAny_pyIter_list hl.isList ?_
 obtain⟨ok',k'⟩:=Bn ok { cls:=.type "list_iterator", data:=.fields #[.ref a,.int 0 0] }
 have hfr:s.heap.get? s.heap.objs.size=none:=by
  cases e:s.heap.get? s.heap.objs.size with
  | none=>rfl
  | some o=>exact absurd (Heap.lt_size e) (Nat.lt_irrefl _)
 have hne:a≠s.heap.objs.size:=by intro e;have h2:s.heap.get? a=some _:=hl;rw[e,hfr]at h2;injection h2
 have hit:(s.heap.push { cls:=.type "list_iterator", data:=.fields #[.ref a,.int 0 0] }).IsListIter s.heap.objs.size a 0:=⟨_,Heap.get?_push_size _ rfl,rfl,rfl⟩
 have hl':IsL (s.heap.push { cls:=.type "list_iterator", data:=.fields #[.ref a,.int 0 0] }) a vs.toArray n:=hl.push _
 refine⟨_,[s.heap.objs.size,a],[s.heap.objs.size],fun i v O=>vs.toArray[i]?=some v,fun i v h=>vs.toArray[i]?=some v∧(h.IsListIter s.heap.objs.size a (i+1)∧h.IsList a vs.toArray),fun i h=>h.IsListIter s.heap.objs.size a i∧h.IsList a vs.toArray,rfl,ok',k',fun b hb=>?_,
  {K:=by
    have:=KTurns.ofWalks (target:=target) (Walks.list (prog:=G.prog) (w:=G.w) (A:=A) hA s.heap.objs.size a hne vs.toArray) (fun i v s Q E st hq=>by
     obtain⟨⟨o,ho,hc,hd⟩,_⟩:=st
     exact CM ho hc (by decide) hq)
    simp only[show ho.items.length=vs.toArray.size from by rw[List.size_toArray];exact hv.length.symm];exact this
   st:=⟨hit,hl'.isList⟩
   self:=fun s' Q E st hq=>(Walks.list (prog:=G.prog) (w:=G.w) (A:=A) hA s.heap.objs.size a hne vs.toArray).self 0 s' Q E st hq
   odd:=fun i h st b hb=>by simp only[List.mem_singleton]at hb;subst hb;exact OddZ.of (BP ok hfr) (Ai st.1)
   oddM:=fun i v h st b hb=>by simp only[List.mem_singleton]at hb;subst hb;exact OddZ.of (BP ok hfr) (Ai st.2.1)
   base:=fun b hb=>by
    simp only[List.mem_singleton]at hb;subst hb
    cases e:G.base.get? s.heap.objs.size with
    | none=>rfl
    | some o=>rw[ok.keep _ _ e]at hfr;injection hfr
   src:=fun b hb=>by
    simp only[List.mem_cons,List.not_mem_nil,or_false]at hb
    rcases hb with rfl | rfl
    ·exact .inl (by simp)
    ·exact .inr ⟨_,hl',hnm,fun hd=>hd.not_solid (.inr (Ab _ _))⟩
   val:=fun i v h' hk hi hP=>by
    have hvs':VRs h' ho.items vs:=VRs.monoZ (fun b o hf e=>hk b o hf (Heap.get?_push_of_some _ e)) _ _ hv
    obtain⟨x,hx⟩:∃ x,ho.items[i]?=some x:=⟨_,List.getElem?_eq_getElem hi⟩
    obtain⟨u,hu,hr⟩:=hvs'.get hx
    refine⟨x,hx,?_⟩
    have:vs[i]?=some v:=by simpa using hP
    rw[hu]at this;(replace this:=Option.some.inj this;subst this);exact hr }⟩
 simp only[List.mem_singleton]at hb;subst hb;exact hfr

noncomputable def Bm(x c:Int)(n:Nat):List PV:=(List.range n).map fun i:Nat=>.int (x+(i:Int)*c)

theorem EO{target:Expr}{x c:Int}{n:Nat}{s:Shared}(hA:A.handled=none)(ok:OkH G H s):∃ fp wr P Md St,OkH G H { s with heap:=s.heap.push { cls:=.type "range_iterator", data:=.fields #[rawInt x,rawInt n,rawInt c] } } ∧
  Kp H s H { s with heap:=s.heap.push { cls:=.type "range_iterator", data:=.fields #[rawInt x,rawInt n,rawInt c] } }∧(∀ b∈wr,s.heap.get? b=none) ∧
  J7 G A target H (s.heap.push { cls:=.type "range_iterator", data:=.fields #[rawInt x,rawInt n,rawInt c] }) s.heap.objs.size (Bm x c n) fp wr P Md St∧fp=wr:=by
 obtain⟨ok',k'⟩:=Bn ok { cls:=.type "range_iterator", data:=.fields #[rawInt x,rawInt n,rawInt c] }
 have hfr:s.heap.get? s.heap.objs.size=none:=by
  cases e:s.heap.get? s.heap.objs.size with
  | none=>rfl
  | some o=>exact absurd (Heap.lt_size e) (Nat.lt_irrefl _)
 have hodd:∀(h:Heap) (I:Addr) (x l c:Int),IsRangeIter h I x l c→∃ o,h.get? I=some o∧Mq o:=fun h I x l c hi=>⟨_,hi,DZ (by decide) (by intro q t h;simp[rawInt]at h)⟩
 refine⟨[s.heap.objs.size],[s.heap.objs.size],fun i v O=>∃ t,v=.int (x+(i:Int)*c) t,fun i v h=>(∃ t,v=.int (x+(i:Int)*c) t)∧IsRangeIter h s.heap.objs.size (x+((i+1:Nat):Int)*c) ((n:Int) - ((i+1:Nat):Int)) c,fun i h=>IsRangeIter h s.heap.objs.size (x+(i:Nat)*c) ((n:Int) - (i:Nat)) c,ok',k',fun b hb=>?_,
  {K:=by
    have:=KTurns.ofWalks (target:=target) (Walks.range (prog:=G.prog) (w:=G.w) (A:=A) hA s.heap.objs.size x c n) (fun i v s Q E st hq=>CM st rfl (by decide) hq)
    simp only[show(Bm x c n).length=n from by simp[Bm]];exact this
   st:=by
    show IsRangeIter _ _ _ _ _
    have:=Heap.get?_push_size s.heap (o:={ cls:=.type "range_iterator", data:=.fields #[rawInt x,rawInt n,rawInt c] }) rfl
    simpa[Bm,IsRangeIter]using this
   self:=fun s' Q E st hq=>(Walks.range (prog:=G.prog) (w:=G.w) (A:=A) hA s.heap.objs.size x c n).self 0 s' Q E st hq
   odd:=fun i h st b hb=>by simp only[List.mem_singleton]at hb;subst hb;exact OddZ.of (BP ok hfr) (hodd _ _ _ _ _ st)
   oddM:=fun i v h st b hb=>by simp only[List.mem_singleton]at hb;subst hb;exact OddZ.of (BP ok hfr) (hodd _ _ _ _ _ st.2)
   base:=fun b hb=>by
    simp only[List.mem_singleton]at hb;subst hb
    cases e:G.base.get? s.heap.objs.size with
    | none=>rfl
    | some o=>rw[ok.keep _ _ e]at hfr;injection hfr
   src:=fun b hb=>.inl hb
   val:=fun i v h' hk hi hP=>by
    obtain⟨t,rfl⟩:=hP
    refine⟨.int (x+i*c),?_,t,rfl⟩
    simp only[Bm,List.length_map,List.length_range]at hi
    simp[Bm,hi] },rfl⟩
 simp only[List.mem_singleton]at hb;subst hb;exact hfr
theorem Fz{target:Expr}{x y c:Int}{n:Nat}(hA:A.handled=none)(hsm:Builtin.Range.small x y c=true)(hn:Builtin.Range.rangeSize x y c=n):F2 G A target (.rng x y c) H (Bm x c n):=by
 intro s _ ok zq9
 refine AJ fun WW9 hW9=>?_
 obtain⟨r,t,u,w,eq9_0,hr⟩:=zq9
 refine hW9 ?_
 clear hW9 WW9
 subst eq9_0
 refine wpAny_pyIter_range hr hsm ?_
 rw[hn]
 refine AJ fun WW9 hW9=>?_
 obtain⟨fp,wr,P,Md,St,h1,h2,h3,h4,_⟩:=EO (target:=target) (x:=x) (c:=c) (n:=n) hA ok
 refine hW9 ?_
 clear hW9 WW9
 exact⟨_,fp,wr,P,Md,St,rfl,h1,h2,h3,h4⟩
end
end Mine
namespace Mine
variable [zz:Zz]
section
variable {G:Cx} {A:Around} {F:Fx} {σ:Loc} {H:AH}


noncomputable def Av:List (Str × PV)→Loc→Loc
 | [],σ=>σ
 | (n,p)::r,σ=>Av r (σ.set n p)
noncomputable def BRel(h:Heap):List (Str × PV)→List (Str × Value)→Prop
 | [],bs=>bs=[]
 | (n,p)::r,bs=>∃ v bs',bs=(n,v)::bs'∧VR h p v∧BRel h r bs'
theorem BRel.zip{h:Heap}:∀{ns:List Str} {ps:List PV} {vs:List Value},VRs h ps vs→BRel h (ns.zip ps) (ns.zip vs)
 | [],_,_,_=>rfl
 | n::ns,[],vs,e=>by rw[show vs=[]from e];rfl
 | n::ns,p::ps,_,zp3=>by obtain⟨v,r,rfl,h1,h2⟩:=zp3;exact⟨v,ns.zip r,rfl,h1,BRel.zip h2⟩

noncomputable def FW(env:Env)(b:Addr):Prop:=b=env.locals∨∃ x,env.cells.lookup x=some b

theorem E0{h:Heap}{kindOf:Str→Option NameKind}:∀(pb:List (Str × PV)) (bs:List (Str × Value)) (σ:Loc) (m:Str→Option Value),BRel h pb bs →
  (∀ x p,σ x=some p→kindOf x=some .local→∃ v,m x=some v∧VR h p v) →
  ∀ x p,Av pb σ x=some p→kindOf x=some .local→∃ v,bindL kindOf bs m x=some v∧VR h p v
 | [],bs,σ,m,e,hm=>by rw[show bs=[]from e];exact hm
 | (n,q)::r,_,σ,m,zp4,hm=>by
  obtain⟨v,bs,rfl,hv,hr⟩:=zp4
  refine E0 r bs _ _ hr fun x p e hk=>?_
  unfold Loc.set at e
  by_cases hx:x=n
  ·subst hx;rw[if_pos rfl]at e;(replace e:=Option.some.inj e;subst e);rw[if_pos hk];exact⟨v,if_pos rfl,hv⟩
  ·rw[if_neg hx]at e
   obtain⟨u,h1,h2⟩:=hm x p e hk
   refine⟨u,?_,h2⟩
   split
   ·exact(if_neg hx).trans h1
   ·exact h1
theorem Fv{h:Heap}{kindOf:Str→Option NameKind}:∀(pb:List (Str × PV)) (bs:List (Str × Value)) (σ:Loc) (m:Str→Option Value),BRel h pb bs →
  (∀ x p,σ x=some p→kindOf x≠some .local→∃ v,m x=some v∧VR h p v) →
  ∀ x p,Av pb σ x=some p→kindOf x≠some .local→∃ v,bindC kindOf bs m x=some v∧VR h p v
 | [],bs,σ,m,e,hm=>by rw[show bs=[]from e];exact hm
 | (n,q)::r,_,σ,m,zp4,hm=>by
  obtain⟨v,bs,rfl,hv,hr⟩:=zp4
  refine Fv r bs _ _ hr fun x p e hk=>?_
  unfold Loc.set at e
  by_cases hx:x=n
  ·subst hx;rw[if_pos rfl]at e;(replace e:=Option.some.inj e;subst e);rw[if_neg hk];exact⟨v,if_pos rfl,hv⟩
  ·rw[if_neg hx]at e
   obtain⟨u,h1,h2⟩:=hm x p e hk
   refine⟨u,?_,h2⟩
   split
   ·exact h1
   ·exact(if_neg hx).trans h1
omit [Zz] in
theorem Fu{K:Str→Prop}:∀(pb:List (Str × PV)) (σ:Loc),(∀ x∈pb,K x.1)→(∀ x p,σ x=some p→K x)→∀ x p,Av pb σ x=some p→K x
 | [],_,_,h=>h
 | (n,q)::r,σ,h1,h=>Fu r _ (fun x hx=>h1 x (List.mem_cons_of_mem _ hx)) fun x p e=>by
  unfold Loc.set at e
  by_cases hx:x=n
  ·subst hx;exact h1 _ List.mem_cons_self
  ·rw[if_neg hx]at e;exact h x p e
theorem BRel.names{h:Heap}:∀{pb:List (Str × PV)} {bs:List (Str × Value)},BRel h pb bs→∀ x∈bs,∃ p,(x.1,p)∈pb
 | [],bs,e,x,hx=>by rw[show bs=[]from e]at hx;cases hx
 | (n,q)::r,_,zp2,x,hx=>by
  obtain⟨v,bs,rfl,_,hr⟩:=zp2
  rcases List.mem_cons.mp hx with rfl | hx
  ·exact⟨q,List.mem_cons_self⟩
  ·obtain⟨p,hp⟩:=BRel.names hr x hx;exact⟨p,List.mem_cons_of_mem _ hp⟩
omit [Zz] in
set_option tactic.hygienic true in
theorem A6{x:Str}:∀(names:List (Str × NameKind)) (n:Nat) (acc:List (Str × Addr)),((x,NameKind.cell)∈names∨(acc.lookup x).isSome=true)→((cellsFrom n names acc).lookup x).isSome=true
 | [],n,acc,h=>by
  rcases h with h | h
  ·cases h
  ·exact h
 | (y,k)::r,n,acc,h=>by
  unfold cellsFrom
  split
  ·rename_i hk
   refine A6 r _ _ ?_
   by_cases hx:x=y
   ·subst hx;right;simp
   ·rcases h with h | h
    ·rcases List.mem_cons.mp h with e | h
     ·cases e;exact absurd rfl hx
     ·exact .inl h
    ·right;rw[List.lookup_cons,beq_eq_false_iff_ne.mpr hx];exact h
  ·rename_i hk
   refine A6 r _ _ ?_
   rcases h with h | h
   ·rcases List.mem_cons.mp h with e | h
    ·cases e;exact absurd rfl hk
    ·exact .inl h
   ·exact .inr h

theorem Lg{fa:Addr}{fo:Obj}{fd:FuncData}{body:List Stmt}{ps:List PV}{ns:List Str}{pb:List (Str × PV)}{ar:List Value→Args}
  (hfo:G.K.lookup fa=some fo) (hfd:fo.data=.func fd) (hbody:fd.body=.stmts body) (hclo:fd.closure=[]) (hglob:fd.globals=mainGlobals) (hblt:fd.builtins=builtinsNs)
  (hcode:∃ c o vs t,fd.code=.ref c∧G.K.lookup c=some o∧o.data=.fields vs∧vs[1]?=some (.str fd.qualname t))
  (hco:fd.scope.isCoroutine=false) (hgen:fd.scope.isGenerator=false) (hk:fd.scope.kind=.function) (hnok:B2 fd.scope=true) (hnf:fd.scope.names.all (fun x=>x.2 != .free)=true)
  (hkinds:ns.all (fun x=>fd.scope.names.lookup x==some .local||fd.scope.names.lookup x==some .cell)=true)
  (hroom:A.depth<recursionLimit)
  (hns:∀ x∈pb,x.1∈ns)
  (hbind:∀ h vs,VRs h ps vs→∃ bs,peek G.K ⟨G.prog,G.w.params⟩ (bindArgs fd (ar vs))=some bs∧∀ h',(∀ p v,VR h p v→VR h' p v)→BRel h' pb bs)
  {s:Shared} {vs:List Value} {R E:Value→Shared→Prop} (ok:OkH G H s) (hvs:VRs s.heap ps vs)
  (h:∀(F:Fx) (s1:Shared),F.env.scope=fd.scope→F.A=A.deeper F.env→F.W=FW F.env→(F.env.code=fd.code∧F.env.qual=fd.qualname ++ ".<locals>." ∧ F.env.frame=some F.env.locals) →
   OkH G H s1→LR G F (Av pb fun O=>none) s1.heap→(∀ b o,s.heap.get? b=some o→s1.heap.get? b=some o)→(∀ b,F.W b→s.heap.get? b=none)→s1.os=s.os →
   wpAny (model G.prog G.w) F.A (execs body F.env) (fun f s'=>R (match f with | .ret v=>v | _=>.none) s')
    (fun e s'=>wpAny (model G.prog G.w) F.A (leaving F.env e) (fun O s''=>E e s'') (fun e' s''=>E e' s'') s') s1) :
  wpAny (model G.prog G.w) A (call (.ref fa) (ar vs).pos (ar vs).kw) R E s:=by
 have X:G.K.In s.heap:=G.kin.keeps ok.keep
 obtain⟨c,oc,cvs,ct,hc1,hc2,hc3,hc4⟩:=hcode
 have hcr:s.heap.CodeRec fd.code fd.qualname:=⟨c,oc,cvs,ct,hc1,X _ _ hc2,hc3,hc4⟩
 refine wpAny_call (codeAny_call_function hroom (X _ _ hfo) hfd hco hgen hbody hcr ?_)
 obtain⟨bs,hpk,hbr⟩:=hbind s.heap vs hvs
 refine(Looks.of_peek (M:=model G.prog G.w) X hpk).here ?_
 rw[hclo]
 have hrel:BRel s.heap pb bs:=hbr _ fun O O h=>h
 have hkn:∀ n∈ns,fd.scope.names.lookup n=some .local∨fd.scope.names.lookup n=some .cell:=fun n hn=>by
  have:=List.all_eq_true.mp hkinds n hn
  simpa using this
 have hkp:∀ x∈pb,fd.scope.names.lookup x.1=some .local∨fd.scope.names.lookup x.1=some .cell:=fun x hx=>hkn _ (hns x hx)
 refine wpAny_newFunctionEnv_cells hk (fun x hx=>?_) fun env henv s1 C=>?_
 ·obtain⟨p,hp⟩:=hrel.names x hx
  rcases hkp (x.1,p) hp with h | h
  ·exact .inl h
  ·exact .inr ⟨h,A6 _ _ _ (.inl (mem_of_lookup h))⟩
 obtain⟨h1,tk1,hs1⟩:=C.toInCall.same
 have hkeep:=C.toInCall.keep
 have hL:=C.toInCall.fresh
 have hsc:env.scope=fd.scope:=by rw[henv];rfl
 have hcells:env.cells=cellsFrom (s.heap.objs.size+1) fd.scope.names []:=by rw[henv];rfl
 have hwlt:∀ b,FW env b→s.heap.objs.size≤b:=fun b hb=>by
  rcases hb with rfl | ⟨x,hx⟩
  ·exact hL
  ·exact Nat.le_of_lt (Nat.lt_of_le_of_lt hL (C.above x b (mem_of_lookup hx)))
 have hold:∀ b o,s.heap.get? b=some o→¬ FW env b:=fun b o e hb=>absurd (Heap.lt_size e) (Nat.not_lt.mpr (hwlt b hb))
 have vr1:∀ p v,VR s.heap p v→VR s1.heap p v:=fun p v hv=>VR.mono (fun b o O e=>hkeep b o e) p v hv
 have hrel1:BRel s1.heap pb bs:=hbr _ vr1
 have ok1:OkH G H s1:=⟨fun b o e=>hkeep b o (ok.keep b o e),ok.hr.other fun b o e O=>hkeep b o e,by rw[hs1];exact ok.gens,ok.dat.all hkeep,ok.tab.keep fun b o O e=>hkeep b o e⟩
 have lr1:LR G ⟨A.deeper env,env,FW env⟩ (Av pb fun O=>none) s1.heap:=by
  refine⟨fun b hb=>?_,fun b hb=>?_,.inl rfl,by simp only[← hk,hsc],by rw[hsc];exact hnok,?_,?_,⟨_,C.toInCall.ns,?_⟩,?_,fun x hx=>?_,C.apart⟩
  ·refine⟨?_,fun o hD=>?_⟩
   ·cases e:G.base.get? b with
    | none=>rfl
    | some o=>exact absurd hb (hold b o (ok.keep b o e))
   ·obtain⟨o',h1,_⟩:=ok.dat b o hD;exact hold b o' h1 hb
  ·rcases hb with rfl | ⟨x,hx⟩
   ·exact D4 C.toInCall.ns
   ·exact FI (C.cell x b hx)
  ·show env.globals=_;rw[henv];exact hglob
  ·show env.builtins=_;rw[henv];exact hblt
  ·exact E0 _ _ _ _ hrel1 (fun O O e=>by injection e)
  ·intro x p e
   have:=Fu (K:=fun x=>fd.scope.names.lookup x=some .local∨fd.scope.names.lookup x=some .cell) _ _ hkp (fun O O e=>by injection e) x p e
   show env.scope.names.lookup x=_∨env.scope.names.lookup x=_∨_
   rw[hsc]
   exact this.imp id .inl
  ·have hx':fd.scope.names.lookup x=some .cell∨fd.scope.names.lookup x=some .free:=by
    have:env.scope.names.lookup x=some .cell∨env.scope.names.lookup x=some .free:=hx
    rwa [hsc]at this
   have hx2:fd.scope.names.lookup x=some .cell:=by
    rcases hx' with h | h
    ·exact h
    ·have:=List.all_eq_true.mp hnf _ (mem_of_lookup h);simp at this
   have hs:=A6 fd.scope.names (s.heap.objs.size+1) [] (.inl (mem_of_lookup hx2))
   obtain⟨c,hc⟩:=Option.isSome_iff_exists.mp hs
   rw[← hcells]at hc
   refine⟨c,_,hc,C.cell x c hc,fun p e=>?_⟩
   have hnl:env.kindOf x≠some .local:=by
    show env.scope.names.lookup x≠_
    rw[hsc,hx2];intro h;cases h
   exact Fv _ _ _ _ hrel1 (fun O O e=>by injection e) x p e hnl
 refine⟨G.nolimit.keeps (fun b o e=>hkeep b o (ok.keep b o e)),codeAny_func ?_⟩
 exact h ⟨A.deeper env,env,FW env⟩ s1 hsc rfl rfl ⟨by rw[henv];rfl,by rw[henv];rfl,by rw[henv];rfl⟩ ok1 lr1 hkeep (fun b hb=>by
  cases e:s.heap.get? b with
  | none=>rfl
  | some o=>exact absurd hb (hold b o e)) (by rw[hs1])
omit [Zz] in
theorem Jz{W:Addr→Prop}{H':AH}{s s1 s':Shared}(hkeep:∀ b o,s.heap.get? b=some o→s1.heap.get? b=some o)(hW:∀ b,W b→s.heap.get? b=none)(hos:s1.os=s.os)(k:KpF W H s1 H' s'):Kp H s H' s':=by
 refine⟨k.os.trans hos,fun b o e hm=>k.kept b o (hkeep b o e) hm (fun hw=>by rw[hW b hw]at e;injection e),fun b o hb=>?_⟩
 rcases k.dom b o hb with h | h
 ·left
  cases e:s.heap.get? b with
  | none=>rfl
  | some o=>rw[hkeep b o e]at h;injection h
 ·exact .inr h
theorem Li{fa:Addr}{fo:Obj}{fd:FuncData}{body:List Stmt}{ps:List PV}{ns:List Str}{pb:List (Str × PV)}{Q:PV→AH→Prop}{ar:List Value→Args}
  (hfo:G.K.lookup fa=some fo) (hfd:fo.data=.func fd) (hbody:fd.body=.stmts body) (hclo:fd.closure=[]) (hglob:fd.globals=mainGlobals) (hblt:fd.builtins=builtinsNs)
  (hcode:∃ c o vs t,fd.code=.ref c∧G.K.lookup c=some o∧o.data=.fields vs∧vs[1]?=some (.str fd.qualname t))
  (hco:fd.scope.isCoroutine=false) (hgen:fd.scope.isGenerator=false) (hk:fd.scope.kind=.function) (hnok:B2 fd.scope=true) (hnf:fd.scope.names.all (fun x=>x.2 != .free)=true)
  (hkinds:ns.all (fun x=>fd.scope.names.lookup x==some .local||fd.scope.names.lookup x==some .cell)=true)
  (hroom:A.depth<recursionLimit)
  (hns:∀ x∈pb,x.1∈ns)
  (hbind:∀ h vs,VRs h ps vs→∃ bs,peek G.K ⟨G.prog,G.w.params⟩ (bindArgs fd (ar vs))=some bs∧∀ h',(∀ p v,VR h p v→VR h' p v)→BRel h' pb bs)
  (h:∀ F:Fx,F.env.scope=fd.scope→F.A=A.deeper F.env→F.W=FW F.env→(F.env.code=fd.code∧F.env.qual=fd.qualname ++ ".<locals>." ∧ F.env.frame=some F.env.locals)→Exs G F body (Av pb fun O=>none) H (fun f O H'=>match f with | .ret p=>Q p H' | _=>Q .none H')) :
  OpL G A (fun vs=>call (.ref fa) (ar vs).pos (ar vs).kw) ps H Q:=by
 intro s vs ok hvs
 refine Lg hfo hfd hbody hclo hglob hblt hcode hco hgen hk hnok hnf hkinds hroom hns hbind ok hvs fun F s1 h1 h2 h3 h4 ok1 lr1 hkeep hW hos=>Ak ?_
 refine wpAny_mono (h F h1 h2 h3 h4 s1 ok1 lr1) (fun f s' zz2=>zz2.on fun pf σ' H' hf ok' lr' k' hq=>?_) fun O O x=>x
 have kp:=Jz hkeep hW hos k'
 cases pf with
 | next=>rw[show f=.next from hf];exact⟨.none,H',rfl,ok',kp,hq⟩
 | brk=>rw[show f=.brk from hf];exact⟨.none,H',rfl,ok',kp,hq⟩
 | cont=>rw[show f=.cont from hf];exact⟨.none,H',rfl,ok',kp,hq⟩
 | ret p=>obtain⟨v,rfl,hv⟩:=id hf;exact⟨p,H',hv,ok',kp,hq⟩


theorem AL{x:Str}{pos:Pos}{p:PV}{Q:Loc→AH→Prop}(hk:MD F x)(h:Q (σ.set x p) H):As G F (.Name x pos) p σ H Q :=
 fun s v ok lr hv=>wpAny_assign_Name (BY hk ok lr hv h)

noncomputable def SJ(G:Cx)(F:Fx):List Expr→List PV→Loc→AH→(Loc→AH→Prop)→Prop
 | [],[],σ,H,Q=>Q σ H
 | t::ts,p::ps,σ,H,Q=>As G F t p σ H (fun σ1 H1=>SJ G F ts ps σ1 H1 Q)
 | _,_,_,_,_=>False

omit [Zz] in
theorem B7(ts:List Expr)(t:Expr)(h:(match t with | .Starred ..=>false | _=>true)=true):assignEach (t::ts) F.env=(false,assign t F.env)::assignEach ts F.env:=by
 cases t<;>first | rfl | contradiction
omit [Zz] in
theorem C6:∀(ts:List Expr),(ts.all fun t=>match t with | .Starred ..=>false | _=>true)=true→(assignEach ts F.env).length=ts.length
 | [],_=>rfl
 | t::ts,h=>by
  rw[List.all_cons,Bool.and_eq_true]at h
  simp only[B7 ts t h.1,List.length_cons,C6 ts h.2,List.length_cons]
omit [Zz] in
theorem CV:∀(ts:List Expr),(ts.all fun t=>match t with | .Starred ..=>false | _=>true)=true→(assignEach ts F.env).findIdx? (·.1)=none
 | [],_=>rfl
 | t::ts,h=>by
  rw[List.all_cons,Bool.and_eq_true]at h
  rw[B7 ts t h.1,List.findIdx?_cons,if_neg Bool.false_ne_true,CV ts h.2];rfl
theorem Ln:∀(ts:List Expr) (ps:List PV) (vs:List Value) (σ:Loc) (H:AH) (s:Shared) (Q:Loc→AH→Prop),SJ G F ts ps σ H Q→OkH G H s→LR G F σ s.heap→VRs s.heap ps vs →
  (ts.all fun t=>match t with | .Starred ..=>false | _=>true)=true →
  wpAny (model G.prog G.w) F.A (assignInOrder ((assignEach ts F.env).map (·.2)) vs) (PostS G F H s Q) Bb s
 | [],[],vs,σ,H,s,Q,h,ok,lr,hvs,_=>by
  rw[show vs=[]from hvs]
  exact wpAny_pure ⟨σ,H,ok,lr,KpF.refl _ _ _,h⟩
 | [],p::ps,vs,σ,H,s,Q,h,ok,lr,hvs,_=>h.elim
 | t::ts,[],vs,σ,H,s,Q,h,ok,lr,hvs,_=>h.elim
 | t::ts,p::ps,vs,σ,H,s,Q,h,ok,lr,zp10,hst=>by
  obtain⟨v,r,e,hv,hr⟩:=zp10
  subst e
  rw[List.all_cons,Bool.and_eq_true]at hst
  rw[B7 ts t hst.1,List.map_cons]
  show wpAny _ _ (do holding r (assign t F.env v);assignInOrder ((assignEach ts F.env).map (·.2)) r) _ _ _
  refine wpAny_bind (wpAny_holding (wpAny_mono (h s v ok lr hv) (fun O s1 zz2=>zz2.on fun σ1 H1 ok1 lr1 k1 hq=>?_) fun O O x=>x))
  exact wpAny_mono (Ln ts ps r σ1 H1 s1 Q hq ok1 lr1 (k1.vrs ok lr hr) hst.2) (fun O O x=>x.trans k1) fun O O x=>x
theorem Aj{ts:List Expr}{k:Nat}{pos:Pos}{ps:List PV}{Q:Loc→AH→Prop}(hA:F.A.handled=none)(hl:ts.length=ps.length)(h:SJ G F ts ps σ H Q)
  (hst:(ts.all fun t=>match t with | .Starred ..=>false | _=>true)=true:=by rfl):As G F (.Tuple ts k pos) (.tup ps) σ H Q:=by
 rintro s v ok lr ⟨a,vs,n,rfl,hT,hvs,_⟩
 refine wpAny_assign_Tuple (t:=a) (items:=vs.toArray) hA ⟨_,hT,rfl,n,rfl⟩ (by rw[C6 ts hst,List.size_toArray,hvs.length];exact hl) (CV ts hst) fun h' hk=>?_
 have hkeep:∀ b o,s.heap.get? b=some o→h'.get? b=some o:=fun b o e=>hk b o (Nat.ne_of_lt (Heap.lt_size e)) e
 have ok1:OkH G H { s with heap:=h' }:=⟨fun b o e=>hkeep b o (ok.keep b o e),ok.hr.other fun b o e O=>hkeep b o e,ok.gens,ok.dat.all hkeep,ok.tab.keep fun b o O e=>hkeep b o e⟩
 have k1:Kp H s H { s with heap:=h' }:=⟨rfl,fun b o e O=>.of (hkeep b o e),DomLe.refl _ _⟩
 exact wpAny_mono (Ln ts ps vs.toArray.toList σ H _ Q h ok1 (lr.kp ok k1) (k1.vrs ok (by simpa using hvs)) hst) (fun O O x=>x.trans k1.toF) fun O O x=>x

theorem BW{ts:List Expr}{k:Nat}{tpos pos:Pos}{e:Expr}{Q:PF→Loc→AH→Prop}
  (h:Ev G F e σ H (fun p H1=>As G F (.Tuple ts k tpos) p σ H1 (fun σ2 H2=>Q .next σ2 H2)))
  (hs:swapsWithSole [.Tuple ts k tpos] e pos.line F.env=pure false:=by rfl) (hw:swappedStores [.Tuple ts k tpos] e F.env=pure none:=by rfl):Ex G F (.Assign [.Tuple ts k tpos] e pos) σ H Q:=by
 intro s ok lr
 refine PyProof.Rows.Assign_Tuple (wpAny_mono (h s ok lr) (fun v s1 zz2=>zz2.on fun p H1 hv ok1 k1 hq=>?_) fun O O x=>x) hs hw
 refine wpAny_mono (hq s1 v ok1 (lr.kp ok k1) hv) (fun O s2 zz2=>zz2.on fun σ2 H2 ok2 lr2 k2 hq2=>?_) fun O O x=>x
 exact⟨.next,σ2,H2,rfl,ok2,lr2,k1.toF.trans k2,hq2⟩
end
end Mine
namespace Mine
variable [zz:Zz]
section
variable {G:Cx} {A:Around} {F:Fx} {σ:Loc} {H:AH}


noncomputable def BF(env:Env):List (Str × NameKind)→List (Str × Addr)→List (Str × Addr)
 | [],acc=>acc
 | (n,k)::r,acc=>if k==.free then BF env r ((n,(env.cells.lookup n).getD 0)::acc) else BF env r acc
omit [Zz] in
theorem I8(env:Env)(names:List (Str × NameKind))(acc:List (Str × Addr))(h:∀ x∈names,x.2=.free→(env.cells.lookup x.1).isSome=true) :
  (forIn names acc fun(x:Str × NameKind) cs=>(if (x.2==.free)=true then do let c ← cellOf env x.1;pure (.yield ((x.1,c)::cs)) else pure (.yield cs):Sem (ForInStep (List (Str × Addr)))))=pure (BF env names acc):=by
 induction names generalizing acc with
 | nil=>rfl
 | cons x r ih =>
  obtain⟨n,k⟩:=x
  rw[List.forIn_cons]
  unfold BF
  by_cases hk:(k==NameKind.free)=true
  ·have hk':k=.free:=beq_iff_eq.mp hk
   obtain⟨c,hc⟩:=Option.isSome_iff_exists.mp (h (n,k) List.mem_cons_self hk')
   simp only[hk,if_true]
   have:cellOf env n=pure c:=by unfold cellOf;rw[hc]
   simp only[this,hc]
   simp only[Option.getD_some]
   show(pure _ >>= fun r_1=>_)=_
   exact ih _ fun y hy=>h y (List.mem_cons_of_mem _ hy)
  ·simp only[hk,if_false]
   exact ih _ fun y hy=>h y (List.mem_cons_of_mem _ hy)
omit [Zz] in
theorem GG(env:Env)(scope:Scope)(h:∀ x∈scope.names,x.2=.free→(env.cells.lookup x.1).isSome=true):closureFor scope env=pure (BF env scope.names []):=by
 have:=I8 env scope.names [] h
 unfold closureFor
 show(forIn scope.names [] _ >>= fun cs=>pure cs)=_
 refine(congrArg (fun t=>t >>= fun cs=>pure cs) this).trans rfl

omit [Zz] in
set_option tactic.hygienic true in
theorem Ee(env:Env):∀(names:List (Str × NameKind)) (acc:List (Str × Addr)),(∀ x∈names,x.2=.free→(env.cells.lookup x.1).isSome=true)→(∀ x c,(x,c)∈acc→env.cells.lookup x=some c) →
  ∀ x c,(x,c)∈BF env names acc→env.cells.lookup x=some c
 | [],_,_,ha=>ha
 | (n,k)::r,acc,h,ha=>by
  unfold BF
  split
  ·rename_i hk
   refine Ee env r _ (fun y hy=>h y (List.mem_cons_of_mem _ hy)) fun x c hm=>?_
   rcases List.mem_cons.mp hm with e | hm
   ·cases e
    obtain⟨c,hc⟩:=Option.isSome_iff_exists.mp (h (n,k) List.mem_cons_self (beq_iff_eq.mp hk))
    rw[hc];rfl
   ·exact ha x c hm
  ·exact Ee env r acc (fun y hy=>h y (List.mem_cons_of_mem _ hy)) ha
omit [Zz] in
set_option tactic.hygienic true in
theorem Ef(env:Env):∀(names:List (Str × NameKind)) (acc:List (Str × Addr)) (x:Str),(x,NameKind.free)∈names∨(acc.lookup x).isSome=true→((BF env names acc).lookup x).isSome=true
 | [],acc,x,h=>by
  rcases h with h | h
  ·cases h
  ·exact h
 | (n,k)::r,acc,x,h=>by
  unfold BF
  split
  ·refine Ef env r _ x ?_
   by_cases hx:x=n
   ·subst hx;right;simp
   ·rcases h with h | h
    ·rcases List.mem_cons.mp h with e | h
     ·cases e;exact absurd rfl hx
     ·exact .inl h
    ·right;rw[List.lookup_cons,beq_eq_false_iff_ne.mpr hx];exact h
  ·rename_i hk
   refine Ef env r _ x ?_
   rcases h with h | h
   ·rcases List.mem_cons.mp h with e | h
    ·cases e;exact absurd rfl hk
    ·exact .inl h
   ·exact .inr h
omit [Zz] in

theorem C4(env:Env):∀(names:List (Str × NameKind)) (acc:List (Str × Addr)),((names.map (·.1))++acc.map (·.1)).Nodup→((BF env names acc).map (·.1)).Nodup
 | [],acc,h=>by show(acc.map (·.1)).Nodup;simpa using h
 | (n,k)::r,acc,h=>by
  unfold BF
  split
  ·refine C4 env r _ ?_
   simp only[List.map_cons,List.cons_append,List.nodup_cons,List.nodup_append,List.mem_append,List.mem_cons]at h ⊢
   refine⟨h.2.1,⟨fun hm=>h.1 (.inr hm),h.2.2.1⟩,fun a ha b hb=>?_⟩
   rcases hb with rfl | hb
   ·intro e;subst e;exact h.1 (.inl ha)
   ·exact h.2.2.2 a ha b hb
  ·refine C4 env r _ ?_
   simp only[List.map_cons,List.cons_append,List.nodup_cons]at h
   exact h.2

omit [Zz] in
set_option tactic.hygienic true in
theorem Dh:∀(names:List (Str × NameKind)) (h:Heap) (acc:List (Str × Addr)) (x:Str) (c:Addr),(cellsFrom h.objs.size names acc).lookup x=some c →
  (acc.lookup x=some c∧(x,NameKind.cell)∉names)∨((x,NameKind.cell)∈names∧h.objs.size≤c∧(pushCells h names).IsCell c none)
 | [],h,acc,x,c,e=>.inl ⟨e,by simp⟩
 | (n,k)::r,h,acc,x,c,e=>by
  unfold cellsFrom at e;unfold pushCells
  split at e
  ·rename_i hk
   rw[if_pos hk]
   have e':(cellsFrom (h.push { cls:=.type "cell", data:=.cell none }).objs.size r ((n,h.objs.size)::acc)).lookup x=some c:=by rw[Heap.size_push];exact e
   rcases Dh r _ _ x c e' with ⟨h1,h2⟩ | ⟨h0,h1,h2⟩
   ·simp only[List.lookup_cons]at h1
    cases hx:x==n with
    | true =>
     rw[hx]at h1;(replace h1:=Option.some.inj h1;subst h1)
     right
     refine⟨?_,Nat.le_refl _,Heap.IsCell.keeps ⟨_,Heap.get?_push_size _ rfl,rfl⟩ (pushCells_keeps r _)⟩
     rw[beq_iff_eq.mp hx,beq_iff_eq.mp hk];exact List.mem_cons_self
    | false =>
     rw[hx]at h1
     refine .inl ⟨h1,fun hm=>?_⟩
     rcases List.mem_cons.mp hm with e | hm
     ·cases e;simp at hx
     ·exact h2 hm
   ·right
    rw[Heap.size_push]at h1
    exact⟨List.mem_cons_of_mem _ h0,Nat.le_of_succ_le h1,h2⟩
  ·rename_i hk
   rw[if_neg hk]
   rcases Dh r h acc x c e with ⟨h1,h2⟩ | ⟨h0,h1⟩
   ·refine .inl ⟨h1,fun hm=>?_⟩
    rcases List.mem_cons.mp hm with e | hm
    ·cases e;exact hk rfl
    ·exact h2 hm
   ·exact .inr ⟨List.mem_cons_of_mem _ h0,h1⟩
omit [Zz] in
theorem C5:∀(names:List (Str × NameKind)) (n:Nat) (acc:List (Str × Addr)),(acc.Pairwise fun x y=>x.2≠y.2)→(∀ x∈acc,x.2<n)→((cellsFrom n names acc).Pairwise fun x y=>x.2≠y.2)
 | [],_,_,h,_=>h
 | (x,k)::r,n,acc,h,hlt=>by
  unfold cellsFrom
  split
  ·refine C5 r _ _ (List.pairwise_cons.mpr ⟨fun y hy=>Nat.ne_of_gt (hlt y hy),h⟩) fun y hy=>?_
   rcases List.mem_cons.mp hy with rfl | hy
   ·exact Nat.lt_succ_self _
   ·exact Nat.lt_succ_of_lt (hlt y hy)
  ·exact C5 r _ _ h hlt
omit [Zz] in
theorem CT{env:Env}(ha:env.cells.Pairwise fun x y=>x.2≠y.2):∀(l:List (Str × Addr)),(l.map (·.1)).Nodup→(∀ x c,(x,c)∈l→env.cells.lookup x=some c)→l.Pairwise fun x y=>x.2≠y.2
 | [],_,_=>.nil
 | (x,c)::r,hn,hm=>by
  rw[List.map_cons,List.nodup_cons]at hn
  refine List.pairwise_cons.mpr ⟨fun y hy e=>?_,CT ha r hn.2 fun x c h=>hm x c (List.mem_cons_of_mem _ h)⟩
  have h1:=mem_of_lookup (hm x c List.mem_cons_self)
  have h2:=mem_of_lookup (hm y.1 y.2 (List.mem_cons_of_mem _ hy))
  have e':c=y.2:=e
  rw[← e']at h2
  exact hn.1 (by rw[name_of_addr ha h1 h2];exact List.mem_map.mpr ⟨y,hy,rfl⟩)

omit [Zz] in
theorem Hz{M:Model}{A:Around}{E:Value→Shared→Prop}{s:Shared}{scope:Scope}{globals:Addr}{cl:List (Str × Addr)}{qual:Str}{env:Env}{Q:Env→Shared→Prop}
  (h:Q (newEnv scope s.heap.objs.size globals (cellsFrom (s.heap.objs.size+1) scope.names cl) qual none .none (some env) builtinsNs) { s with heap:=pushCells (s.heap.push { cls:=.type "dict", data:=.dict #[] }) scope.names }) :
  wpAny M A (newFunctionEnv scope globals cl [] qual none .none (some env)) Q E s:=by
 simp only[newFunctionEnv,Option.isSome_some,if_true]
 refine wpAny_bind (wpAny_alloc ?_)
 refine wpAny_bind (wpAny_layCells _ (fun name kind cells=>by cases hkc:kind==NameKind.cell<;>simp[hkc]) _ _ _ _ ?_)
 rw[show({ s with heap:=s.heap.push { cls:=.type "dict", data:=.dict #[] } }:Shared).heap.objs.size=s.heap.objs.size+1 from Heap.size_push ..]
 rw[List.forIn_nil]
 exact wpAny_bind (wpAny_pure (wpAny_pure h))

omit [Zz] in
theorem Fj{env:Env}{scope:Scope}{x:Str}:(relabel scope env).names.lookup x=(scope.names.lookup x).map fun k=>if (k==NameKind.free&&env.scope.kind==.function&&env.kindOf x==some .cell)=true then NameKind.cell else k:=by
 unfold relabel
 show(scope.names.map _).lookup x=_
 induction scope.names with
 | nil=>rfl
 | cons p r ih =>
  obtain⟨n,k⟩:=p
  rw[List.map_cons]
  by_cases hx:x=n
  ·subst hx
   by_cases hc:(k==NameKind.free&&env.scope.kind==.function&&env.kindOf x==some .cell)=true
   ·simp only[hc,if_true,List.lookup_cons_self,Option.map_some]
   ·simp only[Bool.not_eq_true]at hc
    simp only[hc,Bool.false_eq_true,if_false,List.lookup_cons_self,Option.map_some]
  ·have hb:(x==n)=false:=beq_eq_false_iff_ne.mpr hx
   have hl:List.lookup x ((n,k)::r)=List.lookup x r:=by simp only[List.lookup_cons,hb]
   rw[hl,← ih]
   by_cases hc:(k==NameKind.free&&env.scope.kind==.function&&env.kindOf n==some .cell)=true
   ·show List.lookup x ((if (k==NameKind.free&&env.scope.kind==.function&&env.kindOf n==some .cell)=true then(n,NameKind.cell) else(n,k))::_)=_
    rw[if_pos hc,List.lookup_cons,hb]
   ·show List.lookup x ((if (k==NameKind.free&&env.scope.kind==.function&&env.kindOf n==some .cell)=true then(n,NameKind.cell) else(n,k))::_)=_
    rw[if_neg hc,List.lookup_cons,hb]


structure CF (F F':Fx) (scope:Scope):Prop where
 A:F'.A=F.A
 kind:∀ x k,scope.names.lookup x=some k→k≠.free→F'.env.kindOf x=some k
 free:∀ x,scope.names.lookup x=some .free→F'.env.kindOf x=some .cell∨F'.env.kindOf x=some .free
 sto:∀ x,scope.names.lookup x=some .local∨scope.names.lookup x=some .cell→MD F' x
noncomputable def Loc.fr(σ:Loc)(scope:Scope):Loc:=fun x=>if (scope.names.lookup x==some .free)=true then σ x else none
noncomputable def Ao(scope:Scope):Bool:=scope.kind==.function&&B2 scope&&decide (scope.names.map (·.1)).Nodup
noncomputable def By(F:Fx)(scope:Scope):Prop:=∀ x,scope.names.lookup x=some .free→F.env.kindOf x=some .cell∨F.env.kindOf x=some .free

noncomputable def EvIfs(G:Cx)(F:Fx):List Expr→Loc→AH→(Bool→AH→Prop)→Prop
 | [],_,H,Q=>Q true H
 | c::r,σ,H,Q=>EvB G F c σ H (fun b H1=>if b then EvIfs G F r σ H1 Q else Q false H1)

theorem IM:∀(ifs:List Expr) (H:AH) (s s0:Shared) (H0:AH) (Q:Bool→AH→Prop),EvIfs G F ifs σ H Q→OkH G H s→LR G F σ s.heap→Kp H0 s0 H s →
  wpAny (model G.prog G.w) F.A (forIn ifs true fun c r=>if r=true then do let ok ← isTrue c F.env (eval c F.env);pure (ForInStep.yield ok) else pure (ForInStep.yield r)) (PostB G H0 s0 Q) Bb s
 | [],H,s,s0,H0,Q,h,ok,lr,k=>by simp only[List.forIn_nil];exact wpAny_pure ⟨H,ok,k,h⟩
 | c::r,H,s,s0,H0,Q,h,ok,lr,k=>by
  rw[List.forIn_cons]
  simp only[if_true]
  refine wpAny_bind (wpAny_bind (wpAny_mono (h s ok lr) (fun b s1 zz2=>zz2.on fun H1 ok1 k1 hq=>wpAny_pure ?_) fun O O x=>x))
  cases b with
  | true=>exact IM r H1 s1 s0 H0 Q hq ok1 (lr.kp ok k1) (k.trans k1)
  | false =>
   have:∀(r:List Expr) (s1:Shared) (Q':Bool→Shared→Prop),Q' false s1→wpAny (model G.prog G.w) F.A (forIn r false fun c r=>if r=true then do let ok ← isTrue c F.env (eval c F.env);pure (ForInStep.yield ok) else pure (ForInStep.yield r)) Q' Bb s1:=by
    intro r
    induction r with
    | nil=>intro s1 Q' h;simp only[List.forIn_nil];exact wpAny_pure h
    | cons x r ih =>
     intro s1 Q' h
     rw[List.forIn_cons]
     simp only[Bool.false_eq_true,if_false]
     exact wpAny_bind (wpAny_pure (ih s1 Q' h))
   exact this r s1 _ ⟨H1,ok1,k.trans k1,hq⟩

theorem HR.but{h h':Heap}{D:Addr}(hr:HR G H h)(hD:H D=none)(k:∀ b o,b≠D→h.get? b=some o→FK o∨Bp o→h'.get? b=some o)(hDl:∀ o,h.get? D=some o→¬ FK o):HR G H h':=fun a o e=>by
 obtain⟨⟨vs,n,hl,hv,hz⟩,hb⟩:=hr a o e
 have ha:a≠D:=by rintro rfl;rw[hD]at e;injection e
 exact⟨⟨vs,n,k _ _ ha hl (.inr (Ab _ _)),VRs.mono (fun b o hf e=>k _ _ (by rintro rfl;exact hDl o e hf) e (.inl hf)) _ _ hv,hz⟩,hb⟩


theorem Lp{s:Shared}{D:Addr}{h':Heap}{vs:Array Value}(ok:OkH G H s)(lr:LR G F σ s.heap)(hD:H D=none)(hbD:G.base.get? D=none)(hpl:s.heap.PlainList D vs)(hs:Heap.SameBut D s.heap h') :
  OkH G H { s with heap:=h' }∧LR G F σ h'∧(∀ p v,VR s.heap p v→VR h' p v):=by
 obtain⟨n,hn⟩:=hpl
 have hnf:∀ o,s.heap.get? D=some o→¬ FK o:=fun o e=>by rw[hn]at e;(replace e:=Option.some.inj e;subst e);exact fun hf=>A5 hf (Ab _ _)
 have hnd:∀ o,s.heap.get? D=some o→¬ DC o:=fun o e=>by rw[hn]at e;(replace e:=Option.some.inj e;subst e);exact fun hd=>hd.not_solid (.inr (Ab _ _))
 have hv:∀ p v,VR s.heap p v→VR h' p v:=fun p v h=>VR.mono (fun b o hf e=>(hs.2 b (by rintro rfl;exact hnf o e hf)).trans e) p v h
 exact⟨⟨fun b o e=>(hs.2 b (by rintro rfl;rw[hbD]at e;injection e)).trans (ok.keep b o e),ok.hr.but hD (fun b o hb e O=>(hs.2 b hb).trans e) hnf,ok.gens,ok.dat.dc fun b o hd O e=>(hs.2 b (by rintro rfl;exact hnd o e hd)).trans e,ok.tab.keep fun b o hl e=>(hs.2 b (by rintro rfl;rw[hn]at e;(replace e:=Option.some.inj e;subst e);exact hl.not_lst (Ab _ _))).trans e⟩,
  lr.at (fun b o hd e=>⟨o,(hs.2 b (by rintro rfl;exact hnd o e hd)).trans e,rfl⟩) hv,hv⟩


theorem Jg{H':AH}{σ2:Loc}{s s':Shared}(ok:OkH G H s)(lr:LR G F σ s.heap)(k:KpF F.W H s H' s')(lr2:LR G F σ2 s'.heap)
  (hσ:∀ x p,σ x=some p→(F.env.kindOf x=some .cell∨F.env.kindOf x=some .free)∧∀ c,F.env.cells.lookup x=some c→¬ F.W c):LR G F σ s'.heap:=by
 obtain⟨m,hn,_⟩:=lr2.ns
 refine⟨lr.own,lr2.odd,lr.wloc,lr.fn,lr.nok,lr.glob,lr.blt,⟨m,hn,fun x p e hk=>?_⟩,lr.kinds,fun x hx=>?_,lr.apart⟩
 ·rcases(hσ x p e).1 with h | h<;>(rw[hk]at h;cases h)
 ·obtain⟨c,v₀,h1,h2,_⟩:=lr2.cell x hx
  refine⟨c,v₀,h1,h2,fun p e=>?_⟩
  obtain⟨c',v',g1,g2,g3⟩:=lr.cell x hx
  rw[h1]at g1;(replace g1:=Option.some.inj g1;subst g1)
  obtain⟨v,rfl,hv⟩:=g3 p e
  have hnw:=(hσ x p e).2 c h1
  obtain⟨o,ho,hd⟩:=id g2
  obtain⟨o',ho',hdd⟩:=(k.kept c o ho (CO ok.hr (FI g2)) hnw).data (.inr ⟨_,hd⟩)
  obtain⟨o2,ho2,hd2⟩:=h2
  rw[ho']at ho2;(replace ho2:=Option.some.inj ho2;subst ho2)
  rw[hdd,hd]at hd2;cases hd2
  exact⟨v,rfl,k.vr ok lr hv⟩


noncomputable def SH(G:Cx)(F:Fx)(e:Expr)(σ:Loc)(H:AH)(Q:PV→AH→Prop)(Er:AH→Shared→Value→Shared→Prop):Prop:=∀ s,OkH G H s→LR G F σ s.heap→wpAny (model G.prog G.w) F.A (eval e F.env) (Post G H s Q) (Er H s) s
inductive ND (G:Cx) (F:Fx) (σ:Loc) (n:Nat) (D:Addr) (fp wr:List Addr) (St:Nat→Heap→Prop) (inv:Nat→List PV→AH→Prop) (H:AH) (s:Shared) (k:Nat) (s':Shared):Prop where
 | mk (i:Nat) (acc:List PV) (H':AH) (e:k=n+1 - i) (hi:i≤n) (hinv:inv i acc H') (ok:OkH G H' s') (lr:LR G F σ s'.heap) (kp:KpI F.W (D::wr) H s H' s') (st:St i s'.heap) (hD:H' D=none)
   (pl:∃ vs,s'.heap.PlainList D (List.toArray vs)∧VRs s'.heap acc vs) 
   (src:∀ b∈fp,b∈wr∨∃ o,s.heap.get? b=some o∧s'.heap.get? b=some o∧¬ Ct H' b∧¬ Soft o) (fx:∀ b o,DS b o→s.heap.get? b=some o→s'.heap.get? b=some o):ND G F σ n D fp wr St inv H s k s'

noncomputable def Go(ip:Pos)(target:Expr)(ifs:List Expr)(env:Env)(it:Value)(body:Sem Unit)(go:Sem Fin):Sem Fin:=do
 standAt ip
 match ← pyNext it with
 | none=>pure (.done .next)
 | some v =>
  letOwnedTupleGo target it v
  assign target env v
  let mut ok:=true
  for c in ifs do
   if ok then ok ← isTrue c env (eval c env)
  if ok then body
  go

noncomputable def L5(G:Cx)(F:Fx)(σ:Loc)(D:Addr)(body:Sem Unit)(σ2:Loc)(H:AH)(acc:List PV)(Q:List PV→AH→Prop)(Er:AH→Shared→Value→Shared→Prop):Prop:=∀ s (vs:List Value),OkH G H s→LR G F σ2 s.heap→LR G F σ s.heap→H D=none→s.heap.PlainList D vs.toArray→VRs s.heap acc vs→acc.length≤sizeLine →
 wpAny (model G.prog G.w) F.A body (fun O s'=>∃ acc' H' vs',OkH G H' s'∧LR G F σ s'.heap∧KpI F.W [D] H s H' s'∧H' D=none∧s'.heap.PlainList D (List.toArray vs')∧VRs s'.heap acc' vs'∧Q acc' H') (Er H s) s
theorem Ec{elt:Expr}{gens:List Comprehension}{scope:Scope}{pos:Pos}{depth:Nat}{target:Expr}{ifs:List Expr}{ip:Pos}{body:Sem Unit}{I D:Addr}{xs acc0:List PV}{vs0:List Value}{fp wr:List Addr}{P Md:Nat→Value→Heap→Prop}{St:Nat→Heap→Prop}{s:Shared}{Cσ:Loc→Prop}
  (heq:compTurn (.ListComp elt gens scope pos) depth (.ref I) (.ref D) F.env=Go ip target ifs F.env (.ref I) body (again (.compLoop (.ListComp elt gens scope pos) depth (.ref I) (.ref D) F.env)))
  (S:J7 G F.A target H s.heap I xs fp wr P Md St) (ok:OkH G H s) (lr:LR G F σ s.heap) (hD:H D=none) (hacc:s.heap.PlainList D vs0.toArray) (hv0:VRs s.heap acc0 vs0) (hDfp:D∉fp)
  (hres:∀{H H':AH} {s s':Shared} {σ2:Loc},OkH G H s→LR G F σ s.heap→KpF F.W H s H' s'→LR G F σ2 s'.heap→Cσ σ2→LR G F σ s'.heap)
  (inv:Nat→List PV→AH→Prop) (h0:inv 0 acc0 H) (hsz:∀ i acc H',inv i acc H'→acc.length≤sizeLine)
  {Dn:Heap→Prop} (dn:∀(s:Shared) (Q:Option Value→Shared→Prop) (E:Value→Shared→Prop),St xs.length s.heap→(∀ h' tk,(∀ b o,b∉wr→s.heap.get? b=some o→h'.get? b=some o)→(∀ b∈wr,Zz.z b→∃ o,h'.get? b=some o∧Tup o)→Dn h'→Q none { s with heap:=h',toks:=tk })→wpAny (model G.prog G.w) F.A (pyNext (.ref I)) Q E s)
  {Er:AH→Shared→Value→Shared→Prop} (step:∀ i x acc H',xs[i]?=some x→inv i acc H'→As G F target x σ H' (fun σ2 H2=>Cσ σ2∧EvIfs G F ifs σ2 H2 (fun b H3=>if b then L5 G F σ D body σ2 H3 acc (fun acc' H4=>inv (i+1) acc' H4) Er else inv (i+1) acc H3)))
  (R:Result→Shared→Prop) (herr:∀ H5 s5 e s6,OkH G H5 s5→LR G F σ s5.heap→KpI F.W (D::wr) H s H5 s5→Er H5 s5 e s6→notedBy (model G.prog G.w) F.A F.env (fun x s'=>R (.error x) s') e s6)
  (fin:∀ acc H' s',inv xs.length acc H'→OkH G H' s'→LR G F σ s'.heap→KpI F.W (D::wr) H s H' s'→H' D=none→(∃ vs,s'.heap.PlainList D (List.toArray vs)∧VRs s'.heap acc vs)→Dn s'.heap→R (.ok .next) s') :
  codeAny (model G.prog G.w) F.A (.compLoop (.ListComp elt gens scope pos) depth (.ref I) (.ref D) F.env) R s:=by
 have plD:∀{h:Heap} {vs:Array Value},h.PlainList D vs→∃ o,h.get? D=some o∧Bp o:=fun zz0=>by obtain⟨n,hn⟩:=zz0;exact⟨_,hn,Ab _ _⟩
 have hDwr:∀ i h,St i h→∀ vs,h.PlainList D vs→D∉wr:=fun i h st vs hp hm=>by
  refine AJ fun WW9 hW9=>?_
  obtain⟨o,ho,hod⟩:=S.odd i h st D hm
  refine hW9 ?_
  clear hW9 WW9
  refine AJ fun WW9 hW9=>?_
  obtain⟨o',ho',hl⟩:=plD hp
  refine hW9 ?_
  clear hW9 WW9
  rw[ho]at ho';(replace ho':=Option.some.inj ho';subst ho');exact hod.not_lst hl
 have lstdc:∀{o:Obj},Bp o→¬ Soft o:=fun h hd=>hd.not_solid (.inr h)
 have kI:∀{W:Addr→Prop} {H H':AH} {s s':Shared},KpI W wr H s H' s'→KpI W (D::wr) H s H' s':=fun x =>
  ⟨x.os,fun b o e hm hw hb=>x.kept b o e hm hw fun h=>hb (List.mem_cons_of_mem _ h),fun b o e=>(x.dom b o e).imp id fun h=>h.imp (List.mem_cons_of_mem _) id,fun b o e hm hw hb=>x.live b o e hm hw fun h=>hb (List.mem_cons_of_mem _ h)⟩
 refine codeAny_loop rfl (ND G F σ xs.length D fp wr St inv H s) ?_ (xs.length+1)
  ⟨0,acc0,H,rfl,Nat.zero_le _,h0,ok,lr,(KpF.refl _ _ _).toI,S.st,hD,⟨vs0,hacc,hv0⟩,fun b hb=>(S.src b hb).imp id fun zz0=>by obtain⟨o,h1,h2,h3⟩:=zz0;exact⟨o,h1,h1,h2,h3⟩,fun O O O e=>e⟩
 intro k s1 zq9
 refine AJ fun WW9 hW9=>?_
 obtain⟨i,acc,H1,eq9_0,hi,hinv,ok1,lr1,k1,hst,hD1,⟨vs,hpl,hvs⟩,hsrc,hfix⟩:=zq9
 refine hW9 ?_
 clear hW9 WW9
 subst eq9_0
 show wpAny _ F.A ((compTurn (.ListComp elt gens scope pos) depth (.ref I) (.ref D) F.env).onRaise (fun x=>do noteFrame x F.env;theTreesLotGoes x)) _ _ s1
 refine wpAny_noted ?_
 simp only[heq]
 unfold Go
 refine wpAny_bind (wpAny_standAt (wpAny_bind ?_))
 have oddM:∀ b∈wr,¬ Ct H1 b:=fun b hb hm=>by
  refine AJ fun WW9 hW9=>?_
  obtain⟨o,ho,hod⟩:=S.odd i _ hst b hb
  refine hW9 ?_
  clear hW9 WW9
  obtain⟨xs,hx⟩:=hm
  refine AJ fun WW9 hW9=>?_
  obtain⟨⟨vs,n,hl,_⟩,_⟩:=ok1.hr b _ hx
  refine hW9 ?_
  clear hW9 WW9
  rw[hl]at ho;(replace ho:=Option.some.inj ho;subst ho);exact hod.not_lst (Ab _ _)
 have fixk:∀(h h':Heap),(∀ b∈wr,∃ o,h.get? b=some o∧OddZ b o)→(∀ b o,b∉wr→h.get? b=some o→h'.get? b=some o)→∀ b o,DS b o→h.get? b=some o→h'.get? b=some o:=fun h h' hw hk b o hf e =>
  hk b o (fun hm=>by obtain⟨o',ho',hod⟩:=hw b hm;rw[ho']at e;(replace e:=Option.some.inj e;subst e);exact hod.not_fix hf) e
 have hDw:=hDwr i _ hst _ hpl
 by_cases hlt:i<xs.length
 ·refine Ak (S.K.item i s1 _ _ hlt hst fun v h2 tk2 hmd hk2=>?_)
  obtain⟨ok2,lr2⟩:=CZ (tk:=tk2) ok1 lr1 S.base (S.odd i _ hst) (Hw (S.oddM i v h2 hmd)) hk2
  have hw2:=S.oddM i v h2 hmd
  refine wpAny_bind (S.K.go i v _ _ _ hmd fun h3 hP hst3 hk3=>?_)
  obtain⟨ok3,lr3⟩:=CZ (s:={ s1 with heap:=h2,toks:=tk2 }) (tk:=tk2) ok2 lr2 S.base hw2 (Hw (S.odd _ _ hst3)) hk3
  have k3:KpI F.W (D::wr) H s H1 { s1 with heap:=h3,toks:=tk2 }:=(k1.trans (kI (CB (tk:=tk2) hk2))).trans (kI (CB (s:={ s1 with heap:=h2,toks:=tk2 }) (tk:=tk2) hk3))
  have hfix3':∀ b o,DS b o→s1.heap.get? b=some o→h3.get? b=some o:=fun b o hf e=>fixk _ _ hw2 hk3 b o hf (fixk _ _ (S.odd i _ hst) hk2 b o hf e)
  have hfix3:∀ b o,DS b o→s.heap.get? b=some o→h3.get? b=some o:=fun b o hf e=>hfix3' b o hf (hfix b o hf e)
  refine AJ fun WW9 hW9=>?_
  obtain⟨x,hx,hv⟩:=S.val i v h3 hfix3 hlt hP
  refine hW9 ?_
  clear hW9 WW9
  have hpl3:h3.PlainList D vs.toArray:=by obtain⟨n,hn⟩:=hpl;exact⟨n,hk3 _ _ hDw (hk2 _ _ hDw hn)⟩
  have hvs3:VRs h3 acc vs:=VRs.monoZ hfix3' _ _ hvs
  have hsrc3:∀ b∈fp,b∈wr∨∃ o,s.heap.get? b=some o∧h3.get? b=some o∧¬ Ct H1 b∧¬ Soft o:=fun b hb=>by
   by_cases hbw:b∈wr
   ·exact .inl hbw
   ·rcases hsrc b hb with h | ⟨o,h1,h2,h3,h4⟩
    ·exact .inl h
    ·exact .inr ⟨o,h1,hk3 b o hbw (hk2 b o hbw h2),h3,h4⟩
  -- the target,the tests,the item
  refine wpAny_bind (Ak (wpAny_mono (step i x acc H1 hx hinv _ v ok3 lr3 hv) (fun O s4 zz2=>zz2.on fun σ4 H4 ok4 lr4 k4 zz2_5=>zz2_5.elim fun hc4 hif=>?_) fun O O x=>x))
  have lr4':LR G F σ s4.heap:=hres ok3 lr3 k4 lr4 hc4
  refine wpAny_bind (Ak (wpAny_mono (IM ifs H4 s4 s4 H4 _ hif ok4 lr4 (Kp.refl _ _)) (fun b s5 zz2=>zz2.on fun H5 ok5 k5 hb=>?_) fun O O x=>x))
  have k45:=k4.trans k5.toF
  have lr5:=lr4.kp ok4 k5
  have lr5':=lr4'.kp ok4 k5
  have keepX:∀{H6:AH} {s6:Shared},KpF F.W H1 { s1 with heap:=h3,toks:=tk2 } H6 s6→∀ b o,h3.get? b=some o→¬ Ct H1 b→¬ Soft o→s6.heap.get? b=some o:=fun k b o e hm hd=>k.odd_kept lr3 e hm hd
  have nmD:¬ Ct H1 D:=Ah hD1
  have after:∀{H6:AH} {s6:Shared},KpF F.W H1 { s1 with heap:=h3,toks:=tk2 } H6 s6→St (i+1) s6.heap∧(∀ b∈fp,b∈wr∨∃ o,s.heap.get? b=some o∧s6.heap.get? b=some o∧¬ Ct H6 b∧¬ Soft o)∧(∀ b o,DS b o→s.heap.get? b=some o→s6.heap.get? b=some o) ∧
    s6.heap.PlainList D vs.toArray∧VRs s6.heap acc vs∧H6 D=none:=fun{H6 s6} k=>by
   refine⟨S.K.frame _ _ _ hst3 fun b hb o e=>?_,fun b hb=>?_,fun b o hf e=>?_,?_,k.vrs ok3 lr3 hvs3,?_⟩
   ·rcases hsrc3 b hb with h | ⟨o',h1,h2,h3,h4⟩
    ·refine AJ fun WW9 hW9=>?_
     obtain⟨o',ho',hod⟩:=S.odd _ _ hst3 b h
     refine hW9 ?_
     clear hW9 WW9
     rw[ho']at e;(replace e:=Option.some.inj e;subst e)
     exact keepX k b _ ho' (oddM b h) hod.not_soft
    ·rw[h2]at e;(replace e:=Option.some.inj e;subst e);exact keepX k b _ h2 h3 h4
   ·rcases hsrc3 b hb with h | ⟨o',h1,h2,h3,h4⟩
    ·exact .inl h
    ·exact .inr ⟨o',h1,keepX k b _ h2 h3 h4,k.nm (s:={ s1 with heap:=_,toks:=tk2 }) h2 h3,h4⟩
   ·exact keepX k b o (hfix3 b o hf e) (Aw ok3.hr (hfix3 b o hf e) (A5 hf.1)) (BJ hf.1)
   ·obtain⟨n,hn⟩:=hpl3;exact⟨n,keepX k D _ hn nmD (lstdc (Ab _ _))⟩
   ·obtain⟨n,hn⟩:=hpl3;exact k.dom.none hD1 hn
  cases b with
  | false =>
   refine AJ fun WW9 hW9=>?_
   obtain⟨st5,src5,fix5,pl5,vs5,hD5⟩:=after k45
   refine hW9 ?_
   clear hW9 WW9
   exact wpAny_pure ⟨rfl,xs.length+1 - (i+1),by exact MZ hlt,i+1,acc,H5,rfl,hlt,hb,ok5,lr5',k3.trans (k45.toI),st5,hD5,⟨vs,pl5,vs5⟩,src5,fix5⟩
  | true =>
   refine AJ fun WW9 hW9=>?_
   obtain⟨st5,src5,fix5,pl5,vs5,hD5⟩:=after k45
   refine hW9 ?_
   clear hW9 WW9
   refine wpAny_bind (wpAny_mono (hb s5 vs ok5 lr5 lr5' hD5 pl5 vs5 (hsz _ _ _ hinv)) (fun O s6 zz2=>zz2.elim fun acc' zz2=>zz2.elim fun H6 zz2=>zz2.elim fun vs' zz2=>zz2.elim fun go6 zz2=>zz2.elim fun lr6 zz2=>zz2.elim fun k6 zz2=>zz2.elim fun hD6 zz2=>zz2.elim fun pl6 zz2=>zz2.elim fun vs6 hq=>?_) fun e s6 x=>herr H5 s5 e s6 ok5 lr5' (k3.trans k45.toI) x)
   have keep6:∀ b o,b≠D→s5.heap.get? b=some o→¬ Ct H5 b→¬ Soft o→s6.heap.get? b=some o:=fun b o hbD e hm hd=>(k6.kept b o e hm (fun hw=>by obtain⟨o',ho',hd'⟩:=lr5'.odd b hw;rw[ho']at e;(replace e:=Option.some.inj e;subst e);exact hd (.inl hd')) (by simpa using hbD)).hard hd
   have ne5:∀ b∈fp,b≠D:=fun b hb e=>hDfp (e▸hb)
   refine wpAny_pure ⟨rfl,xs.length+1 - (i+1),by exact MZ hlt,i+1,acc',H6,rfl,hlt,hq,go6,lr6,?_,?_,hD6,⟨vs',pl6,vs6⟩,fun b hb=>?_,fun b o hf e=>?_⟩
   ·refine(k3.trans k45.toI).trans ⟨k6.os,fun b o e hm hw hb=>k6.kept b o e hm hw fun h=>hb (by rw[List.mem_singleton.mp h];exact List.mem_cons_self),fun b o e=>(k6.dom b o e).imp id fun h=>h.imp (fun h=>by rw[List.mem_singleton.mp h];exact List.mem_cons_self) id,fun b o e hm hw hb=>k6.live b o e hm hw fun h=>hb (by rw[List.mem_singleton.mp h];exact List.mem_cons_self)⟩
   ·refine S.K.frame _ _ _ st5 fun b hb o e=>?_
    rcases src5 b hb with h | ⟨o',h1,h2,h3,h4⟩
    ·refine AJ fun WW9 hW9=>?_
     obtain⟨o',ho',hod⟩:=S.odd _ _ st5 b h
     refine hW9 ?_
     clear hW9 WW9
     rw[ho']at e;(replace e:=Option.some.inj e;subst e)
     exact keep6 b _ (ne5 b hb) ho' (Aw ok5.hr ho' hod.not_lst) hod.not_soft
    ·rw[h2]at e;(replace e:=Option.some.inj e;subst e);exact keep6 b _ (ne5 b hb) h2 h3 h4
   ·rcases src5 b hb with h | ⟨o,h1,h2,h3,h4⟩
    ·exact .inl h
    ·exact .inr ⟨o,h1,keep6 b _ (ne5 b hb) h2 h3 h4,k6.nm h2 h3 (by simpa using ne5 b hb),h4⟩
   ·have e5:=fix5 b o hf e
    exact keep6 b o (by rintro rfl;obtain⟨n,hn⟩:=pl5;rw[hn]at e5;(replace e5:=Option.some.inj e5;subst e5);exact A5 hf.1 (Ab _ _)) e5 (Aw ok5.hr e5 (A5 hf.1)) (BJ hf.1)
 ·have hin:i=xs.length:=by exact Nat.le_antisymm hi (Nat.not_lt.mp hlt)
  subst hin
  refine Ak (dn s1 _ _ hst fun h2 tk2 hk2 hz2 hdn=>wpAny_pure ?_)
  obtain⟨ok2,lr2⟩:=CZ (tk:=tk2) ok1 lr1 S.base (S.odd _ _ hst) hz2 hk2
  refine fin acc H1 _ hinv ok2 lr2 (k1.trans (kI (CB (tk:=tk2) hk2))) hD1 ⟨vs,?_,VRs.monoZ (fixk _ _ (S.odd _ _ hst) hk2) _ _ hvs⟩ hdn
  obtain⟨n,hn⟩:=hpl;exact⟨n,hk2 _ _ hDw hn⟩
theorem Ez{elt:Expr}{D:Addr}{σ2:Loc}{H3:AH}{acc:List PV}{Q:PV→AH→Prop}{Q':List PV→AH→Prop}{Er:AH→Shared→Value→Shared→Prop}(hbD:G.base.get? D=none)(h:SH G F elt σ2 H3 Q Er)(hq':∀ y H4,Q y H4→Q' (acc++[y]) H4) :
  L5 G F σ D (do let _ ← call (.builtin "list.append") [.ref D,← eval elt F.env]) σ2 H3 acc Q' Er:=by
 intro s vs ok lr lr' hD pl hv hsz
 refine wpAny_bind (wpAny_mono (h s ok lr) (fun y s6 zz2=>zz2.on fun p H6 hp ok6 k6 hq=>?_) fun O O x=>x)
 have hl:s.heap.get? D=some { cls:=.type "list", data:=.seq vs.toArray pl.choose }:=pl.choose_spec
 have pl6:s6.heap.PlainList D vs.toArray:=⟨_,(k6.kept D _ hl (Ah hD)).hard fun hd=>hd.not_solid (.inr (Ab _ _))⟩
 have hD6:H6 D=none:=k6.dom.none hD hl
 have lr6:=lr'.kp ok k6
 have hv6:=k6.vrs ok hv
 refine wpAny_bind (wpAny_list_append_plain (hsz:=by rw[List.size_toArray,hv.length];exact hsz) pl6 fun h7 pl7 hs7=>?_)
 obtain⟨ok7,lr7,vr7⟩:=Lp ok6 lr6 hD6 hbD pl6 hs7
 refine wpAny_pure ⟨acc++[p],H6,vs++[y],ok7,lr7,?_,hD6,by simpa using pl7,(VRs.imp vr7 hv6).append (VRs.one (vr7 _ _ hp)),hq' p H6 hq⟩
 exact(k6.toF.toI).trans ⟨rfl,fun b o e O O hb=>.of ((hs7.2 b fun h=>hb (by rw[h];exact List.mem_singleton.mpr rfl)).trans e),fun b o h=>.inr (.inr ⟨o,h,id⟩),fun b o e O O hb=>⟨o,(hs7.2 b fun h=>hb (by rw[h];exact List.mem_singleton.mpr rfl)).trans e⟩⟩
theorem E4:∀{ifs:List Expr} {H:AH} {Q Q':Bool→AH→Prop},EvIfs G F ifs σ H Q→(∀ b H',Q b H'→Q' b H')→EvIfs G F ifs σ H Q'
 | [],_,_,_,h,hq=>hq _ _ h
 | c::r,H,Q,Q',h,hq=>fun s ok lr=>wpAny_mono (h s ok lr) (fun b s1 zz2=>zz2.on fun H1 ok1 k1 hb=>⟨H1,ok1,k1,by
   cases b with
   | true=>exact E4 (ifs:=r) hb hq
   | false=>exact hq _ _ hb⟩) fun O O x=>x
theorem Lf{elt target iter:Expr}{ifs:List Expr}{scope:Scope}{pos:Pos}{I D:Addr}{xs:List PV}{fp wr:List Addr}{P Md:Nat→Value→Heap→Prop}{St:Nat→Heap→Prop}{s:Shared}
  (S:J7 G F.A target H s.heap I xs fp wr P Md St) (ok:OkH G H s) (lr:LR G F σ s.heap) (hD:H D=none) (hbD:G.base.get? D=none) (hacc:s.heap.PlainList D #[]) (hDfp:D∉fp) (hz:xs.length≤sizeLine)
  (hσ:∀ x p,σ x=some p→(F.env.kindOf x=some .cell∨F.env.kindOf x=some .free)∧∀ c,F.env.cells.lookup x=some c→¬ F.W c)
  (inv:Nat→List PV→AH→Prop) (h0:inv 0 [] H)
  {Dn:Heap→Prop} (dn:∀(s:Shared) (Q:Option Value→Shared→Prop) (E:Value→Shared→Prop),St xs.length s.heap→(∀ h' tk,(∀ b o,b∉wr→s.heap.get? b=some o→h'.get? b=some o)→(∀ b∈wr,Zz.z b→∃ o,h'.get? b=some o∧Tup o)→Dn h'→Q none { s with heap:=h',toks:=tk })→wpAny (model G.prog G.w) F.A (pyNext (.ref I)) Q E s)
  {Er:AH→Shared→Value→Shared→Prop} (step:∀ i x acc H',xs[i]?=some x→inv i acc H'→As G F target x σ H' (fun σ2 H2=>EvIfs G F ifs σ2 H2 (fun b H3=>if b then SH G F elt σ2 H3 (fun y H4=>inv (i+1) (acc++[y]) H4) Er else inv (i+1) acc H3)))
  (R:Result→Shared→Prop) (herr:∀ H5 s5 e s6,OkH G H5 s5→LR G F σ s5.heap→KpI F.W (D::wr) H s H5 s5→Er H5 s5 e s6→notedBy (model G.prog G.w) F.A F.env (fun x s'=>R (.error x) s') e s6)
  (fin:∀ acc H' s',inv xs.length acc H'→OkH G H' s'→LR G F σ s'.heap→KpI F.W (D::wr) H s H' s'→H' D=none→(∃ vs,s'.heap.PlainList D (List.toArray vs)∧VRs s'.heap acc vs)→acc.length≤sizeLine→Dn s'.heap→R (.ok .next) s') :
  codeAny (model G.prog G.w) F.A (.compLoop (.ListComp elt [⟨target,iter,ifs,0⟩] scope pos) 0 (.ref I) (.ref D) F.env) R s:=by
 refine Ec (acc0:=[]) (vs0:=[]) (ip:=iter.pos) (ifs:=ifs) (body:=do let _ ← call (.builtin "list.append") [.ref D,← eval elt F.env]) (Cσ:=fun O=>True) (by rfl) S ok lr hD hacc rfl hDfp (fun ok lr k lr2 O=>Jg ok lr k lr2 hσ) (fun i acc H'=>inv i acc H'∧acc.length≤i∧i≤xs.length) ⟨h0,Nat.le_refl _,Nat.zero_le _⟩ (fun i acc H' h=>Nat.le_trans h.2.1 (Nat.le_trans h.2.2 hz)) dn (Er:=Er) (fun i x acc H' hx zz5=>zz5.elim fun hinv zz5=>zz5.elim fun hal hi=>?_) R herr fun acc H' s' h1 h2 h3 h4 h5 h6 h7=>fin acc H' s' h1.1 h2 h3 h4 h5 h6 (Nat.le_trans h1.2.1 hz) h7
 have hlt:=(List.getElem?_eq_some_iff.mp hx).1
 intro s v ok lr hv
 refine wpAny_mono (step i x acc H' hx hinv s v ok lr hv) (fun O s1 zz2=>zz2.on fun σ2 H2 ok2 lr2 k2 hq=>⟨σ2,H2,ok2,lr2,k2,trivial,E4 hq fun b H3 hb=>?_⟩) fun O O x=>x
 cases b with
 | false=>exact⟨hb,by(first | lia | omega),hlt⟩
 | true=>exact Ez hbD hb fun y H4 h=>⟨h,by rw[List.length_append];simp;exact hal,hlt⟩
end
end Mine
namespace Mine
variable [Z:Zz]
section
variable {G:Cx} {A:Around} {F:Fx} {σ:Loc} {H:AH}

omit Z in
theorem Bx{h:Heap}{a:Addr}(ha:h.objs.size≤a):h.get? a=none:=by
 cases e:h.get? a with
 | none=>rfl
 | some o=>exact absurd (Heap.lt_size e) (Nat.not_lt.mpr ha)

omit Z in
theorem BQ{l:List (Str × NameKind)}{x:Str}{k:NameKind}(hn:(l.map (·.1)).Nodup)(hm:(x,k)∈l):l.lookup x=some k:=by
 induction l with
 | nil=>cases hm
 | cons z r ih =>
  rw[List.map_cons,List.nodup_cons]at hn
  rw[List.lookup_cons]
  rcases List.mem_cons.mp hm with rfl | hm
  ·simp
  ·have:(x==z.1)=false:=beq_eq_false_iff_ne.mpr fun e=>hn.1 (by rw[← e];exact List.mem_map.mpr ⟨_,hm,rfl⟩)
   rw[this];exact ih hn.2 hm
omit Z in
set_option tactic.hygienic true in
theorem Cn(env:Env):∀(names:List (Str × NameKind)) (acc:List (Str × Addr)) (x:Str) (c:Addr),(x,c)∈BF env names acc→((x,c)∈acc→(x,NameKind.free)∈names)→(x,NameKind.free)∈names
 | [],acc,x,c,h,ha=>ha h
 | (n,k)::r,acc,x,c,h,ha=>by
  unfold BF at h
  split at h
  ·rename_i hk
   by_cases hx:x=n
   ·subst hx;rw[beq_iff_eq.mp hk];exact List.mem_cons_self
   ·refine List.mem_cons_of_mem _ (Cn env r _ x c h fun hm=>?_)
    rcases List.mem_cons.mp hm with e | hm
    ·cases e;exact absurd rfl hx
    ·rcases List.mem_cons.mp (ha hm)with e | hm
     ·cases e;exact absurd rfl hx
     ·exact hm
  ·rename_i hk
   refine List.mem_cons_of_mem _ (Cn env r _ x c h fun hm=>?_)
   rcases List.mem_cons.mp (ha hm)with e | hm
   ·cases e;exact absurd rfl hk
   ·exact hm

noncomputable def CompStep(G:Cx)(F:Fx)(scope:Scope)(target elt:Expr)(ifs:List Expr)(σ:Loc)(xs:List PV)(inv:Nat→List PV→AH→Prop):Prop :=
 ∀ F':Fx,CF F F' scope→∀ i x acc H',xs[i]?=some x→inv i acc H'→As G F' target x (σ.fr scope) H' (fun σ2 H2=>EvIfs G F' ifs σ2 H2 (fun b H3=>if b then Ev G F' elt σ2 H3 (fun y H4=>inv (i+1) (acc++[y]) H4) else inv (i+1) acc H3))

noncomputable def Ek(G:Cx)(F:Fx)(scope:Scope)(target elt:Expr)(ifs:List Expr)(σ:Loc)(xs:List PV)(inv:Nat→List PV→AH→Prop)(Er:Fx→AH→Shared→Value→Shared→Prop):Prop :=
 ∀ F':Fx,CF F F' scope→∀ i x acc H',xs[i]?=some x→inv i acc H'→As G F' target x (σ.fr scope) H' (fun σ2 H2=>EvIfs G F' ifs σ2 H2 (fun b H3=>if b then SH G F' elt σ2 H3 (fun y H4=>inv (i+1) (acc++[y]) H4) (Er F') else inv (i+1) acc H3))


noncomputable def JD(G:Cx)(F:Fx)(elt:Expr)(gens:List Comprehension)(scope:Scope)(pos:Pos)(target:Expr)(σ:Loc)(H:AH)(xs:List PV)(inv:Nat→List PV→AH→Prop)(Er:AH→Shared→Value→Shared→Prop):Prop :=
 ∀{I D:Addr} {fp wr:List Addr} {P Md:Nat→Value→Heap→Prop} {St:Nat→Heap→Prop} {s:Shared} {Dn:Heap→Prop},J7 G F.A target H s.heap I xs fp wr P Md St→OkH G H s→LR G F σ s.heap→H D=none→G.base.get? D=none→s.heap.PlainList D #[]→D∉fp →
  (∀ x p,σ x=some p→(F.env.kindOf x=some .cell∨F.env.kindOf x=some .free)∧∀ c,F.env.cells.lookup x=some c→¬ F.W c) →
  (∀(s:Shared) (Q:Option Value→Shared→Prop) (E:Value→Shared→Prop),St xs.length s.heap→(∀ h' tk,(∀ b o,b∉wr→s.heap.get? b=some o→h'.get? b=some o)→(∀ b∈wr,Zz.z b→∃ o,h'.get? b=some o∧Tup o)→Dn h'→Q none { s with heap:=h',toks:=tk })→wpAny (model G.prog G.w) F.A (pyNext (.ref I)) Q E s) →
  ∀(R:Result→Shared→Prop),(∀ H5 s5 e s6,OkH G H5 s5→LR G F σ s5.heap→KpI F.W (D::wr) H s H5 s5→Er H5 s5 e s6→notedBy (model G.prog G.w) F.A F.env (fun x s'=>R (.error x) s') e s6) →
  (∀ acc H' s',inv xs.length acc H'→OkH G H' s'→LR G F σ s'.heap→KpI F.W (D::wr) H s H' s'→H' D=none→(∃ vs,s'.heap.PlainList D (List.toArray vs)∧VRs s'.heap acc vs)→acc.length≤sizeLine→Dn s'.heap→R (.ok .next) s') →
  codeAny (model G.prog G.w) F.A (.compLoop (.ListComp elt gens scope pos) 0 (.ref I) (.ref D) F.env) R s
theorem LH{elt target iter:Expr}{ifs:List Expr}{scope:Scope}{pos:Pos}{xs:List PV}{inv:Nat→List PV→AH→Prop}{Er:Fx→AH→Shared→Value→Shared→Prop}(hz:xs.length≤sizeLine)(h0:inv 0 [] H)(step:Ek G F scope target elt ifs σ xs inv Er) :
  ∀ F':Fx,CF F F' scope→JD G F' elt [⟨target,iter,ifs,0⟩] scope pos target (σ.fr scope) H xs inv (Er F') :=
 fun F' hF' {_ O O O O O O O _} S ok lr hD hbD hacc hDfp hσ dn R herr fin=>Lf S ok lr hD hbD hacc hDfp hz hσ inv h0 dn (step F' hF') R herr fin
theorem CompStep.toE{elt target:Expr}{ifs:List Expr}{scope:Scope}{xs:List PV}{inv:Nat→List PV→AH→Prop}(h:CompStep G F scope target elt ifs σ xs inv):Ek G F scope target elt ifs σ xs inv fun O O O=>Bb:=h

inductive PostIX (G:Cx) (A:Around) (target:Expr) (H:AH) (s:Shared) (xs:List PV) (X:List Addr) (Dn:Heap→Prop) (it:Value) (s':Shared):Prop where
 | mk (I:Addr) (fp wr:List Addr) (P Md:Nat→Value→Heap→Prop) (St:Nat→Heap→Prop) (e:it=.ref I) (ok:OkH G H s') (k:Kp H s H s') (hw:∀ b∈wr,s.heap.get? b=none∨b∈X) (S:J7 G A target H s'.heap I xs fp wr P Md St)
   (dn:∀(s:Shared) (Q:Option Value→Shared→Prop) (E:Value→Shared→Prop),St xs.length s.heap→(∀ h' tk,(∀ b o,b∉wr→s.heap.get? b=some o→h'.get? b=some o)→(∀ b∈wr,Zz.z b→∃ o,h'.get? b=some o∧Tup o)→Dn h'→Q none { s with heap:=h',toks:=tk })→wpAny (model G.prog G.w) A (pyNext (.ref I)) Q E s):PostIX G A target H s xs X Dn it s'
theorem PostIX.on{target:Expr}{s s':Shared}{xs:List PV}{X:List Addr}{Dn:Heap→Prop}{it:Value}{W:Prop}(x:PostIX G A target H s xs X Dn it s')(f:∀(I:Addr) (fp wr:List Addr) (P Md:Nat→Value→Heap→Prop) (St:Nat→Heap→Prop),it=.ref I→OkH G H s'→Kp H s H s'→(∀ b∈wr,s.heap.get? b=none∨b∈X)→J7 G A target H s'.heap I xs fp wr P Md St →
  (∀(s:Shared) (Q:Option Value→Shared→Prop) (E:Value→Shared→Prop),St xs.length s.heap→(∀ h' tk,(∀ b o,b∉wr→s.heap.get? b=some o→h'.get? b=some o)→(∀ b∈wr,Zz.z b→∃ o,h'.get? b=some o∧Tup o)→Dn h'→Q none { s with heap:=h',toks:=tk })→wpAny (model G.prog G.w) A (pyNext (.ref I)) Q E s)→W):W:=by
 cases x with | mk I fp wr P Md St h1 h2 h3 h4 h5 h6=>exact f I fp wr P Md St h1 h2 h3 h4 h5 h6
theorem PostI.toX{target:Expr}{s s':Shared}{xs:List PV}{it:Value}(ok0:OkH G H s)(x:PostI G A target H s xs it s'):PostIX G A target H s xs [] (fun O=>True) it s':=by
 obtain⟨I,fp,wr,P,Md,St,e,ok,k,hw,S⟩:=x
 exact⟨I,fp,wr,P,Md,St,e,ok,k,fun b hb=>.inl (hw b hb),S,fun s Q E st h=>S.K.done s Q E st fun h' tk hk=>h h' tk hk (fun b hb hz=>absurd hz (BP ok0 (hw b hb))) trivial⟩
omit Z in
theorem KpI.toKp{H':AH}{s s':Shared}(x:KpI (fun O=>False) [] H s H' s'):Kp H s H' s' :=
 ⟨x.os,fun b o e hm=>x.kept b o e hm id (List.not_mem_nil),fun b o e=>(x.dom b o e).imp id fun h=>h.resolve_left (List.not_mem_nil)⟩
omit Z in
theorem Kp.toI{X:List Addr}{H':AH}{s s':Shared}(x:Kp H s H' s'):KpI (fun O=>False) X H s H' s':=(x.toF (W:=fun O=>False)).toI
set_option tactic.hygienic true in
theorem Ey{X:List Addr}{Dn:Heap→Prop}{elt target iter:Expr}{ifs:List Expr}{gs:List Comprehension}{scope:Scope}{pos:Pos}{xs:List PV}{inv:Nat→List PV→AH→Prop}{use:Option (Value→Sem Unit)}{Q':Value→Shared→Prop}{x:Value}{s:Shared}
  (hsc:Ao scope=true) (hfree:By F scope) (ok:OkH G H s) {G0:Cx} (lr:LR G0 F σ s.heap) (old:∀{H s},OkH G H s→OkH G0 H s) (hit:wpAny (model G.prog G.w) F.A (pyIter x) (PostIX G F.A target H s xs X Dn) Bb s) {Er:Fx→AH→Shared→Value→Shared→Prop} {E:Value→Shared→Prop} (hloop:∀ F':Fx,CF F F' scope→JD G F' elt (⟨target,iter,ifs,0⟩::gs) scope pos target (σ.fr scope) H xs inv (Er F'))
  (herr:∀ F' H5 s5 e s6 D C,F'.A=F.A→F'.env.frame=F.env.frame→OkH G H5 s5→LR G F' (σ.fr scope) s5.heap→F'.env.locals=C→KpI (fun O=>False) X H s H5 s5→s.heap.get? C=none→(G.base.get? C=none∧∀ o,¬ G.D C o)→Er F' H5 s5 e s6 →
   notedBy (model G.prog G.w) F.A F'.env (fun x s'=>compPost (model G.prog G.w) F.A E use Q' (.ref D) C (.error x) s') e s6)
  (fin:∀ acc H' D C s',inv xs.length acc H'→H' D=none→acc.length≤sizeLine→OkH G (H'.set D (.lst acc)) s'→KpI (fun O=>False) X H s (H'.set D (.lst acc)) s'→s.heap.get? C=none→(∃ m,s'.heap.Ns C m)→(G.base.get? C=none∧∀ o,¬ G.D C o)→Dn s'.heap→compPost (model G.prog G.w) F.A E use Q' (.ref D) C (.ok .next) s') :
  wpAny (model G.prog G.w) F.A (pyIter x) (fun it s₂=>wpAny (model G.prog G.w) F.A (newList []) (fun acc s₃ =>
   wpAny (model G.prog G.w) F.A (newFunctionEnv scope F.env.globals (BF F.env scope.names []) [] F.env.qual none .none (some F.env)) (fun cenv s₄ =>
    codeAny (model G.prog G.w) F.A (.compStart (.ListComp elt (⟨target,iter,ifs,0⟩::gs) scope pos) 0 it acc { cenv with scope:=relabel scope F.env }) (compPost (model G.prog G.w) F.A E use Q' acc cenv.locals) s₄) E s₃) E s₂) E s:=by
 unfold Ao at hsc
 simp only[Bool.and_eq_true,beq_iff_eq,decide_eq_true_eq]at hsc
 refine AJ fun WW9 hW9=>?_
 obtain⟨⟨hkind,hnok⟩,hnd⟩:=hsc
 refine hW9 ?_
 clear hW9 WW9
 have hlk:∀ y∈scope.names,y.2=.free→(F.env.cells.lookup y.1).isSome=true:=fun y hy hk=>by
  have hl:scope.names.lookup y.1=some .free:=BQ hnd (by rw[← hk];exact hy)
  refine AJ fun WW9 hW9=>?_
  obtain⟨c,_,h1,_⟩:=lr.cell _ (hfree _ hl)
  refine hW9 ?_
  clear hW9 WW9
  rw[h1];rfl
 refine Ak (wpAny_mono hit (fun it s2 zz2=>zz2.on fun I fp wr P Md St e ok2 k2 hw S dn=>?_) fun O O x=>x)
 subst e
 refine wpAny_newList (hsz:=by rw[sizeLine_eq];exact Nat.zero_le _) (Hz ?_)
 -- the places
 generalize hDe:s2.heap.objs.size=D
 have hDf:s2.heap.get? D=none:=Bx (Nat.le_of_eq hDe)
 generalize hH3:s2.heap.push { cls:=.type "list", data:=.seq (List.toArray []) }=h3
 have hsz3:h3.objs.size=D+1:=by rw[← hH3,Heap.size_push,hDe]
 have hCeq:({ s2 with heap:=h3 }:Shared).heap.objs.size=D+1:=hsz3
 dsimp only
 rw[hsz3]
 generalize hH4:h3.push { cls:=.type "dict", data:=.dict #[] }=h4
 have hsz4:h4.objs.size=D+1+1:=by rw[← hH4,Heap.size_push,hsz3]
 generalize hH5:pushCells h4 scope.names=h5
 have keep23:∀ b o,s2.heap.get? b=some o→h3.get? b=some o:=fun b o e=>hH3▸Heap.get?_push_of_some _ e
 have keep34:∀ b o,h3.get? b=some o→h4.get? b=some o:=fun b o e=>hH4▸Heap.get?_push_of_some _ e
 have keep45:∀ b o,h4.get? b=some o→h5.get? b=some o:=fun b o e=>hH5▸pushCells_keeps _ _ b o e
 have keep25:∀ b o,s2.heap.get? b=some o→h5.get? b=some o:=fun b o e=>keep45 b o (keep34 b o (keep23 b o e))
 have hD5:h5.PlainList D #[]:=⟨0,keep45 _ _ (keep34 _ _ (by rw[← hH3,← hDe];exact Heap.get?_push_size _ rfl))⟩
 have hC5:h5.Ns (D+1) fun O=>none:=by
  have:=(Heap.Ns.new h3 (.type "dict")).keeps (h':=h5) (fun b o e=>keep45 b o (hH4▸e))
  rwa [hsz3]at this
 have ok5:OkH G H { s2 with heap:=h5 }:=⟨fun b o e=>keep25 b o (ok2.keep b o e),ok2.hr.other fun b o e O=>keep25 b o e,ok2.gens,ok2.dat.all keep25,ok2.tab.keep fun b o O e=>keep25 b o e⟩
 have lr2:=lr.kp (old ok) k2
 have hHD:H D=none:=by rw[← hDe];exact Co ok2
 have hbase:∀ b,D≤b→G.base.get? b=none∧∀ o,¬ G.D b o:=fun b hb=>by
  refine⟨?_,fun o hD=>?_⟩
  ·cases e:G.base.get? b with
   | none=>rfl
   | some o=>have:=Heap.lt_size (ok2.keep _ _ e);rw[hDe]at this;exact absurd this (Nat.not_lt.mpr hb)
  ·obtain⟨o',h1,_⟩:=ok2.dat b o hD;have:=Heap.lt_size h1;rw[hDe]at this;exact absurd this (Nat.not_lt.mpr hb)
 -- the frame
 let cs:=cellsFrom (D+1+1) scope.names (BF F.env scope.names [])
 let cenv:Env:={ newEnv scope (D+1) F.env.globals cs F.env.qual none .none (some F.env) builtinsNs with scope:=relabel scope F.env }
 let F':Fx:=⟨F.A,cenv,fun b=>b=D+1∨(D+1+1≤b∧∃ x,cs.lookup x=some b)⟩
 have hclm:=Ee F.env scope.names [] hlk (fun O O h=>by cases h)
 have hspec:∀ x c,cs.lookup x=some c→((BF F.env scope.names []).lookup x=some c∧(x,NameKind.cell)∉scope.names)∨((x,NameKind.cell)∈scope.names∧D+1+1≤c∧h5.IsCell c none):=fun x c e=>by
  have:=Dh scope.names h4 (BF F.env scope.names []) x c (by rw[hsz4];exact e)
  rw[hsz4,hH5]at this;exact this
 have oldc:∀ x c,(BF F.env scope.names []).lookup x=some c→F.env.cells.lookup x=some c:=fun x c e=>hclm x c (mem_of_lookup e)
 have oldlt:∀ x c,F.env.cells.lookup x=some c→(F.env.kindOf x=some .cell∨F.env.kindOf x=some .free)→c<D:=fun x c e hk=>by
  refine AJ fun WW9 hW9=>?_
  obtain⟨c',v₀,h1,⟨o,ho,_⟩,_⟩:=lr2.cell x hk
  refine hW9 ?_
  clear hW9 WW9
  rw[h1]at e;(replace e:=Option.some.inj e;subst e);rw[← hDe];exact Heap.lt_size ho
 have kindF':∀ x,F'.env.kindOf x=(scope.names.lookup x).map fun k=>if (k==NameKind.free&&F.env.scope.kind==.function&&F.env.kindOf x==some .cell)=true then NameKind.cell else k:=fun x=>Fj
 have hcf:CF F F' scope:=by
  refine⟨rfl,fun x k hx hk=>?_,fun x hx=>?_,fun x hx=>?_⟩
  ·simp only[kindF',hx]
   have:(k==NameKind.free)=false:=beq_eq_false_iff_ne.mpr hk
   simp only[this,Bool.false_and,Bool.false_eq_true,if_false,Option.map_some]
  ·simp only[kindF',hx,Option.map_some]
   split
   ·exact .inl rfl
   ·exact .inr rfl
  ·rcases hx with hx | hx
   ·left;simp only[kindF',hx];rfl
   ·right
    refine⟨by simp only[kindF',hx];rfl,fun c hc=>?_⟩
    rcases hspec x c hc with ⟨_,h2⟩ | ⟨_,h1,_⟩
    ·exact absurd (mem_of_lookup hx) h2
    ·exact .inr ⟨h1,x,hc⟩
 have hσfr:∀ x q,σ.fr scope x=some q→scope.names.lookup x=some .free∧σ x=some q:=fun x q e=>by
  unfold Loc.fr at e
  split at e
  ·rename_i hb;exact⟨by simpa using hb,e⟩
  ·injection e
 have notcell:∀ x,scope.names.lookup x=some .free→(x,NameKind.cell)∉scope.names:=fun x hx hm=>by
  rw[BQ hnd hm]at hx;cases hx
 have hlkfree:∀ x,scope.names.lookup x=some .free→∃ c,cs.lookup x=some c∧F.env.cells.lookup x=some c:=fun x hx=>by
  have h1:=Ef F.env scope.names [] x (.inl (mem_of_lookup hx))
  obtain⟨c,hc⟩:=Option.isSome_iff_exists.mp h1
  have h2:(cs.lookup x).isSome=true:=A6 _ _ _ (.inr (by rw[hc];rfl))
  obtain⟨c',hc'⟩:=Option.isSome_iff_exists.mp h2
  rcases hspec x c' hc' with ⟨h3,_⟩ | ⟨h3,_⟩
  ·exact⟨c',hc',oldc x c' h3⟩
  ·exact absurd h3 (notcell x hx)
 have hσ':∀ x q,σ.fr scope x=some q→(F'.env.kindOf x=some .cell∨F'.env.kindOf x=some .free)∧∀ c,F'.env.cells.lookup x=some c→¬ F'.W c:=fun x q e=>by
  obtain⟨h1,h2⟩:=hσfr x q e
  refine⟨hcf.free x h1,fun c hc=>?_⟩
  refine AJ fun WW9 hW9=>?_
  obtain⟨c',h3,h4⟩:=hlkfree x h1
  refine hW9 ?_
  clear hW9 WW9
  have hc':cs.lookup x=some c:=hc
  have hcc:c'=c:=by rw[h3]at hc';exact Option.some.inj hc'
  subst hcc
  have hlt:=oldlt x c' h4 (hfree x h1)
  rintro(h | ⟨h,_⟩)
  ·rw[h]at hlt;exact absurd hlt (Nat.not_lt.mpr (Nat.le_succ _))
  ·exact absurd hlt (Nat.not_lt.mpr (Nat.le_trans (Nat.le_add_right D 2) h))
 have lr5:LR G F' (σ.fr scope) h5:=by
  refine⟨fun b hb=>?_,fun b hb=>?_,.inl rfl,hkind,?_,lr.glob,lr.blt,⟨_,hC5,fun x q e hk=>?_⟩,fun x q e=>.inr (hσ' x q e).1,fun x hx=>?_,?_⟩
  ·rcases hb with rfl | ⟨h,_⟩
   ·exact hbase _ (Nat.le_succ _)
   ·exact hbase _ (Nat.le_trans (Nat.le_add_right D 2) h)
  ·rcases hb with rfl | ⟨h,x,hx⟩
   ·exact D4 hC5
   ·rcases hspec x b hx with ⟨h1,_⟩ | ⟨_,_,h2⟩
    ·have h3:=oldc x b h1
     have hk:(x,NameKind.free)∈scope.names∨False:=.inl (Cn F.env scope.names [] x b (mem_of_lookup h1) (fun h=>by cases h))
     have hlt:=oldlt x b h3 (hfree x (BQ hnd (hk.resolve_right id)))
     exact absurd hlt (Nat.not_lt.mpr (Nat.le_trans (Nat.le_add_right D 2) h))
    ·exact FI h2
  ·show B2 (relabel scope F.env)=true
   unfold B2 relabel
   rw[List.all_map]
   unfold B2 at hnok
   rw[List.all_eq_true]at hnok ⊢
   intro y hy
   have:=hnok y hy
   obtain⟨n,k⟩:=y
   simp only[Function.comp]
   split<;>exact this
  ·rcases(hσ' x q e).1 with h | h<;>(rw[hk]at h;cases h)
  ·rw[kindF']at hx
   cases hl:scope.names.lookup x with
   | none=>rw[hl]at hx;simp at hx
   | some k =>
    by_cases hkf:k=.free
    ·subst hkf
     refine AJ fun WW9 hW9=>?_
     obtain⟨c,h1,h2⟩:=hlkfree x hl
     refine hW9 ?_
     clear hW9 WW9
     refine AJ fun WW9 hW9=>?_
     obtain⟨c',v₀,g1,g2,g3⟩:=lr2.cell x (hfree x hl)
     refine hW9 ?_
     clear hW9 WW9
     rw[h2]at g1;(replace g1:=Option.some.inj g1;subst g1)
     refine⟨c,v₀,h1,g2.keeps keep25,fun q e=>?_⟩
     refine AJ fun WW9 hW9=>?_
     obtain⟨v,e1,e2⟩:=g3 q (hσfr x q e).2
     refine hW9 ?_
     clear hW9 WW9
     exact⟨v,e1,VR.mono (fun b o O e=>keep25 b o e) _ _ e2⟩
    ·have hkc:k=.cell:=by
      rw[hl,Option.map_some]at hx
      have hb:(k==NameKind.free)=false:=beq_eq_false_iff_ne.mpr hkf
      simp only[hb,Bool.false_and,Bool.false_eq_true,if_false]at hx
      rcases hx with h | h
      ·(replace h:=Option.some.inj h;subst h);rfl
      ·(replace h:=Option.some.inj h;subst h);exact absurd rfl hkf
     subst hkc
     have hs:=A6 scope.names (D+1+1) (BF F.env scope.names []) (x:=x) (.inl (mem_of_lookup hl))
     obtain⟨c,hc⟩:=Option.isSome_iff_exists.mp hs
     rcases hspec x c hc with ⟨_,h2⟩ | ⟨_,_,h2⟩
     ·exact absurd (mem_of_lookup hl) h2
     ·refine⟨c,_,hc,h2,fun q e=>?_⟩
      rw[(hσfr x q e).1]at hl;cases hl
  ·show cs.Pairwise _
   refine C5 _ _ _ (CT lr.apart _ (C4 F.env scope.names [] (by simpa using hnd)) hclm) fun y hy=>?_
   have hm:=Cn F.env scope.names [] y.1 y.2 hy (fun h=>by cases h)
   have:=oldlt y.1 y.2 (hclm y.1 y.2 hy) (hfree _ (BQ hnd hm))
   exact Nat.lt_of_lt_of_le this (Nat.le_add_right D 2)
 have S5:J7 G F'.A target H h5 I xs fp wr P Md St :=
  ⟨S.K,S.K.frame _ _ _ S.st fun b O o e=>keep25 b o e,S.odd,S.oddM,S.base,S.self,fun b hb=>(S.src b hb).imp id fun zz0=>by obtain⟨o,h1,h2,h3⟩:=zz0;exact⟨o,keep25 b o h1,h2,h3⟩,fun i v h' hk hi hP=>S.val i v h' (fun b o hf e=>hk b o hf (keep25 b o e)) hi hP⟩
 have hDfp:D∉fp:=fun hm=>by
  rcases S.src D hm with h | ⟨o,h1,_⟩
  ·obtain⟨o,ho,_⟩:=S.odd 0 _ S.st D h;rw[hDf]at ho;injection ho
  ·rw[hDf]at h1;injection h1
 have sD:∀ b,D≤b→s.heap.get? b=none:=fun b hb=>by
  have h2:s2.heap.get? b=none:=Bx (by rw[hDe];exact hb)
  have hHb:H b=none:=by
   cases e:H b with
   | none=>rfl
   | some o=>obtain⟨⟨vs,n,hl,_⟩,_⟩:=ok2.hr _ _ e;have hl':s2.heap.get? b=some _:=hl;rw[h2]at hl';injection hl'
  exact k2.back (Ah hHb) h2
 have kn:∀{H' Hn:AH} {s':Shared},KpI F'.W (D::wr) H { s2 with heap:=h5 } H' s'→(∀ b,b≠D→Hn b=H' b)→KpI (fun O=>False) X H s Hn s':=fun{H' Hn s'} k' hHn=>by
  have ltD:∀ b o,s.heap.get? b=some o→b<D:=fun b o e=>Nat.lt_of_not_le fun hb=>by rw[sD b hb]at e;injection e
  have nW:∀ b,b<D→¬ F'.W b:=fun b hb h=>by
   rcases h with h | ⟨h,_⟩
   ·rw[h]at hb;exact absurd hb (Nat.not_lt.mpr (Nat.le_succ _))
   ·exact absurd hb (Nat.not_lt.mpr (Nat.le_trans (Nat.le_add_right D 2) h))
  have nwr:∀ b o,s.heap.get? b=some o→b∉X→b∉D::wr:=fun b o e hX h=>by
   rcases List.mem_cons.mp h with rfl | h
   ·exact absurd (ltD _ _ e) (Nat.lt_irrefl _)
   ·rcases hw b h with h | h
    ·rw[h]at e;injection e
    ·exact hX h
  refine⟨k'.os.trans k2.os,fun b o e hm O hX=>(k2.kept b o e hm).step fun o' e'=>k'.kept b o' (keep25 b o' e') hm (nW b (ltD b o e)) (nwr b o e hX),fun b o e=>?_,fun O O O O h=>h.elim⟩
  by_cases hb:b=D
  ·exact .inl (sD b (Nat.le_of_eq hb.symm))
  ·rw[hHn b hb]at e
   have back:¬ Ct H b→h5.get? b=none→s.heap.get? b=none:=fun hm h=>by
    cases e:s.heap.get? b with
    | none=>rfl
    | some o=>obtain⟨o',h1,_⟩:=k2.kept b o e hm;rw[keep25 b o' h1]at h;injection h
   rcases k'.dom b o e with h | h | h
   ·cases hHb:H b with
    | none=>exact .inl (back (Ah hHb) h)
    | some o' =>
     cases o' with
     | lst ys=>exact .inr (.inr ⟨_,rfl,fun O=>rfl⟩)
     | fro ys=>exact .inl (back (AS hHb) h)
   ·rcases List.mem_cons.mp h with rfl | h
    ·exact absurd rfl hb
    ·exact(hw b h).imp id .inl
   ·exact .inr (.inr h)
 have loop:codeAny (model G.prog G.w) F'.A (.compLoop (.ListComp elt (⟨target,iter,ifs,0⟩::gs) scope pos) 0 (.ref I) (.ref D) F'.env) (compPost (model G.prog G.w) F.A E use Q' (.ref D) (D+1)) { s2 with heap:=h5 }:=by
  refine hloop F' hcf (s:={ s2 with heap:=h5 }) S5 ok5 lr5 hHD (hbase D (Nat.le_refl _)).1 hD5 hDfp hσ' dn _ (fun H5 s5 e s6 ok5' lr5' k5' he=>herr F' H5 s5 e s6 D (D+1) rfl rfl ok5' lr5' rfl (kn k5' fun O O=>rfl) (sD _ (Nat.le_succ _)) (hbase _ (Nat.le_succ _)) he) fun acc H' s' hinv ok' lr' k' hD' zz8 hal hdn=>zz8.elim fun vs zz8=>zz8.elim fun hpl hvs=>?_
  have okn:OkH G (H'.set D (.lst acc)) s':=⟨ok'.keep,fun a o e=>by
   unfold AH.set at e
   by_cases ha:a=D
   ·rw[if_pos ha]at e;(replace e:=Option.some.inj e;subst e);subst ha
    obtain⟨n,hn⟩:=hpl
    exact⟨⟨vs,n,hn,hvs,hal⟩,fun O O=>(hbase _ (Nat.le_refl _)).1⟩
   ·rw[if_neg ha]at e;exact ok'.hr a o e,ok'.gens,ok'.dat,ok'.tab⟩
  refine AJ fun WW9 hW9=>?_
  obtain⟨m,hm,_⟩:=lr'.ns
  refine hW9 ?_
  clear hW9 WW9
  exact fin acc H' D (D+1) s' hinv hD' hal okn (kn k' fun b hb=>by unfold AH.set;rw[if_neg hb]) (sD _ (Nat.le_succ _)) ⟨m,hm⟩ (hbase _ (Nat.le_succ _)) hdn
 exact codeAny_compStart_list loop (S5.self _ _ _ S5.st loop)
theorem I7{elt target iter:Expr}{ifs:List Expr}{scope:Scope}{pos:Pos}{xs:List PV}{inv:Nat→List PV→AH→Prop}{use:Option (Value→Sem Unit)}{Q':Value→Shared→Prop}{p:PV}{x:Value}{s:Shared}
  (hsc:Ao scope=true) (hfree:By F scope) (ok:OkH G H s) {G0:Cx} (lr:LR G0 F σ s.heap) (old:∀{H s},OkH G H s→OkH G0 H s) (hx:VR s.heap p x) (hit:F2 G F.A target p H xs) (hz:xs.length≤sizeLine) (h0:inv 0 [] H) {Er:Fx→AH→Shared→Value→Shared→Prop} {E:Value→Shared→Prop} (step:Ek G F scope target elt ifs σ xs inv Er)
  (herr:∀ F' H5 s5 e s6 D C,F'.A=F.A→F'.env.frame=F.env.frame→OkH G H5 s5→LR G F' (σ.fr scope) s5.heap→F'.env.locals=C→Kp H s H5 s5→s.heap.get? C=none→(G.base.get? C=none∧∀ o,¬ G.D C o)→Er F' H5 s5 e s6 →
   notedBy (model G.prog G.w) F.A F'.env (fun x s'=>compPost (model G.prog G.w) F.A E use Q' (.ref D) C (.error x) s') e s6)
  (fin:∀ acc H' D C s',inv xs.length acc H'→H' D=none→acc.length≤sizeLine→OkH G (H'.set D (.lst acc)) s'→Kp H s (H'.set D (.lst acc)) s'→s.heap.get? C=none→(∃ m,s'.heap.Ns C m)→(G.base.get? C=none∧∀ o,¬ G.D C o)→compPost (model G.prog G.w) F.A E use Q' (.ref D) C (.ok .next) s') :
  wpAny (model G.prog G.w) F.A (pyIter x) (fun it s₂=>wpAny (model G.prog G.w) F.A (newList []) (fun acc s₃ =>
   wpAny (model G.prog G.w) F.A (newFunctionEnv scope F.env.globals (BF F.env scope.names []) [] F.env.qual none .none (some F.env)) (fun cenv s₄ =>
    codeAny (model G.prog G.w) F.A (.compStart (.ListComp elt [⟨target,iter,ifs,0⟩] scope pos) 0 it acc { cenv with scope:=relabel scope F.env }) (compPost (model G.prog G.w) F.A E use Q' acc cenv.locals) s₄) E s₃) E s₂) E s :=
 Ey hsc hfree ok lr old (wpAny_mono (hit s x ok hx) (fun O O x=>x.toX ok) fun O O x=>x) (LH hz h0 step) (fun F' H5 s5 e s6 D C h1 h2 h3 h4 h5 h6=>herr F' H5 s5 e s6 D C h1 h2 h3 h4 h5 h6.toKp)
  fun acc H' D C s' h1 h2 h3 h4 h5 h6 h7 h8 O=>fin acc H' D C s' h1 h2 h3 h4 h5.toKp h6 h7 h8
end
end Mine
namespace Mine
variable [Z:Zz]
section
variable {G:Cx} {A:Around} {F:Fx} {σ:Loc} {H:AH}


theorem Jv{Hn:AH}{s0 s:Shared}{C:Addr}{h':Heap}{m:Str→Option Value}(ok:OkH G Hn s)(k:Kp H s0 Hn s)(hC:s0.heap.get? C=none)(hn:s.heap.Ns C m)(hb:G.base.get? C=none∧∀ o,¬ G.D C o)(hs:Heap.SameBut C s.heap h') :
  OkH G Hn { s with heap:=h' }∧Kp H s0 Hn { s with heap:=h' }∧(∀ p v,VR s.heap p v→VR h' p v):=by
 obtain⟨o,ho,hd⟩:=D4 hn
 have kk:∀ b o,s.heap.get? b=some o→FK o∨Bp o→h'.get? b=some o:=fun b o' e hf=>(hs.2 b (by rintro rfl;rw[ho]at e;(replace e:=Option.some.inj e;subst e);exact hd.not_solid hf)).trans e
 exact⟨⟨fun b o e=>(hs.2 b (by rintro rfl;rw[hb.1]at e;injection e)).trans (ok.keep b o e),ok.hr.other kk,ok.gens,ok.dat.dc fun b o O hD e=>(hs.2 b (by rintro rfl;obtain⟨o',hD⟩:=hD;exact hb.2 _ hD)).trans e,ok.tab.keep fun b o' hl e=>(hs.2 b (by rintro rfl;rw[ho]at e;(replace e:=Option.some.inj e;subst e);exact hl.not_dc hd)).trans e⟩,
  ⟨k.os,fun b o e hm=>(k.kept b o e hm).step fun o' e'=>.of ((hs.2 b (by rintro rfl;rw[hC]at e;injection e)).trans e'),k.dom⟩,fun p v hv=>VR.mono (fun b o hf e=>kk b o e (.inl hf)) p v hv⟩

omit Z in
theorem BS{scope:Scope}(hsc:Ao scope=true):∀ x∈scope.names,x.2=.local→scope.names.lookup x.1=some .local:=fun x hx hk=>by
 unfold Ao at hsc
 simp only[Bool.and_eq_true,decide_eq_true_eq]at hsc
 exact BQ hsc.2 (by rw[← hk];exact hx)
omit Z in
theorem CH{scope:Scope}(hsc:Ao scope=true):scope.kind=.function:=by
 unfold Ao at hsc
 simp only[Bool.and_eq_true,beq_iff_eq]at hsc
 exact hsc.1.1
theorem D9{scope:Scope}{h:Heap}(hsc:Ao scope=true)(hfree:By F scope)(lr:LR G F σ h):closureFor scope F.env=pure (BF F.env scope.names []) :=
 GG F.env scope fun y hy hk=>by
  unfold Ao at hsc
  simp only[Bool.and_eq_true,decide_eq_true_eq]at hsc
  obtain⟨c,_,h1,_⟩:=lr.cell _ (hfree _ (BQ hsc.2 (by rw[← hk];exact hy)))
  rw[h1];rfl

theorem Ig{elt target iter:Expr}{ifs:List Expr}{scope:Scope}{pos:Pos}{Q:PV→AH→Prop}(hsc:Ao scope=true)(hfree:By F scope)
  (h:Ev G F iter σ H (fun p H1=>∃(xs:List PV) (inv:Nat→List PV→AH→Prop),F2 G F.A target p H1 xs∧xs.length≤sizeLine∧inv 0 [] H1∧CompStep G F scope target elt ifs σ xs inv ∧
   ∀ acc H',inv xs.length acc H'→∀ a,H' a=none→Q (.ref a) (H'.set a (.lst acc))))
  (hs:∀ x,foldedSetIterable iter F.env x=pure x):Ev G F (.ListComp elt [⟨target,iter,ifs,0⟩] scope pos) σ H Q:=by
 intro s ok lr
 rw[eval_ListComp]
 refine wpAny_comprehension_free (g:=⟨target,iter,ifs,0⟩) (gs:=[]) rfl hs (D9 hsc hfree lr) (CH hsc) (BS hsc) ?_
 refine wpAny_mono (h s ok lr) (fun x s1 zz2=>zz2.on fun p H1 hx ok1 k1 zz2_5=>zz2_5.elim fun xs zz2_5=>zz2_5.elim fun inv zz2_5=>zz2_5.elim fun hit zz2_5=>zz2_5.elim fun hz zz2_5=>zz2_5.elim fun h0 zz2_5=>zz2_5.elim fun hstep hfin=>?_) fun O O x=>x
 refine I7 (E:=Bb) (Er:=fun O O O=>Bb) hsc hfree ok1 (lr.kp ok k1) id hx hit hz h0 hstep (fun O O O O O O O O O O O O O O O h=>h.elim) fun acc H' D C s' hinv hD hal okn kn hC zz11 hb=>zz11.elim fun m hm=>?_
 refine⟨m,hm,fun h' hs'=>?_⟩
 obtain⟨ok2,k2,_⟩:=Jv okn kn hC hm hb hs'
 exact⟨.ref D,_,rfl,ok2,k1.trans k2,hfin acc H' hinv D hD⟩

omit Z in
theorem Bs{elt:Expr}{gens:List Comprehension}{scope:Scope}{cpos npos pos:Pos}{y:Str}{Q:Flow→Shared→Prop}{E:Value→Shared→Prop}{s:Shared}(hfn:F.env.scope.kind=.function)(hk:F.env.kindOf y=some .local)
  (hline:(npos.line==cpos.line)=true) (hny:scope.names.any (fun x=>x.1==y&&(x.2==.local||x.2==.cell))=false)
  (h:wpAny (model G.prog G.w) F.A (comprehension (.ListComp elt gens scope cpos) scope F.env (firstIterPos gens cpos) (newList []) (firstAsync gens) (firstIter gens F.env) (some fun v=>assignAll v ((assignEach [.Name y npos] F.env).map (·.2))))
   (fun O s'=>Q .next s') E s):wpAny (model G.prog G.w) F.A (exec (.Assign [.Name y npos] (.ListComp elt gens scope cpos) pos) F.env) Q E s:=by
 have hsw:swapsWith (.ListComp elt gens scope cpos) (some (.Name y npos)) pos.line F.env=pure true:=by
  show pure (F.env.blockKind==.function&&F.env.kindOf y==some .local&&npos.line==(Expr.ListComp elt gens scope cpos).pos.line&&!(scope.names.any fun(n,k)=>n==y&&(k==.local||k==.cell)))=pure true
  have e1:F.env.blockKind=.function:=by unfold Env.blockKind;rw[hfn];rfl
  rw[e1,hk]
  have e2:(npos.line==(Expr.ListComp elt gens scope cpos).pos.line)=true:=hline
  have e3:(scope.names.any fun(n,k)=>n==y&&(k==.local||k==.cell))=false:=hny
  simp only[e2,e3];rfl
 have he:exec (.Assign [.Name y npos] (.ListComp elt gens scope cpos) pos) F.env=(do
   standAt pos
   if ← swapsWith (.ListComp elt gens scope cpos) (some (.Name y npos)) pos.line F.env then do
    evalThenUse (.ListComp elt gens scope cpos) F.env fun v=>assignAll v ((assignEach [.Name y npos] F.env).map (·.2))
    pure .next
   else do
    let v ← eval (.ListComp elt gens scope cpos) F.env
    assignStores F.env v (← swappedStores [.Name y npos] (.ListComp elt gens scope cpos) F.env) ((assignEach [.Name y npos] F.env).map (·.2))):=rfl
 have hu:(evalThenUse (.ListComp elt gens scope cpos) F.env fun v=>assignAll v ((assignEach [.Name y npos] F.env).map (·.2)))=(do
   let _ ← comprehension (.ListComp elt gens scope cpos) scope F.env (firstIterPos gens cpos) (newList []) (firstAsync gens) (firstIter gens F.env) (some fun v=>assignAll v ((assignEach [.Name y npos] F.env).map (·.2)))
   pure ()):=rfl
 rw[he,hsw,hu]
 refine wpAny_bind (wpAny_standAt (wpAny_bind (wpAny_pure ?_)))
 simp only[if_true]
 refine wpAny_bind (wpAny_bind ?_)
 exact wpAny_mono h (fun O O x=>wpAny_pure (wpAny_pure x)) fun O O x=>x

inductive PostFX (G:Cx) (F:Fx) (X:List Addr) (Dn:Heap→Prop) (H:AH) (s:Shared) (Q:PF→Loc→AH→Prop) (f:Flow) (s':Shared):Prop where
 | mk (pf:PF) (σ':Loc) (H':AH) (hf:FR s'.heap pf f) (ok:OkH G H' s') (lr:LR G F σ' s'.heap) (k:KpI F.W X H s H' s') (dn:Dn s'.heap) (hq:Q pf σ' H'):PostFX G F X Dn H s Q f s'
theorem PostFX.on{X:List Addr}{Dn:Heap→Prop}{s s':Shared}{Q:PF→Loc→AH→Prop}{f:Flow}{W:Prop}(x:PostFX G F X Dn H s Q f s')(g:∀ pf σ' H',FR s'.heap pf f→OkH G H' s'→LR G F σ' s'.heap→KpI F.W X H s H' s'→Dn s'.heap→Q pf σ' H'→W):W:=by
 cases x with | mk pf σ' H' h1 h2 h3 h4 h5 h6=>exact g pf σ' H' h1 h2 h3 h4 h5 h6
omit Z in
theorem KpI.widen{W:Addr→Prop}{X:List Addr}{H':AH}{s s':Shared}(x:KpI (fun O=>False) X H s H' s'):KpI W X H s H' s' :=
 ⟨x.os,fun b o e hm O hX=>x.kept b o e hm id hX,x.dom,fun b o e hm O hX=>let ⟨o',h1,_⟩:=x.kept b o e hm id hX;⟨o',h1⟩⟩
noncomputable def DY(X:List Addr)(h:Heap):Prop:=∀ b∈X,∃ o,h.get? b=some o∧OddZ b o
theorem KpI.vrX{X:List Addr}{H':AH}{s s':Shared}(x:KpI (fun O=>False) X H s H' s')(ok:OkH G H s)(hX:DY X s.heap){p:PV}{v:Value}(h:VR s.heap p v):VR s'.heap p v :=
 VR.monoZ (fun b o hf e=>(x.kept b o e (Aw ok.hr e (A5 hf.1)) id fun hm=>by
  obtain⟨o',h1,h2⟩:=hX b hm;rw[h1]at e;(replace e:=Option.some.inj e;subst e);exact h2.not_fix hf).hard (BJ hf.1)) p v h
theorem LR.kpX{X:List Addr}{H':AH}{s s':Shared}(lr:LR G F σ s.heap)(ok:OkH G H s)(k:KpI (fun O=>False) X H s H' s')(hX:DY X s.heap):LR G F σ s'.heap :=
 lr.at (fun b o hd e=>(k.kept b o e (CO ok.hr ⟨o,e,hd⟩) id fun hm=>by
  obtain⟨o',h1,h2⟩:=hX b hm;rw[h1]at e;(replace e:=Option.some.inj e;subst e);exact h2.not_soft (.inl hd)).data hd) fun O O h=>k.vrX ok hX h
theorem KpI.thenF{W:Addr→Prop}{X:List Addr}{H' H'':AH}{s s' s'':Shared}(x:KpI W X H s H' s')(y:KpF W H' s' H'' s''):KpI W X H s H'' s'':=x.trans y.toI
theorem PostFX.plain{Dn:Heap→Prop}{s s':Shared}{Q:PF→Loc→AH→Prop}{f:Flow}(x:PostFX G F [] Dn H s Q f s'):PostF G F H s Q f s':=by
 obtain⟨pf,σ',H',h1,h2,h3,h4,_,h6⟩:=x
 exact⟨pf,σ',H',h1,h2,h3,⟨h4.os,fun b o e hm hw=>h4.kept b o e hm hw List.not_mem_nil,fun b o e=>(h4.dom b o e).imp id fun h=>h.resolve_left List.not_mem_nil,fun b o e hm hw=>h4.live b o e hm hw List.not_mem_nil⟩,h6⟩

theorem B8{elt target iter:Expr}{ifs:List Expr}{gs:List Comprehension}{scope:Scope}{cpos npos:Pos}{y:Str}{Q:PF→Loc→AH→Prop}{X:List Addr}{Dn:Heap→Prop}{xs:List PV}{inv:Nat→List PV→AH→Prop}{x:Value}{s:Shared}(hsc:Ao scope=true)(hfree:By F scope)(hk:F.env.kindOf y=some .local)
  (ok:OkH G H s) (lr:LR G F σ s.heap) (hX0:DY X s.heap) (hit:wpAny (model G.prog G.w) F.A (pyIter x) (PostIX G F.A target H s xs X Dn) Bb s) (hloop:∀ F':Fx,CF F F' scope→JD G F' elt (⟨target,iter,ifs,0⟩::gs) scope cpos target (σ.fr scope) H xs inv (fun O O=>Bb))
  (hXo:∀ h,Dn h→DY X h) (hDn:∀ h h',Dn h→(∀ b∈X,∀ o,h.get? b=some o→h'.get? b=some o)→Dn h')
  (hfin:∀ acc H',inv xs.length acc H'→∀ a,H' a=none→Q .next (σ.set y (.ref a)) (H'.set a (.lst acc))) {R:Shared→Prop} (hR:∀ s',PostFX G F X Dn H s Q .next s'→R s') :
  wpAny (model G.prog G.w) F.A (pyIter x) (fun it s₂=>wpAny (model G.prog G.w) F.A (newList []) (fun acc s₃ =>
   wpAny (model G.prog G.w) F.A (newFunctionEnv scope F.env.globals (BF F.env scope.names []) [] F.env.qual none .none (some F.env)) (fun cenv s₄ =>
    codeAny (model G.prog G.w) F.A (.compStart (.ListComp elt (⟨target,iter,ifs,0⟩::gs) scope cpos) 0 it acc { cenv with scope:=relabel scope F.env }) (compPost (model G.prog G.w) F.A Bb (some fun v=>assignAll v ((assignEach [.Name y npos] F.env).map (·.2))) (fun O s'=>R s') acc cenv.locals) s₄) Bb s₃) Bb s₂) Bb s:=by
 refine Ey (E:=Bb) (Er:=fun O O O=>Bb) hsc hfree ok lr id hit hloop (fun O O O O O O O O O O O O O O O h=>h.elim) fun acc H' D C s' hinv hD hal okn kn hC zz11 hb hdn=>zz11.elim fun m hm=>?_
 have hCL:C≠F.env.locals:=by
  rintro rfl;obtain⟨o,ho,_⟩:=D4 (lr.ns.choose_spec.1);rw[hC]at ho;injection ho
 have hCW:¬ F.W C:=fun hw=>by obtain⟨o,ho,_⟩:=lr.odd C hw;rw[hC]at ho;injection ho
 have hXd:=hXo _ hdn
 have lrn:LR G F σ s'.heap:=lr.kpX ok kn hX0
 show wpAny _ _ (assign (.Name y npos) F.env (.ref D)) _ _ _
 refine wpAny_assign_Name (wpAny_mono (BY (A:=F.A) (Q:=fun σ' H2=>Q .next σ' H2) (p:=.ref D) (.inl hk) okn lrn rfl (hfin acc H' hinv D hD)) (fun O s2 zz2=>zz2.on fun σ' H2 ok2 lr2 k2 hq=>?_) fun O O x=>x)
 -- the map of the comprehension's frame goes
 obtain⟨oC,hoC,hdC⟩:=D4 hm
 have hnm:=CO okn.hr ⟨oC,hoC,hdC⟩
 have hm2:s2.heap.Ns C m:=by obtain⟨o,es,ep,ho,r⟩:=hm;obtain⟨o',h1,h2⟩:=(k2.kept C o ho hnm hCW).data (.inl ⟨_,_,r.1⟩);exact⟨o',es,ep,h1,h2.trans r.1,r.2⟩
 refine⟨m,hm2,fun h' hs'=>?_⟩
 obtain⟨o2,ho2,hd2⟩:=D4 hm2
 have kk:∀ b o,s2.heap.get? b=some o→FK o∨Bp o→h'.get? b=some o:=fun b o' e hf=>(hs'.2 b (by rintro rfl;rw[ho2]at e;(replace e:=Option.some.inj e;subst e);exact hd2.not_solid hf)).trans e
 have vv:∀ p v,VR s2.heap p v→VR h' p v:=fun p v hv=>VR.mono (fun b o hf e=>kk b o e (.inl hf)) p v hv
 have hXk:∀ b∈X,∀ o,s'.heap.get? b=some o→h'.get? b=some o:=fun b hb' o e=>by
  obtain⟨o',h1,h2⟩:=hXd b hb'
  rw[h1]at e;(replace e:=Option.some.inj e;subst e)
  have h3:=k2.odd_kept lrn h1 (Aw okn.hr h1 h2.not_lst) h2.not_soft
  exact(hs'.2 b (by rintro rfl;rw[ho2]at h3;(replace h3:=Option.some.inj h3;subst h3);exact h2.not_soft (.inl hd2))).trans h3
 have lcell:∀ x,(F.env.kindOf x=some .cell∨F.env.kindOf x=some .free)→∀ c,F.env.cells.lookup x=some c→c≠C:=fun x hx c hc=>by
  rintro rfl
  obtain⟨c',v₀,g1,⟨o,ho,_⟩,_⟩:=lr.cell x hx
  rw[hc]at g1;(replace g1:=Option.some.inj g1;subst g1);rw[hC]at ho;injection ho
 refine hR _ ⟨.next,σ',H2,rfl,⟨fun b o e=>(hs'.2 b (by rintro rfl;rw[hb.1]at e;injection e)).trans (ok2.keep b o e),ok2.hr.other kk,ok2.gens,ok2.dat.dc fun b o O hD e=>(hs'.2 b (by rintro rfl;obtain⟨o',hD⟩:=hD;exact hb.2 _ hD)).trans e,ok2.tab.keep fun b o' hl e=>(hs'.2 b (by rintro rfl;rw[ho2]at e;(replace e:=Option.some.inj e;subst e);exact hl.not_dc hd2)).trans e⟩,?_,?_,hDn _ _ hdn hXk,hq⟩
 ·obtain⟨m2,hn2,hmm⟩:=lr2.ns
  refine⟨lr2.own,fun b hw=>?_,lr2.wloc,lr2.fn,lr2.nok,lr2.glob,lr2.blt,⟨m2,hn2.sameBut hs' (Ne.symm hCL),fun x p e1 e2=>?_⟩,lr2.kinds,fun x hx=>?_,lr2.apart⟩
  ·obtain⟨o,ho,hd⟩:=lr2.odd b hw
   exact⟨o,(hs'.2 b (by rintro rfl;exact hCW hw)).trans ho,hd⟩
  ·obtain⟨v,h1,h2⟩:=hmm x p e1 e2;exact⟨v,h1,vv _ _ h2⟩
  ·obtain⟨c,v₀,h1,h2,h3⟩:=lr2.cell x hx
   refine⟨c,v₀,h1,h2.sameBut hs' (lcell x hx c h1),fun p e=>?_⟩
   obtain⟨v,e1,e2⟩:=h3 p e;exact⟨v,e1,vv _ _ e2⟩
 ·have k12:=(kn.widen (W:=F.W)).thenF k2
  exact⟨k12.os,fun b o e hmm hw hX=>(k12.kept b o e hmm hw hX).step fun o' e'=>.of ((hs'.2 b (by rintro rfl;rw[hC]at e;injection e)).trans e'),k12.dom,fun b o e hm hw hX=>by
   obtain⟨o',ho'⟩:=k12.live b o e hm hw hX
   exact⟨o',(hs'.2 b (by rintro rfl;exact hCW hw)).trans ho'⟩⟩


theorem GJ{elt target iter:Expr}{ifs:List Expr}{scope:Scope}{cpos npos pos:Pos}{y:Str}{Q:PF→Loc→AH→Prop}(hsc:Ao scope=true)(hfree:By F scope)(hk:F.env.kindOf y=some .local)
  (hline:(npos.line==cpos.line)=true) (hny:scope.names.any (fun x=>x.1==y&&(x.2==.local||x.2==.cell))=false)
  (h:Ev G F iter σ H (fun p H1=>∃(xs:List PV) (inv:Nat→List PV→AH→Prop),F2 G F.A target p H1 xs∧xs.length≤sizeLine∧inv 0 [] H1∧CompStep G F scope target elt ifs σ xs inv ∧
   ∀ acc H',inv xs.length acc H'→∀ a,H' a=none→Q .next (σ.set y (.ref a)) (H'.set a (.lst acc))))
  (hs:∀ x,foldedSetIterable iter F.env x=pure x):Ex G F (.Assign [.Name y npos] (.ListComp elt [⟨target,iter,ifs,0⟩] scope cpos) pos) σ H Q:=by
 intro s ok lr
 refine Bs lr.fn hk hline hny ?_
 refine wpAny_comprehension_free (g:=⟨target,iter,ifs,0⟩) (gs:=[]) rfl hs (D9 hsc hfree lr) (CH hsc) (BS hsc) ?_
 refine wpAny_mono (h s ok lr) (fun x s1 zz2=>zz2.on fun p H1 hx ok1 k1 zz2_5=>zz2_5.elim fun xs zz2_5=>zz2_5.elim fun inv zz2_5=>zz2_5.elim fun hit zz2_5=>zz2_5.elim fun hz zz2_5=>zz2_5.elim fun h0 zz2_5=>zz2_5.elim fun hstep hfin=>?_) fun O O x=>x
 exact B8 hsc hfree hk ok1 (lr.kp ok k1) (fun O h=>absurd h List.not_mem_nil) (wpAny_mono (hit s1 x ok1 hx) (fun O O x=>x.toX ok1) fun O O x=>x) (LH hz h0 hstep.toE) (fun O O O h=>absurd h List.not_mem_nil) (fun O O O O=>trivial) hfin fun O h=>h.plain.trans k1.toF
end
end Mine
namespace Mine
variable [zz:Zz]
section
variable {G:Cx} {A:Around} {F:Fx} {σ:Loc} {H:AH}


variable {i j:Int} {Q:PV→AH→Prop}
theorem Bh(h:Q (.int (i+j)) H):Cv G A (binaryOp .Add) (.int i) (.int j) H Q:=by
 rintro s _ _ ok ⟨t,rfl⟩ ⟨u,rfl⟩;exact wpAny_add_int (BE (p:=.int (i+j)) ok ⟨_,rfl⟩ h)
theorem DH(h:Q (.int (i+j)) H):Cv G A (inplaceOp .Add) (.int i) (.int j) H Q:=by
 rintro s _ _ ok ⟨t,rfl⟩ ⟨u,rfl⟩;exact wpAny_iadd_int (BE (p:=.int (i+j)) ok ⟨_,rfl⟩ h)
theorem CL(h:Q (.int (i - j)) H):Cv G A (binaryOp .Sub) (.int i) (.int j) H Q:=by
 rintro s _ _ ok ⟨t,rfl⟩ ⟨u,rfl⟩;exact PyProof.Rows.sub_int (BE (p:=.int (i - j)) ok ⟨_,rfl⟩ h)
theorem Gw(hm:IntMulOk i j)(h:Q (.int (i*j)) H):Cv G A (binaryOp .Mult) (.int i) (.int j) H Q:=by
 rintro s _ _ ok ⟨t,rfl⟩ ⟨u,rfl⟩;exact PyProof.Rows.mul_int (hm:=hm) (BE (p:=.int (i*j)) ok ⟨_,rfl⟩ h)
theorem Gx(hj:j≠0)(h:Q (.int (i.fmod j)) H):Cv G A (binaryOp .Mod) (.int i) (.int j) H Q:=by
 rintro s _ _ ok ⟨t,rfl⟩ ⟨u,rfl⟩;exact PyProof.Rows.mod_int' hj (BE (p:=.int (i.fmod j)) ok ⟨_,rfl⟩ h)
theorem B6(hj:j≠0)(hs:j.natAbs<1073741824)(h:Q (.int (i.fdiv j)) H):Cv G A (binaryOp .FloorDiv) (.int i) (.int j) H Q:=by
 rintro s _ _ ok ⟨t,rfl⟩ ⟨u,rfl⟩;exact PyProof.Rows.floordiv_int hj (BE (p:=.int (i.fdiv j)) ok ⟨_,rfl⟩ h) (.inl (PyProof.noPylong_small hs))
theorem Fa(hi:0≤i)(h:Q (.int (i / 2)) H):Cv G A (binaryOp .RShift) (.int i) (.int 1) H Q:=by
 rintro s _ _ ok ⟨t,rfl⟩ ⟨u,rfl⟩;exact wpAny_rshift1_int hi (BE (p:=.int (i / 2)) ok ⟨_,rfl⟩ h)
theorem NM(h:Q (.int (-i)) H):SN G A (unaryOp .USub) (.int i) H Q:=by
 rintro s _ ok ⟨t,rfl⟩;exact PyProof.Rows.neg_int (BE (p:=.int (-i)) ok ⟨_,rfl⟩ h)
theorem Bf(h:Q (.bool (decide (i<j))) H):Cv G A (compareOp .Lt) (.int i) (.int j) H Q:=by
 rintro s _ _ ok ⟨t,rfl⟩ ⟨u,rfl⟩;exact PyProof.Rows.lt_int (AV (p:=.bool _) ok rfl h)
theorem D1(h:Q (.bool (decide (j<i))) H):Cv G A (compareOp .Gt) (.int i) (.int j) H Q:=by
 rintro s _ _ ok ⟨t,rfl⟩ ⟨u,rfl⟩;exact PyProof.Rows.gt_int (AV (p:=.bool _) ok rfl h)
theorem Mx(h:Q (.bool (decide (j≤i))) H):Cv G A (compareOp .GtE) (.int i) (.int j) H Q:=by
 rintro s _ _ ok ⟨t,rfl⟩ ⟨u,rfl⟩;exact PyProof.Rows.ge_int (AV (p:=.bool _) ok rfl h)
theorem Hv(h:Q (.bool (i==j)) H):Cv G A (compareOp .Eq) (.int i) (.int j) H Q:=by
 rintro s _ _ ok ⟨t,rfl⟩ ⟨u,rfl⟩;exact PyProof.Rows.eq_int (AV (p:=.bool _) ok rfl h)
theorem Bg(h:Q (.bool true) H):Cv G A (compareOp .Is) .none .none H Q:=by
 rintro s _ _ ok rfl rfl;exact PyProof.Rows.is_none_none (AV (p:=.bool _) ok rfl h)
theorem B1{p:PV}(hp:p≠.none)(hp':p≠.val .none)(h:Q (.bool false) H):Cv G A (compareOp .Is) p .none H Q:=by
 rintro s v _ ok hv rfl
 refine PyProof.Rows.is_none_ne (fun e=>?_) (AV (p:=.bool _) ok rfl h)
 subst e
 cases p with
 | none=>exact hp rfl
 | bool b=>injection hv
 | int i=>obtain⟨t,e⟩:=hv;injection e
 | str i=>obtain⟨t,e⟩:=hv;injection e
 | tup xs=>obtain⟨a,vs,n,e,_⟩:=hv;injection e
 | ref a=>injection hv
 | rng a b c=>obtain⟨r,t,u,w,e,_⟩:=hv;injection e
 | val v=>exact hp' (by rw[show Value.none=v from hv])
 | fnc o=>obtain⟨a,_,_,_,_,_,e,_⟩:=hv;injection e
 | obj a=>cases hv.1

theorem Ip{s:Shared}{Q:Bool→AH→Prop}{b:Bool}{tk:Nat}(ok:OkH G H s)(hq:Q b H):PostB G H s Q b { s with toks:=tk }:=⟨H,ok.toks tk,Kp.toks H s tk,hq⟩
theorem D3{a:Addr}{ho:HO}{Q:Bool→AH→Prop}(hH:H a=some ho)(h:Q (!ho.items.isEmpty) H):SM G A truthy (.ref a) H Q:=by
 rintro s _ ok rfl
 obtain⟨⟨vs,n,hl,hv,hz⟩,_⟩:=id (ok.hr a ho hH)
 have hlen:=hv.length
 have hz':ho.items.length≤16777216:=by rw[← sizeLine_eq];exact hz
 refine wpAny_truthy_list hl.isList (by rw[List.size_toArray];exact NA hlen hz') ?_
 have:(!vs.toArray.isEmpty)=!ho.items.isEmpty:=by
  cases vs<;>cases hx:ho.items<;>simp_all
 simp only[this];exact Ip ok h
theorem Ck{a:Addr}{ho:HO}(hH:H a=some ho)(h:Q (.int ho.items.length) H):OpL G A (fun vs=>call (.builtin "len") vs) [.ref a] H Q:=by
 rintro s vs ok hvs
 obtain⟨_,rfl,rfl⟩:=hvs.one_inv
 obtain⟨⟨vs,n,hl,hv,hz⟩,_⟩:=id (ok.hr a ho hH)
 have hlen:=hv.length
 have hz':ho.items.length≤16777216:=by rw[← sizeLine_eq];exact hz
 refine Calls.call_len_list hl.isList (by rw[List.size_toArray];exact NA hlen hz') ?_
 simp only[List.size_toArray,hlen]
 exact BE (p:=.int ho.items.length) ok ⟨_,rfl⟩ h


theorem BL{s:Shared}{a:Addr}{xs ys:List PV}{vs us:List Value}{n:Nat}{f:Array Value→Array Value}{tk:Nat}(ok:OkH G H s)(hH:H a=some (.lst xs))(hl:IsL s.heap a vs.toArray n)(hf:f vs.toArray=us.toArray)
  (hys:VRs s.heap ys us) (hz:ys.length≤sizeLine) :
  OkH G (H.set a (.lst ys)) { s with heap:=s.heap.update a (Obj.mapSeq f),toks:=tk }∧Kp H s (H.set a (.lst ys)) { s with heap:=s.heap.update a (Obj.mapSeq f),toks:=tk }:=by
 have hb:=(ok.hr a _ hH).2 xs rfl
 have other:∀ b,b≠a→(s.heap.update a (Obj.mapSeq f)).get? b=s.heap.get? b:=fun b hba=>Heap.get?_update_other _ _ (Ne.symm hba)
 have fixk:∀ b o,FK o→s.heap.get? b=some o→(s.heap.update a (Obj.mapSeq f)).get? b=some o:=fun b o hfx e=>(other b (by rintro rfl;rw[hl]at e;(replace e:=Option.some.inj e;subst e);exact A5 hfx (Ab _ _))).trans e
 refine⟨⟨fun b o e=>(other b (by rintro rfl;rw[hb]at e;injection e)).trans (ok.keep b o e),fun b o e=>?_,ok.gens,ok.dat.dc fun b o hd O e=>(other b (by rintro rfl;exact CO ok.hr ⟨o,e,hd⟩ ⟨xs,hH⟩)).trans e,ok.tab.keep fun b o hl e=>(other b (by rintro rfl;obtain⟨⟨vs,n,hl',_⟩,_⟩:=ok.hr _ _ hH;have hl2:s.heap.get? _=some _:=hl';rw[hl2]at e;(replace e:=Option.some.inj e;subst e);exact hl.not_lst (Ab _ _))).trans e⟩,⟨rfl,fun b o e hm=>.of ((other b (by rintro rfl;exact hm ⟨xs,hH⟩)).trans e),fun b o e=>?_⟩⟩
 ·unfold AH.set at e
  by_cases hba:b=a
  ·rw[if_pos hba]at e;(replace e:=Option.some.inj e;subst e);subst hba
   have:=hl.update f
   rw[hf]at this
   exact⟨⟨us,_,this,VRs.mono fixk _ _ hys,hz⟩,fun O O=>hb⟩
  ·rw[if_neg hba]at e
   obtain⟨⟨ws,k,hw,hv,hz'⟩,hb'⟩:=ok.hr b o e
   exact⟨⟨ws,k,(other b hba).trans hw,VRs.mono fixk _ _ hv,hz'⟩,hb'⟩
 ·unfold AH.set at e
  by_cases hba:b=a
  ·rw[if_pos hba]at e;(replace e:=Option.some.inj e;subst e);subst hba;exact .inr ⟨_,hH,fun O=>rfl⟩
  ·rw[if_neg hba]at e;exact .inr ⟨o,e,id⟩

theorem GR{a:Addr}{xs:List PV}{p:PV}(hH:H a=some (.lst xs))(hz:xs.length<sizeLine)(h:Q .none (H.set a (.lst (xs++[p])))):OpL G A (fun vs=>call (.builtin "list.append") vs) [.ref a,p] H Q:=by
 rintro s vs ok hvs
 obtain⟨_,v,rfl,rfl,hp⟩:=hvs.two_inv
 obtain⟨⟨vs,n,hl,hv,hz'⟩,_⟩:=id (ok.hr a _ hH)
 have hsz:vs.toArray.size≤sizeLine:=by rw[List.size_toArray,hv.length];exact hz'
 refine call_meets PySem.F.slot_list_append ⟨_,hl,rfl⟩ PySem.F.entry_list_append (PySem.F.args_list_append_2 _ _) (list_append a vs.toArray n v hsz) ⟨hl,?_⟩
 obtain⟨ok',k'⟩:=BL (tk:=s.toks) ok hH hl (f:=fun x=>x.push v) (us:=vs++[v]) (by simp) (hv.append (VRs.one hp)) (by simp only[List.length_append,List.length_cons,List.length_nil];exact hz)
 exact⟨.none,_,rfl,ok',k',h⟩

omit [Zz] in
theorem Jn{s:Shared}{l:Addr}{items:Array Value}{n:Nat}{k:Int}{t:Tok}{v:Value}{Q:Unit→Shared→Prop}{E:Value→Shared→Prop}(hl:IsL s.heap l items n)(h0:0≤k)(hfit:k<2 ^ 63)(hn:k<items.size)
  (hQ:Q () { s with heap:=s.heap.update l (Obj.mapSeq (·.setIfInBounds k.toNat v)) }):wpAny (model G.prog G.w) A (setItem (.ref l) (.int k t) v) Q E s:=by
 have hT:s.TypeIs (.ref l) "list" := ⟨_,hl,rfl⟩
 unfold setItem
 try with_reducible refine wpAny_holding ?_
 first | refine wpAny_bind (wpAny_pure ?_) | skip
 refine wpAny_bind (wpAny_sequenceKey hT (by decide) ?_)
 refine wpAny_bind (wpAny_callSpecial?_slot (name:=Str.ofString "__setitem__") hT slot_list_setitem (wpAny_call_entry slot_list_setitem hT entry_list_setitem ?_ (args_list_setitem _ _ _)))
 show wpAny _ _ (Builtin.List.listSubscript? (.int k t) >>= _) _ _ s
 refine wpAny_bind (wpAny_listSubscript_int (fitsIndex_of h0 hfit) ?_)
 clear hfit
 obtain⟨j,rfl⟩:=Int.eq_ofNat_of_zero_le h0
 have hj:j<items.size:=by exact Int.ofNat_lt.mp hn
 have hx':items[j]?=some items[j]:=Array.getElem?_eq_getElem hj
 show wpAny _ _ ((seqItemAt l j >>= fun r=>pure (r.map (j,·))) >>= _) _ _ s
 refine wpAny_bind (wpAny_bind (wpAny_seqItemAt hl rfl (wpAny_pure ?_)))
 rw[hx']
 show wpAny _ _ (setSeqItemAt l j v >>= _) _ _ s
 refine wpAny_bind (wpAny_setSeqItemAt hl rfl ?_)
 first
  | exact wpAny_bind (wpAny_pure (wpAny_pure ⟨.none,rfl,wpAny_pure hQ⟩))
  | exact wpAny_pure ⟨.none,rfl,wpAny_pure hQ⟩

theorem BZ{a:Addr}{xs:List PV}{k:Int}{p:PV}{Q:AH→Prop}(hH:H a=some (.lst xs))(h0:0≤k)(hk:k<xs.length)(h:Q (H.set a (.lst (xs.set k.toNat p)))):SE G A setItem (.ref a) (.int k) p H Q:=by
 rintro s _ _ v ok rfl ⟨t,rfl⟩ hp
 obtain⟨⟨vs,n,hl,hv,hz'⟩,_⟩:=id (ok.hr a _ hH)
 have hz2:xs.length≤sizeLine:=hz'
 have hlen:vs.length=xs.length:=hv.length
 have hz3:xs.length≤16777216:=by rw[← sizeLine_eq];exact hz2
 refine Jn hl h0 (by exact Rc hk hz3) (by rw[List.size_toArray,hlen];exact hk) ?_
 obtain⟨ok',k'⟩:=BL (tk:=s.toks) ok hH hl (f:=fun x=>x.setIfInBounds k.toNat v) (ys:=xs.set k.toNat p) (us:=vs.set k.toNat v) (by simp) (hv.set hp) (by rw[List.length_set];exact hz2)
 exact⟨_,ok',k',h⟩

theorem VRs.eraseIdx{h:Heap}:∀{ps:List PV} {vs:List Value} (k:Nat),VRs h ps vs→VRs h (ps.eraseIdx k) (vs.eraseIdx k)
 | [],vs,k,e=>by rw[show vs=[]from e];cases k<;>exact rfl
 | p::ps,_,0,zp3=>by obtain⟨v,r,rfl,h1,h2⟩:=zp3;exact h2
 | p::ps,_,k+1,zp3=>by obtain⟨v,r,rfl,h1,h2⟩:=zp3;exact⟨v,r.eraseIdx k,rfl,h1,VRs.eraseIdx k h2⟩
theorem VRs.take{h:Heap}:∀{ps:List PV} {vs:List Value} (k:Nat),VRs h ps vs→VRs h (ps.take k) (vs.take k)
 | ps,vs,0,_=>by simp only[List.take_zero,List.take_zero];rfl
 | [],vs,k+1,e=>by rw[show vs=[]from e];exact rfl
 | p::ps,_,k+1,zp3=>by obtain⟨v,r,rfl,h1,h2⟩:=zp3;exact⟨v,r.take k,rfl,h1,VRs.take k h2⟩
theorem VRs.drop{h:Heap}:∀{ps:List PV} {vs:List Value} (k:Nat),VRs h ps vs→VRs h (ps.drop k) (vs.drop k)
 | ps,vs,0,h=>h
 | [],vs,k+1,e=>by rw[show vs=[]from e];exact rfl
 | p::ps,_,k+1,zp3=>by obtain⟨v,r,rfl,h1,h2⟩:=zp3;exact VRs.drop k h2

theorem NL{a:Addr}{xs:List PV}{p:PV}(hH:H a=some (.lst (xs++[p])))(h:Q p (H.set a (.lst xs))):OpL G A (fun vs=>call (.builtin "list.pop") vs) [.ref a] H Q:=by
 rintro s ws ok hvs
 obtain⟨_,rfl,rfl⟩:=hvs.one_inv
 obtain⟨⟨vs,n,hl,hv,hz'⟩,_⟩:=id (ok.hr a _ hH)
 have hv:VRs s.heap (xs++[p]) vs:=hv
 have hlen:=hv.length
 obtain⟨u,hu,hup⟩:=hv.get (i:=xs.length) (p:=p) (by simp)
 have hz2:(xs++[p]).length≤sizeLine:=hz'
 have hlen':vs.length=xs.length+1:=by rw[hlen];simp
 refine call_meets PySem.F.slot_list_pop ⟨_,hl,rfl⟩ PySem.F.entry_list_pop (PySem.F.args_list_pop_1 _) (MeetsSeq.list_pop_last a vs.toArray n u (by simpa[hlen']using hu) (by rw[List.size_toArray,hlen];exact hz2)) ⟨hl,?_⟩
 obtain⟨ok',k'⟩:=BL (tk:=s.toks) ok hH hl (f:=fun x=>x.eraseIdxIfInBounds (vs.toArray.size - 1)) (ys:=(xs++[p]).eraseIdx xs.length) (us:=vs.eraseIdx xs.length) (by simp[hlen']) (hv.eraseIdx _) (Nat.le_trans (List.length_eraseIdx_le _ _) hz2)
 have e:(xs++[p]).eraseIdx xs.length=xs:=by rw[List.eraseIdx_append_of_length_le (Nat.le_refl _)];simp
 rw[e]at ok' k'
 exact⟨p,_,k'.vr ok hup,ok',k',h⟩

theorem Jr{a:Addr}{xs:List PV}{k:Int}{p:PV}(hH:H a=some (.lst xs))(h0:0≤k)(hk:k≤xs.length)(hz:xs.length<sizeLine)(h:Q .none (H.set a (.lst (xs.take k.toNat++p::xs.drop k.toNat)))) :
  OpL G A (fun vs=>call (.builtin "list.insert") vs) [.ref a,.int k,p] H Q:=by
 rintro s ws ok hvs
 refine AJ fun WW9 hW9=>?_
 obtain⟨_,_,v,eq9_0,eq9_1,⟨t,eq9_2⟩,hp⟩:=hvs.three_inv
 refine hW9 ?_
 clear hW9 WW9
 subst eq9_0 eq9_1 eq9_2
 refine AJ fun WW9 hW9=>?_
 obtain⟨⟨vs,n,hl,hv,hz'⟩,_⟩:=id (ok.hr a _ hH)
 refine hW9 ?_
 clear hW9 WW9
 have hv:VRs s.heap xs vs:=hv
 have hlen:=hv.length
 have hz3:xs.length≤16777216:=by rw[← sizeLine_eq];exact hz'
 have hfit:Builtin.List.listFitsIndex k=true:=fitsIndex_of h0 (by exact Rb hk hz3)
 refine call_meets PySem.F.slot_list_insert ⟨_,hl,rfl⟩ PySem.F.entry_list_insert (PySem.F.args_list_insert_3 _ _ _) (AutoSeq1.list_insert_list_int_val_1 a vs.toArray n k t v (by simp[hfit]) (by rw[List.size_toArray,hlen];exact hz')) ⟨hl,?_⟩
 obtain⟨ok',k'⟩:=BL (tk:=s.toks) ok hH hl (f:=fun xs=>have k':=if k<0 then(k+(xs.size:Int)).toNat else min k.toNat xs.size;(xs.extract 0 k').push v++xs.extract k')
  (ys:=xs.take k.toNat++p::xs.drop k.toNat) (us:=vs.take k.toNat++v::vs.drop k.toNat) (by
   have hneg:¬ (k<0):=by exact Int.not_lt.mpr h0
   have hmin:min k.toNat vs.length=k.toNat:=Nat.min_eq_left (by exact Ra hk hlen)
   simp only[hneg,if_false,List.size_toArray,hmin]
   apply Array.toList_inj.mp
   simp[List.extract_eq_take_drop]
   exact List.take_of_length_le (by simp)) ((hv.take _).append ⟨v,vs.drop k.toNat,rfl,hp,hv.drop _⟩) (by simp only[List.length_append,List.length_cons,List.length_take,List.length_drop];exact RZ hz)
 exact⟨.none,_,rfl,ok',k',h⟩
end
end Mine
namespace Mine
variable [zz:Zz]
section
variable {G:Cx} {A:Around} {F:Fx} {σ:Loc} {H:AH} {Q:PV→AH→Prop}


noncomputable def fnOf(K:Frag)(a:Addr):FuncData:=match K.lookup a with
 | some ⟨_,_,.func fd,_⟩=>fd
 | _=>default
noncomputable def BC(fd:FuncData):List Stmt:=match fd.body with
 | .stmts b=>b
 | _=>[]
noncomputable def Jb(K:Frag)(a:Addr)(ns:List Str):Bool:=match K.lookup a with
 | some ⟨_,_,.func fd,_⟩ =>
  (match fd.body with | .stmts _=>true | _=>false)&&fd.closure.isEmpty&&fd.globals==mainGlobals&&fd.builtins==builtinsNs &&
  (match fd.code with
   | .ref c=>(match K.lookup c with
    | some ⟨_,_,.fields vs,_⟩=>(match (vs[1]?:Option Value)with | some (Value.str q _)=>q==fd.qualname | _=>false)
    | _=>false)
   | _=>false) &&
  !fd.scope.isCoroutine&&!fd.scope.isGenerator&&fd.scope.kind==.function&&B2 fd.scope&&fd.scope.names.all (fun x=>x.2 != .free) &&
  ns.all (fun x=>fd.scope.names.lookup x==some .local||fd.scope.names.lookup x==some .cell)
 | _=>false


structure FnF (A:Around) (sc:Scope) (F:Fx):Prop where
 sc:F.env.scope=sc
 A:F.A=A.deeper F.env
 W:F.W=FW F.env
omit [Zz] in
theorem FnF.units{sc:Scope}(h:FnF A sc F):F.A.units=A.units+3:=by simp only[h.A,Around.deeper_units]
omit [Zz] in
theorem FnF.depth{sc:Scope}(h:FnF A sc F):F.A.depth=A.depth+1:=by rw[h.A];rfl
omit [Zz] in
theorem FnF.handled{sc:Scope}(h:FnF A sc F):F.A.handled=A.handled:=by rw[h.A];rfl


structure Sa (fd:FuncData) (F:Fx):Prop where
 code:F.env.code=fd.code
 qual:F.env.qual=fd.qualname ++ ".<locals>."
 frame:F.env.frame=some F.env.locals
omit [Zz] in
set_option tactic.hygienic true in
theorem I3{K:Frag}{fa:Addr}{ns:List Str}(hchk:Jb K fa ns=true):∃ fo,K.lookup fa=some fo∧fo.data=.func (fnOf K fa)∧(fnOf K fa).body=.stmts (BC (fnOf K fa))∧(fnOf K fa).closure=[]∧(fnOf K fa).globals=mainGlobals∧(fnOf K fa).builtins=builtinsNs ∧
  (∃ c o vs t,(fnOf K fa).code=.ref c∧K.lookup c=some o∧o.data=.fields vs∧vs[1]?=some (.str (fnOf K fa).qualname t))∧(fnOf K fa).scope.isCoroutine=false∧(fnOf K fa).scope.isGenerator=false∧(fnOf K fa).scope.kind=.function ∧
  B2 (fnOf K fa).scope=true∧(fnOf K fa).scope.names.all (fun x=>x.2 != .free)=true∧ns.all (fun x=>(fnOf K fa).scope.names.lookup x==some .local||(fnOf K fa).scope.names.lookup x==some .cell)=true:=by
 unfold Jb at hchk
 split at hchk
 ·rename_i c d fd sl hl
  have hfn:fnOf K fa=fd:=by unfold fnOf;rw[hl]
  rw[hfn]
  simp only[Bool.and_eq_true,beq_iff_eq,Bool.not_eq_true',List.isEmpty_iff]at hchk
  refine AJ fun WW9 hW9=>?_
  obtain⟨⟨⟨⟨⟨⟨⟨⟨⟨⟨hb,hclo⟩,hgl⟩,hbl⟩,hcode⟩,hco⟩,hgen⟩,hk⟩,hnok⟩,hnf⟩,hkinds⟩:=hchk
  refine hW9 ?_
  clear hW9 WW9
  obtain⟨body,hbody⟩:∃ body,fd.body=.stmts body:=by
   cases hfb:fd.body with
   | stmts b=>exact⟨b,rfl⟩
   | expr e=>rw[hfb]at hb;simp at hb
  have hbo:BC fd=body:=by unfold BC;rw[hbody]
  refine⟨_,hl,rfl,by rw[hbo];exact hbody,hclo,hgl,hbl,?_,hco,hgen,hk,hnok,hnf,hkinds⟩
  split at hcode
  ·rename_i c' hc'
   split at hcode
   ·rename_i a1 a2 vs a3 hl'
    split at hcode
    ·rename_i q t hq
     exact⟨c',_,vs,t,hc',hl',rfl,by rw[hq,beq_iff_eq.mp hcode]⟩
    ·injection hcode
   ·injection hcode
  ·injection hcode
 ·injection hchk
theorem EA{K:Frag}{fa:Addr}{ns:List Str}{ps:List PV}{pb:List (Str × PV)}{ar:List Value→Args}(hK:G.K=K)(hchk:Jb K fa ns=true)(hroom:A.depth<recursionLimit)(hns:∀ x∈pb,x.1∈ns)
  (hbind:∀ h vs,VRs h ps vs→∃ bs,peek K ⟨G.prog,G.w.params⟩ (bindArgs (fnOf K fa) (ar vs))=some bs∧∀ h',(∀ p v,VR h p v→VR h' p v)→BRel h' pb bs)
  (h:∀ F:Fx,FnF A (fnOf K fa).scope F→Sa (fnOf K fa) F→Exs G F (BC (fnOf K fa)) (Av pb fun O=>none) H (fun f O H'=>match f with | .ret p=>Q p H' | _=>Q .none H')) :
  OpL G A (fun vs=>call (.ref fa) (ar vs).pos (ar vs).kw) ps H Q:=by
 subst hK
 refine AJ fun WW9 hW9=>?_
 obtain⟨fo,g1,g2,g3,g4,g5,g6,g7,g8,g9,g10,g11,g12,g13⟩:=I3 hchk
 refine hW9 ?_
 clear hW9 WW9
 exact Li g1 g2 g3 g4 g5 g6 g7 g8 g9 g10 g11 g12 g13 hroom hns hbind fun F h1 h2 h3 zz4=>by obtain⟨h4,h5,h6⟩:=zz4;exact h F ⟨h1,h2,h3⟩ ⟨h4,h5,h6⟩
theorem Az{K:Frag}{fa:Addr}{ns:List Str}{ps dps:List PV}{dvs:List Value}(hK:G.K=K)(hchk:Jb K fa ns=true)(hroom:A.depth<recursionLimit)(hd:∀ h,VRs h dps dvs)
  (hbind:∀ h vs,VRs h ps vs→peek K ⟨G.prog,G.w.params⟩ (bindArgs (fnOf K fa) ⟨vs,[]⟩)=some (ns.zip (vs++dvs)))
  (h:∀ F:Fx,FnF A (fnOf K fa).scope F→Exs G F (BC (fnOf K fa)) (Av (ns.zip (ps++dps)) fun O=>none) H (fun f O H'=>match f with | .ret p=>Q p H' | _=>Q .none H')) :
  OpL G A (fun vs=>call (.ref fa) vs) ps H Q:=EA (pb:=ns.zip (ps++dps)) (ar:=fun vs=>⟨vs,[]⟩) hK hchk hroom (fun O hx=>(List.of_mem_zip hx).1) (fun h vs hvs=>⟨_,hbind h vs hvs,fun h' hm=>BRel.zip ((VRs.imp hm hvs).append (hd h'))⟩) fun F h1 O=>h F h1

omit [Zz] in
theorem AD{sc:Scope}{x:Str}{k:NameKind}(hF:FnF A sc F)(h:sc.names.lookup x=some k):F.env.kindOf x=some k:=by unfold Env.kindOf;rw[hF.sc];exact h
omit [Zz] in
theorem AB{sc:Scope}{x:Str}(hF:FnF A sc F)(h:sc.names.lookup x=some .local):MD F x:=.inl (AD hF h)
omit [Zz] in
theorem Hg{sc:Scope}{x:Str}(hF:FnF A sc F)(h:sc.names.lookup x=some .cell):MD F x:=.inr ⟨AD hF h,fun c hc=>by rw[hF.W];exact .inr ⟨x,hc⟩⟩
omit [Zz] in
theorem Gy{a b:String}:(Str.ofString a=Str.ofString b)=(a=b):=by
 refine propext ⟨fun h=>?_,fun h=>by rw[h]⟩
 rw[Str.ofString_eq_toList,Str.ofString_eq_toList]at h
 injection h with h
 have h2:a.toList.map Char.toNat=b.toList.map Char.toNat:=by
  have:=congrArg Array.toList h
  simpa using this
 have h3:a.toList=b.toList:=by
  have inj:∀(l1 l2:List Char),l1.map Char.toNat=l2.map Char.toNat→l1=l2:=by
   intro l1
   induction l1 with
   | nil=>intro l2 h;cases l2 with
    | nil=>rfl
    | cons _ _=>simp at h
   | cons c r ih =>
    intro l2 h
    cases l2 with
    | nil=>simp at h
    | cons c2 r2 =>
     simp only[List.map_cons,List.cons.injEq]at h
     rw[ih r2 h.2]
     congr 1
     exact Char.ext (UInt32.toNat_inj.mp h.1)
  exact inj _ _ h2
 exact String.ext h3
noncomputable def DK(K:Frag)(a:Addr):Bool:=match K.lookup a with
 | some ⟨_,_,.func _,_⟩=>true
 | _=>false

set_option tactic.hygienic true in
theorem A9{K:Frag}{f:Str}{np pos:Pos}{fa:Addr}{e:Expr}{es:List Expr}{Q:PV→AH→Prop}(hK:G.K=K)(hk:F.env.kindOf f=some .globalImplicit)(hf:nsIn K mainGlobals f=some (some (.ref fa)))(ht:DK K fa=true)
  (h:Gl G F (e::es) σ H (fun ps H1=>OpL G F.A (fun vs=>call (.ref fa) vs) ps H1 Q)) (he:starEach (e::es) F.env=(false,eval e F.env)::starEach es F.env:=by rfl) :
  Ev G F (.Call (.Name f np) (e::es) [] pos) σ H Q:=by
 subst hK
 unfold DK at ht
 split at ht
 ·rename_i c d fd sl hl
  exact L1 hk (G.mg_of hf) (G.kin _ _ hl) rfl h he
 ·injection ht

theorem BN{K:Frag}{f:Str}{np pos:Pos}(id:String){e:Expr}{es:List Expr}{Q:PV→AH→Prop}(hK:G.K=K)(hk:F.env.kindOf f=some .globalImplicit)(hf:nsIn K mainGlobals f=some none)(hb:bootBuiltins f=some (.builtin id))(hn:f ≠ "__name__")
  (h:Gl G F (e::es) σ H (fun ps H1=>OpL G F.A (fun vs=>call (.builtin id) vs) ps H1 Q)) (he:starEach (e::es) F.env=(false,eval e F.env)::starEach es F.env:=by rfl)
  (hplain:∀ pos,(backTo pos (starEach es F.env)).any (·.1)=false:=by intro _;rfl):Ev G F (.Call (.Name f np) (e::es) [] pos) σ H Q:=by
 subst hK;exact L3 hk (G.mg_of hf) hb hn h he hplain
theorem CQ{K:Frag}{f:Str}{np pos:Pos}(T:String){e:Expr}{es:List Expr}{Q:PV→AH→Prop}(hK:G.K=K)(hk:F.env.kindOf f=some .globalImplicit)(hf:nsIn K mainGlobals f=some none)(hb:bootBuiltins f=some (.type T))(hn:f ≠ "__name__")
  (h:Gl G F (e::es) σ H (fun ps H1=>OpL G F.A (fun vs=>call (.type T) vs) ps H1 Q)) (he:starEach (e::es) F.env=(false,eval e F.env)::starEach es F.env:=by rfl)
  (hplain:∀ pos,(backTo pos (starEach es F.env)).any (·.1)=false:=by intro _;rfl):Ev G F (.Call (.Name f np) (e::es) [] pos) σ H Q:=by
 subst hK;exact L0 hk (G.mg_of hf) hb hn h he hplain
end
end Mine
namespace Mine
variable [zz:Zz]
section
variable {G:Cx} {A:Around} {F:Fx} {σ:Loc} {H:AH}


noncomputable def Loc.le(σ τ:Loc):Prop:=∀ x p,σ x=some p→τ x=some p
noncomputable def Loc.nil:Loc:=fun O=>none
omit [Zz] in
theorem Loc.le_refl(σ:Loc):Loc.le σ σ:=fun O O h=>h
omit [Zz] in
theorem Ad(τ:Loc):Loc.le Loc.nil τ:=fun O O h=>by injection h
omit [Zz] in
theorem Loc.le_set{σ τ:Loc}{x:Str}{p:PV}(h:τ x=some p)(h':Loc.le σ τ):Loc.le (σ.set x p) τ:=fun y q e=>by
 unfold Loc.set at e
 by_cases hy:y=x
 ·rw[if_pos hy]at e;(replace e:=Option.some.inj e;subst e);rw[hy];exact h
 ·rw[if_neg hy]at e;exact h' y q e
omit [Zz] in
theorem C7(σ:Loc)(x y:Str)(p:PV):(σ.set x p) y=if y=x then some p else σ y:=rfl
theorem LR.weak{h:Heap}{τ:Loc}(lr:LR G F τ h)(hle:Loc.le σ τ):LR G F σ h:=by
 refine AJ fun WW9 hW9=>?_
 obtain⟨m,hn,hm⟩:=lr.ns
 refine hW9 ?_
 clear hW9 WW9
 refine⟨lr.own,lr.odd,lr.wloc,lr.fn,lr.nok,lr.glob,lr.blt,⟨m,hn,fun x p e hk=>hm x p (hle x p e) hk⟩,fun x p e=>lr.kinds x p (hle x p e),fun x hx=>?_,lr.apart⟩
 refine AJ fun WW9 hW9=>?_
 obtain⟨c,v₀,h1,h2,h3⟩:=lr.cell x hx
 refine hW9 ?_
 clear hW9 WW9
 exact⟨c,v₀,h1,h2,fun p e=>h3 p (hle x p e)⟩

theorem EvB.le{e:Expr}{τ:Loc}{Q:Bool→AH→Prop}(h:EvB G F e σ H Q)(hle:Loc.le σ τ):EvB G F e τ H Q:=fun s ok lr=>h s ok (lr.weak hle)
theorem Exs.le{st:List Stmt}{τ:Loc}{Q:PF→Loc→AH→Prop}(h:Exs G F st σ H Q)(hle:Loc.le σ τ):Exs G F st τ H Q:=fun s ok lr=>h s ok (lr.weak hle)
theorem As.le{t:Expr}{p:PV}{τ:Loc}{Q:Loc→AH→Prop}(h:As G F t p σ H Q)(hle:Loc.le σ τ):As G F t p τ H Q:=fun s v ok lr hv=>h s v ok (lr.weak hle) hv
theorem Exs.mono{st:List Stmt}{Q Q':PF→Loc→AH→Prop}(h:Exs G F st σ H Q)(hq:∀ f σ' H',Q f σ' H'→Q' f σ' H'):Exs G F st σ H Q':=fun s ok lr =>
 wpAny_mono (h s ok lr) (fun O O zz2=>by obtain⟨pf,σ',H',h1,h2,h3,h4,h5⟩:=zz2;exact⟨pf,σ',H',h1,h2,h3,h4,hq _ _ _ h5⟩) fun O O x=>x
theorem Ev.mono{e:Expr}{Q Q':PV→AH→Prop}(h:Ev G F e σ H Q)(hq:∀ p H',Q p H'→Q' p H'):Ev G F e σ H Q':=fun s ok lr=>wpAny_mono (h s ok lr) (fun O O x=>x.mono hq) fun O O x=>x

set_option tactic.hygienic true in
theorem B0{t:Expr}{b:List Stmt}{pos:Pos}{Q:PF→Loc→AH→Prop}(I:Nat→Loc→AH→Prop)(n:Nat)(h0:∃ σ'',Loc.le σ'' σ∧I n σ'' H)
  (hI:∀ n σ' H',I n σ' H'→EvB G F t σ' H' (fun c H1=>if c then Exs G F b σ' H1 (fun f σ2 H2=>match f with
   | .next | .cont=>∃ m,m<n∧∃ σ'',Loc.le σ'' σ2∧I m σ'' H2
   | .brk=>Q .next σ2 H2
   | .ret p=>Q (.ret p) σ2 H2) else Q .next σ' H1)):Ex G F (.While t b [] pos) σ H Q:=by
 have key:Ex G F (.While t b [] pos) σ H (fun f σ' H'=>∃ σ'',Loc.le σ'' σ'∧Q f σ'' H'):=by
  refine Ls (fun n σ' H'=>∃ σ'',Loc.le σ'' σ'∧I n σ'' H') n h0 ?_
  rintro n σ' H' ⟨σ'',hle,hi⟩
  refine fun s ok lr=>wpAny_mono ((hI n σ'' H' hi).le hle s ok lr) (fun c s1 zz2=>zz2.on fun H1 ok1 k1 hq=>⟨H1,ok1,k1,?_⟩) fun O O x=>x
  cases c with
  | false=>exact⟨σ'',hle,hq⟩
  | true =>
   simp only[if_true]at hq ⊢
   refine(hq.le hle).mono fun f σ2 H2 h=>?_
   cases f with
   | next=>exact h
   | cont=>exact h
   | brk=>exact⟨σ2,Loc.le_refl _,h⟩
   | ret p=>exact⟨σ2,Loc.le_refl _,h⟩
 exact fun s ok lr=>wpAny_mono (key s ok lr) (fun O O zz2=>by obtain⟨pf,σ',H',h1,h2,h3,h4,σ'',hle,h5⟩:=zz2;exact⟨pf,σ'',H',h1,h2,h3.weak hle,h4,h5⟩) fun O O x=>x

set_option tactic.hygienic true in
theorem HU{target iter:Expr}{body:List Stmt}{pos:Pos}{Q:PF→Loc→AH→Prop}
  (h:Ev G F iter σ H (fun p H1=>∃(xs:List PV) (inv:Nat→Loc→AH→Prop),F2 G F.A target p H1 xs∧(∃ σ'',Loc.le σ'' σ∧inv 0 σ'' H1) ∧
   (∀ i x σ' H',xs[i]?=some x→inv i σ' H'→As G F target x σ' H' (fun σ2 H2=>Exs G F body σ2 H2 (fun f σ3 H3=>match f with
    | .next | .cont=>∃ σ'',Loc.le σ'' σ3∧inv (i+1) σ'' H3
    | .brk=>Q .next σ3 H3
    | .ret p=>Q (.ret p) σ3 H3))) ∧
   (∀ σ' H',inv xs.length σ' H'→Q .next σ' H')))
  (hs:∀ x,foldedSetIterable iter F.env x=pure x):Ex G F (.For target iter body [] pos) σ H Q:=by
 have key:Ex G F (.For target iter body [] pos) σ H (fun f σ' H'=>∃ σ'',Loc.le σ'' σ'∧Q f σ'' H'):=by
  refine QM (h.mono fun p H1 zz2=>zz2.elim fun xs zz2=>zz2.elim fun inv zz2=>zz2.elim fun hit zz2=>zz2.elim fun h0 zz2=>zz2.elim fun hstep hfin=>?_) hs
  refine⟨xs,fun i σ' H'=>∃ σ'',Loc.le σ'' σ'∧inv i σ'' H',hit,h0,fun i x σ' H' hx zz5=>zz5.elim fun σ'' zz5=>zz5.elim fun hle hi=>?_,fun σ' H' zz2=>by obtain⟨σ'',hle,hi⟩:=zz2;exact⟨σ'',hle,hfin _ _ hi⟩⟩
  refine fun s v ok lr hv=>wpAny_mono ((hstep i x σ'' H' hx hi).le hle s v ok lr hv) (fun O s1 zz2=>zz2.on fun σ2 H2 ok2 lr2 k2 hq=>⟨σ2,H2,ok2,lr2,k2,hq.mono fun f σ3 H3 h=>?_⟩) fun O O x=>x
  cases f with
  | next=>exact h
  | cont=>exact h
  | brk=>exact⟨σ3,Loc.le_refl _,h⟩
  | ret p=>exact⟨σ3,Loc.le_refl _,h⟩
 exact fun s ok lr=>wpAny_mono (key s ok lr) (fun O O zz2=>by obtain⟨pf,σ',H',h1,h2,h3,h4,σ'',hle,h5⟩:=zz2;exact⟨pf,σ'',H',h1,h2,h3.weak hle,h4,h5⟩) fun O O x=>x

omit [Zz] in
theorem AA(H:AH)(a:Addr)(o:HO):(H.set a o) a=some o:=if_pos rfl
omit [Zz] in
theorem AH.set_set(H:AH)(a:Addr)(o o':HO):(H.set a o).set a o'=H.set a o':=by
 funext b;unfold AH.set;by_cases h:b=a<;>simp[h]
omit [Zz] in
theorem AE(H:AH){a b:Addr}(o:HO)(h:b≠a):(H.set a o) b=H b:=if_neg h
omit [Zz] in
theorem Bk{H:AH}{a:Addr}{o:HO}(h:H a=some o):H.set a o=H:=by
 funext b;unfold AH.set;by_cases hb:b=a<;>simp[hb,h]
omit [Zz] in
theorem DA(H:AH){a b:Addr}(o o':HO)(h:a≠b):(H.set a o).set b o'=(H.set b o').set a o:=by
 funext c;unfold AH.set
 by_cases h1:c=a
 ·by_cases h2:c=b
  ·exact absurd (h1.symm.trans h2) h
  ·rw[if_neg h2,if_pos h1,if_pos h1]
 ·by_cases h2:c=b
  ·rw[if_pos h2,if_neg h1,if_pos h2]
  ·rw[if_neg h2,if_neg h1,if_neg h1,if_neg h2]
omit [Zz] in
theorem AC(xs:List PV):(HO.lst xs).items=xs:=rfl
omit [Zz] in
theorem Bc(xs:List PV):(HO.fro xs).items=xs:=rfl
omit [Zz] in
theorem Dw{α:Type}{xs:List α}{k:Int}{j:Nat}(h:k=(j:Int)):CK xs k=xs[j]?:=by subst h;unfold CK;simp
omit [Zz] in
theorem BD{α:Type}(xs:List α)(k:Nat):CK xs (k:Int)=xs[k]?:=by unfold CK;simp


noncomputable def HY(G:Cx)(S:PV→Prop)(lt:PV→PV→Bool):Prop:=∀ x y,S x→S y→∀(A:Around) (H:AH) (Q:PV→AH→Prop),A.units+3<cLine→Q (.bool (lt x y)) H→Cv G A (compareOp .Lt) x y H Q
end
end Mine
namespace Mine
variable [zz:Zz]
section
variable {G:Cx} {A:Around} {F:Fx} {σ:Loc} {H:AH} {Q:PV→AH→Prop}


theorem Fk{s:Shared}{h':Heap}{tk:Nat}(ok:OkH G H s)(hk:∀ b o,s.heap.get? b=some o→h'.get? b=some o):OkH G H { s with heap:=h',toks:=tk }∧Kp H s H { s with heap:=h',toks:=tk } :=
 ⟨⟨fun b o e=>hk b o (ok.keep b o e),ok.hr.other fun b o e O=>hk b o e,ok.gens,ok.dat.all hk,ok.tab.keep fun b o O e=>hk b o e⟩,⟨rfl,fun b o e O=>.of (hk b o e),DomLe.refl _ _⟩⟩
theorem DE{s:Shared}{h':Heap}{tk:Nat}{p:PV}{v:Value}(ok:OkH G H s)(hk:∀ b o,s.heap.get? b=some o→h'.get? b=some o)(hv:VR h' p v)(hq:Q p H):Post G H s Q v { s with heap:=h',toks:=tk } :=
 by obtain⟨a,b⟩:=Fk (tk:=tk) ok hk;exact⟨p,H,hv,a,b,hq⟩

theorem BO{n:Int}(h:Q (.rng 0 n 1) H):OpL G A (fun vs=>call (.type "range") vs) [.int n] H Q:=by
 rintro s vs ok hvs
 obtain⟨_,rfl,t,rfl⟩:=hvs.one_inv
 exact call_range_1 (DE (p:=.rng 0 n 1) ok (fun b o e=>Heap.get?_push_of_some _ e) ⟨_,_,_,_,rfl,IsRange.new ..⟩ h)
theorem ET{m n c:Int}(hc:c≠0)(hs:c.natAbs<1073741824)(h:Q (.rng m n c) H):OpL G A (fun vs=>call (.type "range") vs) [.int m,.int n,.int c] H Q:=by
 rintro s vs ok hvs
 refine AJ fun WW9 hW9=>?_
 obtain⟨_,_,_,eq9_0,⟨t,eq9_1⟩,⟨u,eq9_2⟩,w,eq9_3⟩:=hvs.three_inv
 refine hW9 ?_
 clear hW9 WW9
 subst eq9_0 eq9_1 eq9_2 eq9_3
 exact call_range_3 hc (DE (p:=.rng m n c) ok (fun b o e=>Heap.get?_push_of_some _ e) ⟨_,_,_,_,rfl,IsRange.new ..⟩ h) (.inl (PyProof.noPylong_small hs))
theorem MY{i j:Int}(hh:A.handled=none)(h:Q (.int (max i j)) H):OpL G A (fun vs=>call (.builtin "max") vs) [.int i,.int j] H Q:=by
 rintro s vs ok hvs
 obtain⟨_,_,rfl,⟨t,rfl⟩,u,rfl⟩:=hvs.two_inv
 refine max_two_ints hh fun h' tk hk=>DE (p:=.int (max i j)) ok hk ?_ h
 split
 ·exact⟨u,by congr 1;exact RY (by assumption)⟩
 ·exact⟨t,by congr 1;exact RX (by assumption)⟩
theorem MX{i j:Int}(hh:A.handled=none)(h:Q (.int (min i j)) H):OpL G A (fun vs=>call (.builtin "min") vs) [.int i,.int j] H Q:=by
 rintro s vs ok hvs
 refine AJ fun WW9 hW9=>?_
 obtain⟨_,_,eq9_0,⟨t,eq9_1⟩,u,eq9_2⟩:=hvs.two_inv
 refine hW9 ?_
 clear hW9 WW9
 subst eq9_0 eq9_1 eq9_2
 refine min_two_ints hh fun h' tk hk=>DE (p:=.int (min i j)) ok hk ?_ h
 split
 ·exact⟨u,by congr 1;exact RW (by assumption)⟩
 ·exact⟨t,by congr 1;exact RV (by assumption)⟩

end
end Mine
namespace Mine
variable [zz:Zz]
section
variable {G:Cx} {A:Around} {F:Fx} {σ:Loc} {H:AH} {Q:PV→AH→Prop}


noncomputable def Dy{α:Type}(xs:List α)(lo hi st:Option Int):List α :=
 (sliceRange (sliceBounds lo hi st xs.length).1 (sliceBounds lo hi st xs.length).2.1 (sliceBounds lo hi st xs.length).2.2).filterMap (xs[·]?)
omit [Zz] in
theorem DF{α β:Type}(f:α→β)(xs:List α)(lo hi st:Option Int):Dy (xs.map f) lo hi st=(Dy xs lo hi st).map f:=by
 unfold Dy
 simp only[List.length_map,List.map_filterMap]
 congr 1;funext i;simp
theorem VRs.places{h:Heap}{ps:List PV}{vs:List Value}(hv:VRs h ps vs):∀ l:List Nat,VRs h (l.filterMap (ps[·]?)) (l.filterMap (vs[·]?))
 | []=>rfl
 | i::l=>by
  cases e:ps[i]? with
  | none =>
   have:vs[i]?=none:=by rw[List.getElem?_eq_none_iff]at e ⊢;rw[hv.length];exact e
   simp only[List.filterMap_cons_none e,List.filterMap_cons_none this];exact VRs.places hv l
  | some p =>
   obtain⟨v,h1,h2⟩:=hv.get e
   simp only[List.filterMap_cons_some e,List.filterMap_cons_some h1]
   exact⟨v,_,rfl,h2,VRs.places hv l⟩
theorem VRs.pick{h:Heap}{ps:List PV}{vs:List Value}(hv:VRs h ps vs)(lo hi st:Option Int):VRs h (Dy ps lo hi st) (slicePick vs.toArray lo hi st).toList:=by
 have e:(slicePick vs.toArray lo hi st).toList=(sliceRange (sliceBounds lo hi st ps.length).1 (sliceBounds lo hi st ps.length).2.1 (sliceBounds lo hi st ps.length).2.2).filterMap (vs[·]?):=by
  simp[slicePick,hv.length]
 simp only[e];exact hv.places _


noncomputable def EvP(G:Cx)(F:Fx)(x:Option Expr)(σ:Loc)(H:AH)(Q:Option Int→AH→Prop):Prop:=match x with
 | none=>Q none H
 | some e=>Ev G F e σ H (fun p H1=>∃ i,p=.int i∧Q (some i) H1)
theorem EvP.go{x:Option Expr}{Q:Option Int→AH→Prop}{s:Shared}{R:Value→Shared→Prop}(h:EvP G F x σ H Q)(ok:OkH G H s)(lr:LR G F σ s.heap)
  (hR:∀ v s' o H',IsPart v o→OkH G H' s'→Kp H s H' s'→Q o H'→R v s'):wpAny (model G.prog G.w) F.A (evalPart x F.env) R Bb s:=by
 cases x with
 | none=>exact wpAny_pure (hR _ _ none H .none ok (Kp.refl H s) h)
 | some e =>
  refine wpAny_mono (h s ok lr) (fun v s1 zz2=>zz2.on fun p H1 hv ok1 k1 zz2_5=>zz2_5.elim fun i zz2_5=>zz2_5.elim fun hp hq=>?_) fun O O x=>x
  subst hp
  obtain⟨t,rfl⟩:=hv
  exact hR _ _ (some i) H1 (.int i t) ok1 k1 hq

theorem Ie{v:Expr}{lo hi st:Option Expr}{p pos:Pos}
  (h:Ev G F v σ H (fun o H1=>EvP G F lo σ H1 (fun l H2=>EvP G F hi σ H2 (fun u H3=>EvP G F st σ H3 (fun c H4 =>
   c≠some 0∧∃ a ho,o=.ref a∧H4 a=some ho∧∀ a',H4 a'=none→Q (.ref a') (H4.set a' (.lst (Dy ho.items l u c))))))))
  (ht:∀ o r,letTemporaryGo v o r=pure ()):Ev G F (.Subscript v (.Slice lo hi st p) pos) σ H Q:=by
 intro s ok lr
 have main:wpAny (model G.prog G.w) F.A (eval v F.env) (fun o s₁=>wpAny (model G.prog G.w) F.A (eval (.Slice lo hi st p) F.env) (fun i s₂=>s₂.TypeIs o "list" ∧ wpAny (model G.prog G.w) F.A (getItem o i) (Post G H s Q) Bb s₂) Bb s₁) Bb s:=by
  refine wpAny_mono (h s ok lr) (fun o s1 zz2=>zz2.on fun po H1 hv ok1 k1 h1=>wpAny_Slice ?_) fun O O x=>x
  have lr1:=lr.kp ok k1
  refine h1.go ok1 lr1 fun vl s2 l H2 pl ok2 k2 h2=>?_
  have lr2:=lr1.kp ok1 k2
  refine h2.go ok2 lr2 fun vu s3 u H3 pu ok3 k3 h3=>?_
  have lr3:=lr2.kp ok2 k3
  refine h3.go ok3 lr3 fun vc s4 c H4 pc ok4 k4 zz7=>zz7.elim fun h0 zz7=>zz7.elim fun a zz7=>zz7.elim fun ho zz7=>zz7.elim fun e zz7=>zz7.elim fun hH h4=>?_
  subst e
  rw[show o=.ref a from hv]
  have k14:=((k1.trans k2).trans k3).trans k4
  obtain⟨ok5,k5⟩:=Bn ok4 { cls:=.type "slice", data:=.fields #[vl,vu,vc] }
  obtain⟨⟨vs,n,hl,hvs,hz⟩,_⟩:=id (ok5.hr a ho hH)
  refine⟨hl.isList.typeIs,wpAny_getItem_list_slice hl.isList (Heap.IsSliceOf.new ..) pl pu pc h0 ?_ (by rw[List.size_toArray,hvs.length];exact hz)⟩
  have:=ES (tk:=s4.toks) ok5 (hvs.pick l u c) ?_ h4
  ·rw[Array.toArray_toList]at this
   exact this.trans (k14.trans k5)
  ·rw[← (hvs.pick l u c).length,Array.length_toList]
   exact Nat.le_trans (slicePick_size_le _ _ _ _) (by rw[List.size_toArray,hvs.length];exact hz)
 cases st with
 | none=>exact wpAny_Subscript_Slice list_getitem_lookup main ht
 | some st=>exact wpAny_Subscript_Slice_step list_getitem_lookup main ht


noncomputable def IN:PV→PV→Option Bool
 | .int a,.int b=>some (a==b)
 | .str a,.str b=>some (a==b)
 | _,_=>none
noncomputable def Dg:List PV→List PV→Option Bool
 | [],ys=>some ys.isEmpty
 | _::_,[]=>some false
 | x::xs,y::ys=>match IN x y,Dg xs ys with
  | some a,some b=>some (a&&b)
  | _,_=>none
noncomputable def FD:PV→PV→Option Bool
 | .tup xs,.tup ys=>Dg xs ys
 | x,y=>IN x y
noncomputable def C3:List PV→List PV→Option Bool
 | [],ys=>some ys.isEmpty
 | _::_,[]=>some false
 | x::xs,y::ys=>match FD x y,C3 xs ys with
  | some a,some b=>some (a&&b)
  | _,_=>none

open PySem.SeqAt in
theorem I6{s:Shared}{p q:PV}{u v:Value}{b:Bool}(h:IN p q=some b)(hu:VR s.heap p u)(hv:VR s.heap q v):EqAt A s u v b:=by
 cases p<;>cases q<;>simp only[IN,reduceCtorEq,Option.some.injEq]at h
 ·obtain⟨t,rfl⟩:=hu;obtain⟨w,rfl⟩:=hv;subst h;exact EqAt.int_int _ _ _ _
 ·obtain⟨t,rfl⟩:=hu;obtain⟨w,rfl⟩:=hv;subst h;exact EqAt.str_str _ _ _ _
theorem Ld{h:Heap}{p q:PV}{u:Value}{b:Bool}(e:IN p q=some b)(hu:VR h p u)(hv:VR h q u):b=true:=by
 cases p<;>cases q<;>simp only[IN,reduceCtorEq,Option.some.injEq]at e
 ·obtain⟨t,rfl⟩:=hu;obtain⟨w,e'⟩:=hv;injection e' with e';subst e';rw[← e];simp
 ·obtain⟨t,rfl⟩:=hu;obtain⟨w,e'⟩:=hv;injection e' with e';subst e';rw[← e];simp
set_option tactic.hygienic true in
theorem GY{h:Heap}:∀{ps qs:List PV} {us:List Value} {b:Bool},Dg ps qs=some b→VRs h ps us→VRs h qs us→b=true
 | [],[],_,b,e,_,_=>by simp[Dg]at e;exact e.symm▸rfl
 | [],q::qs,us,b,e,h1,zp6=>by obtain⟨v,r,e2,_,_⟩:=zp6;rw[show us=[]from h1]at e2;injection e2
 | p::ps,[],us,b,e,zp5,h1=>by obtain⟨v,r,e2,_,_⟩:=zp5;rw[show us=[]from h1]at e2;injection e2
 | p::ps,q::qs,us,b,e,zp5,zp6=>by
  obtain⟨v,r,e2,h1,h2⟩:=zp5
  obtain⟨v',r',e3,h3,h4⟩:=zp6
  rw[e2]at e3;injection e3 with e4 e5;subst e4;subst e5
  unfold Dg at e
  split at e
  ·rename_i a c ea ec;(replace e:=Option.some.inj e;subst e)
   rw[Ld ea h1 h3,GY ec h2 h4];rfl
  ·injection e
omit [Zz] in
set_option tactic.hygienic true in
theorem Lc{ps qs:List PV}{b:Bool}(h:Dg ps qs=some b):((List.range (min ps.length qs.length)).all fun j=>((ps[j]?).bind fun p=>(qs[j]?).bind fun q=>IN p q).getD true)=true∧ps.length=qs.length↔b=true:=by
 induction ps generalizing qs b with
 | nil=>cases qs<;>simp[Dg]at h<;>simp[← h]
 | cons p ps ih =>
  cases qs with
  | nil=>simp[Dg]at h;simp[← h]
  | cons q qs =>
   unfold Dg at h
   split at h
   ·rename_i a c ea ec;(replace h:=Option.some.inj h;subst h)
    have:=ih ec
    simp only[List.length_cons,List.length_cons,Nat.add_min_add_right,List.range_succ_eq_map,List.all_cons,List.all_map]
    simp only[List.getElem?_cons_zero,Option.bind_some,ea,Option.getD_some,Bool.and_eq_true,Function.comp_def,List.getElem?_cons_succ]
    constructor
    ·rintro⟨⟨h1,h2⟩,h3⟩;exact⟨h1,this.mp ⟨h2,by exact Nat.add_right_cancel h3⟩⟩
    ·rintro⟨h1,h2⟩;obtain⟨h3,h4⟩:=this.mpr h2;exact⟨⟨h1,h3⟩,by exact congrArg _ h4⟩
   ·injection h
omit [Zz] in
set_option tactic.hygienic true in
theorem Lb{ps qs:List PV}{b:Bool}(h:Dg ps qs=some b){j:Nat}{p q:PV}(hp:ps[j]?=some p)(hq:qs[j]?=some q):∃ c,IN p q=some c:=by
 induction ps generalizing qs b j with
 | nil=>simp at hp
 | cons p ps ih =>
  cases qs with
  | nil=>simp at hq
  | cons q qs =>
   unfold Dg at h
   split at h
   ·rename_i a c ea ec
    cases j with
    | zero=>simp at hp hq;subst hp;subst hq;exact⟨_,ea⟩
    | succ j=>exact ih ec (by simpa using hp) (by simpa using hq)
   ·injection h
omit [Zz] in
theorem BG{a b:Bool}(h:a=true↔b=true):a=b:=by cases a<;>cases b<;>simp_all
theorem VRs.ex{h:Heap}{ps:List PV}{vs:List Value}(hv:VRs h ps vs){j:Nat}(hj:j<vs.length):∃ p,ps[j]?=some p∧VR h p vs[j]:=by
 have hj':j<ps.length:=by rw[← hv.length];exact hj
 obtain⟨v,h1,h2⟩:=hv.get (List.getElem?_eq_getElem hj')
 refine⟨_,List.getElem?_eq_getElem hj',?_⟩
 rw[List.getElem?_eq_getElem hj]at h1;(replace h1:=Option.some.inj h1;subst h1);exact h2
open PySem.SeqAt in
theorem NH{s:Shared}{xs ys:List PV}{a b:Addr}{vs us:List Value}{n k:Nat}{r:Bool}(hu:A.units<cLine)(hx:IsT s.heap a vs.toArray n)(hy:IsT s.heap b us.toArray k)(hxs:VRs s.heap xs vs)(hys:VRs s.heap ys us)(h:Dg xs ys=some r):RcAt A s (.ref a) (.ref b) r:=by
 have key:r=((List.range (min vs.toArray.size us.toArray.size)).all (fun j=>((xs[j]?).bind fun p=>(ys[j]?).bind fun q=>IN p q).getD true)&&(vs.toArray.size==us.toArray.size)):=by
  apply BG
  simp only[← Lc h]
  simp[hxs.length,hys.length]
 rw[key]
 refine RcAt.tuples ⟨_,hx,rfl,_,rfl⟩ ⟨_,hy,rfl,_,rfl⟩ hu fun j h1 h2=>?_
 simp only[List.size_toArray]at h1 h2
 obtain⟨p,hp,hp'⟩:=hxs.ex h1
 obtain⟨q,hq,hq'⟩:=hys.ex h2
 obtain⟨c,hc⟩:=Lb h hp hq
 simp only[hp,hq]
 simp only[Option.bind_some,hc,Option.getD_some,List.getElem_toArray]
 exact I6 hc hp' hq'
open PySem.SeqAt in
theorem Ea{s:Shared}{p q:PV}{u v:Value}{b:Bool}(hu:A.units<cLine)(h:FD p q=some b)(h1:VR s.heap p u)(h2:VR s.heap q v):EqAt A s u v b:=by
 cases p with
 | tup xs =>
  cases q with
  | tup ys =>
   obtain⟨a,vs,n,rfl,hx,hxs,_⟩:=h1
   obtain⟨c,us,k,rfl,hy,hys,_⟩:=h2
   by_cases hac:a=c
   ·subst hac
    have:vs=us:=by
     have hy':some _=some _:=(show s.heap.get? a=_ from hx).symm.trans hy
     injection hy' with hy;injection hy with _ _ hy _;injection hy with hy _;simpa using hy
    subst this
    rw[GY h hxs hys];exact EqAt.same _
   ·exact EqAt.of_refs hac (NH hu hx hy hxs hys h)
  | _=>simp[FD,IN]at h
 | int i=>cases q<;>first | (simp[FD,IN]at h;done) | (exact I6 (by simpa[FD]using h) h1 h2)
 | str i=>cases q<;>first | (simp[FD,IN]at h;done) | (exact I6 (by simpa[FD]using h) h1 h2)
 | _=>cases q<;>simp[FD,IN]at h
omit [Zz] in
set_option tactic.hygienic true in
theorem IR{ps qs:List PV}{b:Bool}(h:C3 ps qs=some b)(hl:ps.length=qs.length):((List.range ps.length).all fun j=>((ps[j]?).bind fun p=>(qs[j]?).bind fun q=>FD p q).getD true)=b:=by
 induction ps generalizing qs b with
 | nil=>cases qs<;>simp[C3]at h hl ⊢;exact h
 | cons p ps ih =>
  cases qs with
  | nil=>simp at hl
  | cons q qs =>
   unfold C3 at h
   split at h
   ·rename_i a c ea ec;(replace h:=Option.some.inj h;subst h)
    have:=ih ec (by simpa using hl)
    simp only[List.length_cons,List.range_succ_eq_map,List.all_cons,List.all_map]
    simp only[List.getElem?_cons_zero,Option.bind_some,ea,Option.getD_some,Function.comp_def,List.getElem?_cons_succ]
    rw[this]
   ·injection h
omit [Zz] in
set_option tactic.hygienic true in
theorem IP{ps qs:List PV}{b:Bool}(h:C3 ps qs=some b)(hl:ps.length≠qs.length):b=false:=by
 induction ps generalizing qs b with
 | nil=>cases qs<;>simp[C3]at h hl ⊢;exact h
 | cons p ps ih =>
  cases qs with
  | nil=>simp[C3]at h;exact h
  | cons q qs =>
   unfold C3 at h
   split at h
   ·rename_i a c ea ec;(replace h:=Option.some.inj h;subst h)
    rw[ih ec (by simpa using hl)];simp
   ·injection h
omit [Zz] in
set_option tactic.hygienic true in
theorem IQ{ps qs:List PV}{b:Bool}(h:C3 ps qs=some b){j:Nat}{p q:PV}(hp:ps[j]?=some p)(hq:qs[j]?=some q):∃ c,FD p q=some c:=by
 induction ps generalizing qs b j with
 | nil=>simp at hp
 | cons p ps ih =>
  cases qs with
  | nil=>simp at hq
  | cons q qs =>
   unfold C3 at h
   split at h
   ·rename_i a c ea ec
    cases j with
    | zero=>simp at hp hq;subst hp;subst hq;exact⟨_,ea⟩
    | succ j=>exact ih ec (by simpa using hp) (by simpa using hq)
   ·injection h
section
open PySem.SeqAt
theorem NN{a b:Addr}{ho ho':HO}{r:Bool}(hu:A.units+1<cLine)(ha:H a=some ho)(hb:H b=some ho')(hr:C3 ho.items ho'.items=some r)(h:Q (.bool r) H):Cv G A (compareOp .Eq) (.ref a) (.ref b) H Q:=by
 rintro s _ _ ok rfl rfl
 obtain⟨⟨vs,n,hl,hv,hz⟩,_⟩:=id (ok.hr a ho ha)
 obtain⟨⟨us,k,hm,hw,hz'⟩,_⟩:=id (ok.hr b ho' hb)
 by_cases hs:ho.items.length=ho'.items.length
 ·have e:=IR hr hs
  have hs':vs.toArray.size=us.toArray.size:=by simp[hv.length,hw.length,hs]
  refine eq_listAt (e:=fun j=>((ho.items[j]?).bind fun p=>(ho'.items[j]?).bind fun q=>FD p q).getD true) hl.isList hm.isList hs' (by exact Nat.le_of_lt hu) (fun j h1 h2=>?_) ?_
  ·simp only[List.size_toArray]at h1 h2
   obtain⟨p,hp,hp'⟩:=hv.ex h1
   obtain⟨q,hq,hq'⟩:=hw.ex h2
   obtain⟨c,hc⟩:=IQ hr hp hq
   rw[hp,hq]
   simp only[Option.bind_some,hc,Option.getD_some,List.getElem_toArray]
   exact Ea hu hc hp' hq'
  ·rw[List.size_toArray,hv.length,e];exact AV (p:=.bool r) ok rfl h
 ·rw[IP hr hs]at h
  exact eq_list_lengthsAt hl.isList hm.isList (by simp[hv.length,hw.length,hs]) (by exact Nat.le_of_lt hu) (AV (p:=.bool false) ok rfl h)
theorem Fb{a b:Addr}{ho ho':HO}{r:Bool}(hu:A.units+1<cLine)(ha:H a=some ho)(hb:H b=some ho')(hr:C3 ho.items ho'.items=some r)(h:Q (.bool (!r)) H):Cv G A (compareOp .NotEq) (.ref a) (.ref b) H Q:=by
 rintro s _ _ ok rfl rfl
 obtain⟨⟨vs,n,hl,hv,hz⟩,_⟩:=id (ok.hr a ho ha)
 obtain⟨⟨us,k,hm,hw,hz'⟩,_⟩:=id (ok.hr b ho' hb)
 by_cases hs:ho.items.length=ho'.items.length
 ·have e:=IR hr hs
  have hs':vs.toArray.size=us.toArray.size:=by simp[hv.length,hw.length,hs]
  refine PySem.EqBoolInt.of_rcne (RcNeAt.lists (e:=fun j=>((ho.items[j]?).bind fun p=>(ho'.items[j]?).bind fun q=>FD p q).getD true) hl.isList hm.isList hs' (by exact Nat.le_of_lt hu) (fun j h1 h2=>?_)) ?_
  ·simp only[List.size_toArray]at h1 h2
   obtain⟨p,hp,hp'⟩:=hv.ex h1
   obtain⟨q,hq,hq'⟩:=hw.ex h2
   obtain⟨c,hc⟩:=IQ hr hp hq
   simp only[hp,hq]
   simp only[Option.bind_some,hc,Option.getD_some,List.getElem_toArray]
   exact Ea hu hc hp' hq'
  ·simp only[List.size_toArray,hv.length,e];exact AV (p:=.bool (!r)) ok rfl h
 ·rw[IP hr hs]at h
  exact PySem.EqBoolInt.of_rcne (RcNeAt.lists_lengths hl.isList hm.isList (by simp[hv.length,hw.length,hs]) (by exact Nat.le_of_lt hu)) (AV (p:=.bool true) ok rfl h)
end
omit [Zz] in
theorem Fp{α:Type}[DecidableEq α]{f:α→PV}(hf:∀ x y,FD (f x) (f y)=some (decide (x=y))):∀ xs ys:List α,C3 (xs.map f) (ys.map f)=some (decide (xs=ys))
 | [],ys=>by cases ys<;>simp[C3]
 | x::xs,[]=>by simp[C3]
 | x::xs,y::ys=>by
  simp only[List.map_cons,C3,hf,Fp hf xs ys]
  congr 1
  by_cases h1:x=y<;>by_cases h2:xs=ys<;>simp[h1,h2]
omit [Zz] in
theorem DL(xs ys:List Int):C3 (xs.map .int) (ys.map .int)=some (decide (xs=ys)):=Fp (fun x y=>by simp only[FD,IN];congr 1) xs ys
end
end Mine
namespace Mine


section
variable {α:Type}
structure SWO (L:α→α→Bool):Prop where
 asym:∀ x y,L x y=true→L y x=false
 ntr:∀ x y z,L x y=false→L y z=false→L x z=false
variable {L:α→α→Bool}
theorem SWO.irr(o:SWO L)(x:α):L x x=false:=by
 cases h:L x x with
 | false=>rfl
 | true=>have:=o.asym x x h;rw[h]at this;injection this
theorem SWO.tr(o:SWO L){x y z:α}(h1:L x y=true)(h2:L y z=true):L x z=true:=by
 cases h:L x z with
 | true=>rfl
 | false=>have:=o.ntr y x z (o.asym _ _ h1) h;rw[h2]at this;injection this
theorem SWO.lt_le(o:SWO L){x y z:α}(h1:L x y=true)(h2:L z y=false):L x z=true:=by
 cases h:L x z with
 | true=>rfl
 | false=>have:=o.ntr x z y h h2;rw[h1]at this;injection this
theorem SWO.le_lt(o:SWO L){x y z:α}(h1:L y x=false)(h2:L y z=true):L x z=true:=by
 cases h:L x z with
 | true=>rfl
 | false=>have:=o.ntr y x z h1 h;rw[h2]at this;injection this

noncomputable def EZ(L:α→α→Bool)(x y:α):Bool:=!L x y&&!L y x
theorem eqv_iff{x y:α}:EZ L x y=true↔L x y=false∧L y x=false:=by unfold EZ;cases L x y<;>cases L y x<;>simp
theorem Cb(o:SWO L)(x:α):EZ L x x=true:=eqv_iff.mpr ⟨o.irr x,o.irr x⟩
theorem La(o:SWO L){x y z:α}(h1:EZ L x y=true)(h2:EZ L y z=true):EZ L x z=true:=by
 obtain⟨a,b⟩:=eqv_iff.mp h1;obtain⟨c,d⟩:=eqv_iff.mp h2
 exact eqv_iff.mpr ⟨o.ntr _ _ _ a c,o.ntr _ _ _ d b⟩
theorem Jc{x y:α}(h:EZ L x y=true):EZ L y x=true:=by
 obtain⟨a,b⟩:=eqv_iff.mp h;exact eqv_iff.mpr ⟨b,a⟩
noncomputable def SEq(L:α→α→Bool)(l r:List α):Prop:=∀ x,l.filter (EZ L x)=r.filter (EZ L x)
theorem SEq.refl(l:List α):SEq L l l:=fun O=>rfl
theorem SEq.of_eq{l r:List α}(h:l=r):SEq L l r:=h▸SEq.refl _
theorem SEq.symm{l r:List α}(h:SEq L l r):SEq L r l:=fun x=>(h x).symm
theorem SEq.trans{l r t:List α}(h:SEq L l r)(h':SEq L r t):SEq L l t:=fun x=>(h x).trans (h' x)
theorem SEq.append{l r l' r':List α}(h:SEq L l r)(h':SEq L l' r'):SEq L (l++l') (r++r'):=fun x=>by simp only[List.filter_append,List.filter_append,h x,h' x]
theorem SEq.left(l:List α){r r':List α}(h:SEq L r r'):SEq L (l++r) (l++r'):=(SEq.refl l).append h
theorem SEq.right{r r':List α}(h:SEq L r r')(l:List α):SEq L (r++l) (r'++l):=h.append (SEq.refl l)
theorem SEq.swap(o:SWO L){A B:List α}(h:∀ a∈A,∀ b∈B,L b a=true):SEq L (A++B) (B++A):=by
 intro x
 simp only[List.filter_append,List.filter_append]
 by_cases hA:A.filter (EZ L x)=[]
 ·rw[hA];simp
 ·obtain⟨a,ha⟩:=List.exists_mem_of_ne_nil _ hA
  obtain⟨ha,hxa⟩:=List.mem_filter.mp ha
  have:B.filter (EZ L x)=[]:=by
   rw[List.filter_eq_nil_iff]
   intro b hb hxb
   have:=eqv_iff.mp (La o (Jc hxb) hxa)
   rw[h a ha b hb]at this;cases this.1
  rw[this];simp
theorem SEq.mem(o:SWO L){l r:List α}(h:SEq L l r){x:α}(hx:x∈l):x∈r:=by
 have:x∈l.filter (EZ L x):=List.mem_filter.mpr ⟨hx,Cb o x⟩
 rw[h x]at this;exact(List.mem_filter.mp this).1
theorem SEq.nil(o:SWO L){r:List α}(h:SEq L [] r):r=[]:=by
 cases r with
 | nil=>rfl
 | cons x r=>have:=h.symm.mem o (List.mem_cons_self ..);cases this
theorem SEq.perm(o:SWO L):∀{l r:List α},SEq L l r→l.Perm r
 | [],r,h=>by rw[h.nil o]
 | x::l,r,h=>by
  have hx:r.filter (EZ L x)=x::l.filter (EZ L x):=by rw[← h x,List.filter_cons_of_pos (Cb o x)]
  obtain⟨r1,r2,hr,h1,h2,h3⟩:=List.filter_eq_cons_iff.mp hx
  subst hr
  refine(List.Perm.cons x (SEq.perm o (r:=r1++r2) fun y=>?_)).trans List.perm_middle.symm
  have hy:=h y
  by_cases hyx:EZ L y x=true
  ·have e1:r1.filter (EZ L y)=[]:=by
    rw[List.filter_eq_nil_iff]
    intro b hb hyb
    exact h1 b hb (La o (Jc hyx) hyb)
   rw[List.filter_cons_of_pos hyx,List.filter_append,e1,List.nil_append,List.filter_cons_of_pos hyx]at hy
   simp only[List.filter_append,e1,List.nil_append];injection hy
  ·rw[List.filter_cons_of_neg hyx,List.filter_append,List.filter_cons_of_neg hyx]at hy
   simp only[List.filter_append];exact hy
theorem SEq.length(o:SWO L){l r:List α}(h:SEq L l r):l.length=r.length:=(h.perm o).length_eq

noncomputable def Srt(L:α→α→Bool)(l:List α):Prop:=l.Pairwise fun x y=>L y x=false
theorem Srt.append{l r:List α}:Srt L (l++r)↔Srt L l∧Srt L r∧∀ x∈l,∀ y∈r,L y x=false:=List.pairwise_append
theorem Ib(o:SWO L):∀{l r:List α},Srt L l→Srt L r→SEq L l r→l=r
 | [],r,_,_,h=>(h.nil o).symm
 | x::l,[],_,_,h=>by have:=h.symm.nil o;injection this
 | x::l,y::r,hl,hr,h=>by
  have hxy:L y x=false∨y=x:=by
   have:=h.symm.mem o (List.mem_cons_self (a:=y) (l:=r))
   rcases List.mem_cons.mp this with e | e
   ·exact .inr e
   ·exact .inl ((List.pairwise_cons.mp hl).1 y e)
  have hyx:L x y=false∨x=y:=by
   have:=h.mem o (List.mem_cons_self (a:=x) (l:=l))
   rcases List.mem_cons.mp this with e | e
   ·exact .inr e
   ·exact .inl ((List.pairwise_cons.mp hr).1 x e)
  have he:EZ L x y=true:=by
   rcases hxy with a | a<;>rcases hyx with b | b
   ·exact eqv_iff.mpr ⟨b,a⟩
   ·subst b;exact Cb o _
   ·subst a;exact Cb o _
   ·subst a;exact Cb o _
  have hx:=h x
  rw[List.filter_cons_of_pos (Cb o x),List.filter_cons_of_pos he]at hx
  injection hx with e1 e2
  subst e1
  congr 1
  refine Ib o (List.pairwise_cons.mp hl).2 (List.pairwise_cons.mp hr).2 fun z=>?_
  have hz:=h z
  by_cases hzx:EZ L z x=true
  ·rw[List.filter_cons_of_pos hzx,List.filter_cons_of_pos hzx]at hz;injection hz
  ·rw[List.filter_cons_of_neg hzx,List.filter_cons_of_neg hzx]at hz;exact hz


noncomputable def I0(L:α→α→Bool)(x:α):List α→List α
 | []=>[x]
 | y::ys=>if L y x then y::I0 L x ys else x::y::ys
noncomputable def AO(L:α→α→Bool):List α→List α
 | []=>[]
 | x::xs=>I0 L x (AO L xs)
theorem IH(x:α):∀ l:List α,(I0 L x l).Perm (x::l)
 | []=>List.Perm.refl _
 | y::ys=>by
  unfold I0;split
  ·exact((IH x ys).cons y).trans (List.Perm.swap ..)
  ·exact List.Perm.refl _
theorem AX:∀ l:List α,(AO L l).Perm l
 | []=>List.Perm.refl _
 | x::xs=>(IH x _).trans ((AX xs).cons x)
theorem DJ(x:α):∀ l:List α,∃ a b,l=a++b∧I0 L x l=a++x::b∧(∀ y∈a,L y x=true)∧(∀ y,b.head?=some y→L y x=false)
 | []=>⟨[],[],rfl,rfl,by simp,by simp⟩
 | y::ys=>by
  unfold I0
  by_cases h:L y x=true
  ·obtain⟨a,b,e1,e2,h1,h2⟩:=DJ x ys
   refine⟨y::a,b,by rw[e1];rfl,by rw[if_pos h,e2];rfl,?_,h2⟩
   intro z hz;rcases List.mem_cons.mp hz with rfl | hz
   ·exact h
   ·exact h1 z hz
  ·exact⟨[],y::ys,rfl,by rw[if_neg h];rfl,by simp,by intro z hz;simp at hz;subst hz;simpa using h⟩
theorem Mf(o:SWO L)(x:α){l:List α}(h:Srt L l):Srt L (I0 L x l):=by
 obtain⟨a,b,e1,e2,h1,h2⟩:=DJ (L:=L) x l
 rw[e2];rw[e1]at h
 obtain⟨ha,hb,hab⟩:=Srt.append.mp h
 refine Srt.append.mpr ⟨ha,?_,?_⟩
 ·refine List.pairwise_cons.mpr ⟨fun y hy=>?_,hb⟩
  cases b with
  | nil=>cases hy
  | cons z b =>
   have hz:=h2 z rfl
   rcases List.mem_cons.mp hy with rfl | hy
   ·exact hz
   ·exact o.ntr _ _ _ ((List.pairwise_cons.mp hb).1 y hy) hz
 ·intro y hy z hz
  rcases List.mem_cons.mp hz with rfl | hz
  ·exact o.asym _ _ (h1 y hy)
  ·exact hab y hy z hz
theorem Ba(o:SWO L):∀ l:List α,Srt L (AO L l)
 | []=>List.Pairwise.nil
 | x::xs=>Mf o x (Ba o xs)
theorem Mg(o:SWO L)(x:α)(l:List α):SEq L (I0 L x l) (x::l):=by
 obtain⟨a,b,e1,e2,h1,h2⟩:=DJ (L:=L) x l
 rw[e2,e1,show a++x::b=(a++[x])++b by simp,show x::(a++b)=([x]++a)++b by simp]
 exact(SEq.swap (A:=[x]) (B:=a) o fun y hy z hz=>by rw[List.mem_singleton.mp hy];exact h1 z hz).symm.right b
theorem DI(o:SWO L):∀ l:List α,SEq L (AO L l) l
 | []=>SEq.refl _
 | x::xs=>(Mg o x _).trans ((DI o xs).left [x])
theorem Dc(o:SWO L){l r:List α}(h:SEq L l r)(hs:Srt L l):l=AO L r:=Ib o hs (Ba o r) (h.trans (DI o r).symm)
theorem HH{β:Type}{M:β→β→Bool}(f:α→β)(x:α):∀ l:List α,(∀ y∈l,M (f y) (f x)=L y x)→I0 M (f x) (l.map f)=(I0 L x l).map f
 | [],_=>rfl
 | y::ys,h=>by
  simp only[List.map_cons,I0]
  rw[h y (List.mem_cons_self ..)]
  split
  ·rw[HH f x ys fun z hz=>h z (List.mem_cons_of_mem _ hz)];rfl
  ·rfl
theorem BA{β:Type}{M:β→β→Bool}(f:α→β):∀ l:List α,(∀ x∈l,∀ y∈l,M (f x) (f y)=L x y)→AO M (l.map f)=(AO L l).map f
 | [],_=>rfl
 | x::xs,h=>by
  show I0 M (f x) (AO M (xs.map f))=_
  rw[BA f xs fun y hy z hz=>h y (List.mem_cons_of_mem _ hy) z (List.mem_cons_of_mem _ hz)]
  exact HH f x _ fun y hy=>h y (List.mem_cons_of_mem _ ((AX xs).mem_iff.mp hy)) x (List.mem_cons_self ..)
end
end Mine
namespace Mine

section arr
variable {α:Type}
theorem GB{xs:Array α}{pre seg post:List α}{i j:Nat}(h:xs.toList=pre++seg++post)(hi:i=pre.length)(hj:j=pre.length+seg.length) :
  (mirror xs i j ((j - i) / 2)).toList=pre++seg.reverse++post:=by
 have hsz:xs.size=pre.length+seg.length+post.length:=by simp only[← Array.length_toList,h];simp[Nat.add_assoc]
 apply List.ext_getElem?
 intro k
 have e:=getElem?_mirror_all (xs:=xs) (i:=i) (j:=j) (by exact RU hj hsz) k
 rw[Array.getElem?_toList,e,← Array.getElem?_toList,← Array.getElem?_toList,h]
 subst hi;subst hj
 simp only[List.getElem?_append,List.length_append,List.length_reverse]
 repeat' split
 all_goals first
  | rfl
  | (exfalso;(first | exact RT (by assumption) (by assumption) | exact RS (by assumption) (by assumption) | exact RR (by assumption) (by assumption) | exact RQ (by assumption) (by assumption) | exact RP (by assumption) (by assumption) (by assumption)))
  | (rw[List.getElem?_reverse (by exact RO (by assumption))];congr 1;exact RN (by assumption))
theorem Hf{xs:Array α}{l r:List α}{x y:α}{j:Nat}(h:xs.toList=l++y::x::r)(hj:j=l.length):(xs.swapIfInBounds (j+1) j).toList=l++x::y::r:=by
 have hsz:xs.size=l.length+(r.length+2):=by simp only[← Array.length_toList,h];simp
 subst hj
 apply List.ext_getElem?
 intro k
 rw[Array.getElem?_toList,getElem?_swapIB (by exact RM hsz) (by exact RL hsz),← Array.getElem?_toList,← Array.getElem?_toList,← Array.getElem?_toList,h]
 clear h hsz
 rcases Nat.lt_trichotomy k l.length with hk | hk | hk
 ·rw[if_neg (by exact Nat.ne_of_gt hk),if_neg (by exact Nat.ne_of_gt (Nat.lt_succ_of_lt hk)),List.getElem?_append_left hk,List.getElem?_append_left hk]
 ·subst hk;rw[if_pos rfl];simp
 ·obtain⟨m,rfl⟩:∃ m,k=l.length+m+1:=⟨k - l.length - 1,by exact RK hk⟩
  rw[if_neg (by exact Nat.ne_of_lt hk)]
  cases m with
  | zero=>rw[if_pos rfl];simp
  | succ m=>rw[if_neg (by exact RJ),List.getElem?_append_right (by exact Nat.le_trans (Nat.le_add_right _ _) (Nat.le_succ _)),List.getElem?_append_right (by exact Nat.le_trans (Nat.le_add_right _ _) (Nat.le_succ _)),show l.length+(m+1)+1 - l.length=m+2 by exact RH];simp
theorem DW{xs:Array α}{pre post:List α}{x:α}:∀(b a:List α) {i d:Nat},xs.toList=pre++(a++b)++x::post→i=pre.length+a.length+b.length→d=b.length →
  (bubble xs i d).toList=pre++(a++x::b)++post
 | [],a,i,d,h,hi,hd=>by
  subst hd
  show xs.toList=_
  simp only[h];simp
 | y::b,a,i,d,h,hi,hd=>by
  subst hd
  have ih:=DW (xs:=xs) (pre:=pre) (post:=post) (x:=x) b (a++[y]) (i:=i) (d:=b.length) (by simp only[h];simp) (by simp only[hi];simp;exact RG) rfl
  simp only[List.length_cons,bubble_succ]
  have e:i - b.length=pre.length+a.length+1:=by simp only[hi,List.length_cons];exact RF
  simp only[e,show pre.length+a.length+1 - 1=pre.length+a.length from rfl]
  rw[Hf (l:=pre++a) (r:=b++post) (x:=x) (y:=y) (by simp only[ih];simp) (by simp)]
  simp
end arr

section
variable {prog:Program} {w:World} {A:Around} {E:Value→Shared→Prop} {s:Shared} {κ:SortKind} {D:Keyed→Prop} {L:Keyed→Keyed→Bool}


noncomputable def DT(prog:Program)(w:World)(A:Around)(s:Shared)(κ:SortKind)(D:Keyed→Prop)(L:Keyed→Keyed→Bool):Prop :=
 ∀ x y,D x→D y→∀(E:Value→Shared→Prop) (Q:Bool→Shared→Prop),Q (L x y) s→wpAny (model prog w) A (keyLt' κ x.1 y.1) Q E s

theorem Do{st:SortSt}{x y:Keyed}{Q:Option Bool→SortSt→Prop}(C:DT prog w A s κ D L)(hk:kindOf st=κ)(hx:D x)(hy:D y)(h:Q (some (L x y)) st) :
  wpS (model prog w) A E s (lt' x y) Q st:=by
 simp only[lt'_eq]
 refine wpS_bind (wpS_get ?_)
 rw[hk]
 refine wpS_bind (wpS_lift (wpAny_attempt (C x y hx hy _ _ ⟨rfl,?_⟩)))
 exact wpS_pure h
theorem Ag{st:SortSt}{a:Array Keyed}{i:Nat}{x:Keyed}{Q:Keyed→SortSt→Prop}(hi:a.toList[i]?=some x)(h:Q x st):wpS (model prog w) A E s (elem' a i) Q st:=by
 rw[elem'_eq,← Array.getElem?_toList,hi];exact wpS_pure h
theorem Dp{st:SortSt}{i j:Nat}{x y:Keyed}{Q:Option Bool→SortSt→Prop}(C:DT prog w A s κ D L)(hk:kindOf st=κ)(hi:(arrOf st).toList[i]?=some x)(hj:(arrOf st).toList[j]?=some y)
  (hx:D x) (hy:D y) (h:Q (some (L x y)) st):wpS (model prog w) A E s (ltAt' i j) Q st:=by
 rw[ltAt'_eq]
 refine wpS_bind (wpS_get ?_)
 exact wpS_bind (Ag hi (wpS_bind (Ag hj (Do C hk hx hy h))))


theorem E5{st:SortSt}{pre a b post:List Keyed}{Q:Bool→SortSt→Prop}(o:SWO L)(C:DT prog w A s κ D L)(hk:kindOf st=κ)(ha:(arrOf st).toList=pre++(a++b)++post)(hD:∀ p∈a++b,D p)(hs:Srt L a)(hne:a≠[])
  (h:∀ xs t,xs.toList=pre++t++post→Srt L t→SEq L t (a++b)→Q true (setArr st xs)):wpS (model prog w) A E s (binarySort' pre.length (a.length+b.length) a.length) Q st:=by
 have hpos:0<a.length:=List.length_pos_iff.mpr hne
 rw[binarySort'_eq,show max a.length 1=a.length by exact Nat.max_eq_left hpos]
 refine wpS_bind (wpS_mono (wpS_forRange (I:=fun k c st'=>c=(none,())∧∃ xs t,st'=setArr st xs∧xs.toList=pre++(t++b.drop (k - a.length))++post∧Srt L t∧SEq L t (a++b.take (k - a.length))∧t.length=k)
  (Q:=fun c st'=>c=(none,())∧∃ xs t,st'=setArr st xs∧xs.toList=pre++t++post∧Srt L t∧SEq L t (a++b)) ?step ?fin ?init) ?post)
 case post =>
  intro c st' zq9
  refine AJ fun WW9 hW9=>?_
  obtain⟨eq9_0,xs,t,eq9_1,h1,h2,h3⟩:=zq9
  refine hW9 ?_
  clear hW9 WW9
  subst eq9_0 eq9_1
  exact wpS_pure (h xs t h1 h2 h3)
 case init =>
  exact⟨rfl,arrOf st,a,rfl,by simpa using ha,hs,by simpa using SEq.refl _,rfl⟩
 case fin =>
  intro c st' zq9
  refine AJ fun WW9 hW9=>?_
  obtain⟨hc,xs,t,eq9_0,h1,h2,h3,h4⟩:=zq9
  refine hW9 ?_
  clear hW9 WW9
  subst eq9_0
  rw[show max a.length (a.length+b.length) - a.length=b.length by exact M9,List.drop_length,List.append_nil]at h1
  rw[show max a.length (a.length+b.length) - a.length=b.length by exact M9,List.take_length]at h3
  exact⟨hc,xs,t,rfl,h1,h2,h3⟩
 case step =>
  intro k c st' hak hkn zq9
  refine AJ fun WW9 hW9=>?_
  obtain⟨eq9_0,xs,t,eq9_1,h1,h2,h3,h4⟩:=zq9
  refine hW9 ?_
  clear hW9 WW9
  subst eq9_0 eq9_1
  obtain⟨x,hx⟩:∃ x,b[k - a.length]?=some x:=⟨_,List.getElem?_eq_getElem (by exact RE hkn hak)⟩
  obtain⟨hlt,hxe⟩:=List.getElem?_eq_some_iff.mp hx
  have hdrop:b.drop (k - a.length)=x::b.drop (k+1 - a.length):=by
   rw[List.drop_eq_getElem_cons hlt,hxe,show k - a.length+1=k+1 - a.length by exact RD hak]
  have htake:b.take (k+1 - a.length)=b.take (k - a.length)++[x]:=by
   rw[show k+1 - a.length=k - a.length+1 by exact RC hak,List.take_add_one,hx];rfl
  rw[hdrop]at h1
  have hDx:D x:=hD x (List.mem_append_right _ (List.mem_of_getElem? hx))
  have hDt:∀ y∈t,D y:=fun y hy=>by
   have:=h3.mem o hy
   refine hD y ?_
   rcases List.mem_append.mp this with h | h
   ·exact List.mem_append_left _ h
   ·exact List.mem_append_right _ (List.mem_of_mem_take h)
  have hgk:xs.toList[pre.length+k]?=some x:=by
   rw[h1,List.append_assoc,List.getElem?_append_right (by exact Nat.le_add_right _ _),List.append_assoc,List.getElem?_append_right (by exact RB h4)]
   rw[show pre.length+k - pre.length - t.length=0 by exact RA h4];rfl
  have hgm:∀ m y,t[m]?=some y→xs.toList[pre.length+m]?=some y:=fun m y hy=>by
   have:=(List.getElem?_eq_some_iff.mp hy).1
   rw[h1,List.append_assoc,List.getElem?_append_right (by exact Nat.le_add_right _ _),List.append_assoc,List.getElem?_append_left (by exact Q9 this),show pre.length+m - pre.length=m by exact Nat.add_sub_cancel_left _ _];exact hy
  refine wpS_bind (wpS_mono (wpS_forRange (I:=fun z c st''=>st''=setArr st xs∧∃ l r,c=(none,l,r)∧l≤r∧r≤k∧r - l≤k - z ∧
    (∀ i y,t[i]?=some y→i<l→L x y=false)∧(∀ i y,t[i]?=some y→r≤i→L x y=true))
   (Q:=fun c st''=>st''=setArr st xs∧∃ l r,c=(none,l,r)∧l≤k ∧
    (∀ i y,t[i]?=some y→i<l→L x y=false)∧(∀ i y,t[i]?=some y→l≤i→L x y=true)) ?istep ?ifin ?iinit) ?ipost)
  case iinit=>exact⟨rfl,0,k,rfl,by exact Nat.zero_le _,by exact Nat.le_refl _,by exact Nat.le_refl _,fun i y O hi=>by exact False.elim ((Nat.not_lt_zero _ hi).elim),fun i y hy h1=>by have:=(List.getElem?_eq_some_iff.mp hy).1;exact(Q8 this h4 h1).elim⟩
  case ifin =>
   intro c st'' zq9
   refine AJ fun WW9 hW9=>?_
   obtain⟨eq9_0,l,r,eq9_1,hlr,hrk,hm,hlo,hhi⟩:=zq9
   refine hW9 ?_
   clear hW9 WW9
   subst eq9_0 eq9_1
   have:l=r:=by exact M8 hm hlr
   subst this
   exact⟨rfl,l,l,rfl,hrk,hlo,hhi⟩
  case istep =>
   intro z c st'' _ hxk zq9
   refine AJ fun WW9 hW9=>?_
   obtain⟨eq9_0,l,r,eq9_1,hlr,hrk,hm,hlo,hhi⟩:=zq9
   refine hW9 ?_
   clear hW9 WW9
   subst eq9_0 eq9_1
   dsimp only
   by_cases hge:l≥r
   ·refine Df hge ?_
    have:l=r:=by exact Nat.le_antisymm hlr hge
    subst this
    exact wpS_pure ⟨rfl,l,l,rfl,hrk,hlo,hhi⟩
   ·refine C2 hge ?_
    obtain⟨y,hy⟩:∃ y,t[(l+r) / 2]?=some y:=⟨_,List.getElem?_eq_getElem (by exact Q7 hrk h4 hge)⟩
    refine wpS_bind (Dp C hk hgk (hgm _ _ hy) hDx (hDt y (List.mem_of_getElem? hy)) ?_)
    have srt:∀ i j u v,t[i]?=some u→t[j]?=some v→i≤j→L v u=false:=fun i j u v hu hv hij=>by
     rcases Nat.lt_or_eq_of_le hij with h | h
     ·obtain⟨hi',rfl⟩:=List.getElem?_eq_some_iff.mp hu
      obtain⟨hj',rfl⟩:=List.getElem?_eq_some_iff.mp hv
      exact List.pairwise_iff_getElem.mp h2 i j hi' hj' h
     ·subst h;rw[hu]at hv;(replace hv:=Option.some.inj hv;subst hv);exact o.irr _
    cases hless:L x y with
    | true =>
     simp only[if_true]
     refine wpS_pure ⟨rfl,l,(l+r) / 2,rfl,by exact Q6 hge,by exact Q5 hrk hge,by exact Q4 hm,hlo,fun i v hv h1=>?_⟩
     exact o.lt_le hless (srt _ _ _ _ hy hv h1)
    | false =>
     simp only[Bool.false_eq_true,if_false]
     refine wpS_pure ⟨rfl,(l+r) / 2+1,r,rfl,by exact Q3 hge,by exact hrk,by exact Q2 hm,fun i v hv h1=>?_,hhi⟩
     exact o.ntr _ _ _ hless (srt _ _ _ _ hv hy (by exact Nat.le_of_lt_succ h1))
  case ipost =>
   intro c st'' zq9
   refine AJ fun WW9 hW9=>?_
   obtain⟨eq9_0,l,r,eq9_1,hlk,hlo,hhi⟩:=zq9
   refine hW9 ?_
   clear hW9 WW9
   subst eq9_0 eq9_1
   show wpS _ _ _ _ (do moveDown' (pre.length+k) (pre.length+l);pure (ForInStep.yield (none,()))) _ _
   simp only[moveDown'_eq]
   have e1:xs.toList=pre++(t.take l++t.drop l)++x::(b.drop (k+1 - a.length)++post):=by simp only[h1,List.take_append_drop];simp
   have e2:=DW (t.drop l) (t.take l) (i:=pre.length+k) (d:=pre.length+k - (pre.length+l)) e1 (by simp;exact Q1 h4) (by simp;exact Q0 h4)
   have hlo':∀ y∈t.take l,L x y=false:=fun y hy=>by
    obtain⟨i,hi⟩:=List.mem_iff_getElem?.mp hy
    rw[List.getElem?_take]at hi
    split at hi
    ·exact hlo i y hi (by assumption)
    ·injection hi
   have hhi':∀ y∈t.drop l,L x y=true:=fun y hy=>by
    obtain⟨i,hi⟩:=List.mem_iff_getElem?.mp hy
    rw[List.getElem?_drop]at hi
    exact hhi _ y hi (by exact Nat.le_add_right _ _)
   refine wpS_bind (wpS_modify (wpS_pure ⟨rfl,_,t.take l++x::t.drop l,rfl,?_,?_,?_,?_⟩))
   ·simp only[show arrOf (setArr st xs)=xs from rfl,e2];simp
   ·have hs':=h2
    rw[← List.take_append_drop l t]at hs'
    refine AJ fun WW9 hW9=>?_
    obtain⟨s1,s2,s3⟩:=Srt.append.mp hs'
    refine hW9 ?_
    clear hW9 WW9
    refine Srt.append.mpr ⟨s1,List.pairwise_cons.mpr ⟨fun y hy=>o.asym _ _ (hhi' y hy),s2⟩,fun y hy z hz=>?_⟩
    rcases List.mem_cons.mp hz with rfl | hz
    ·exact hlo' y hy
    ·exact s3 y hy z hz
   ·simp only[htake,← List.append_assoc]
    refine SEq.trans ?_ (h3.right [x])
    rw[show t.take l++x::t.drop l=t.take l++([x]++t.drop l)by simp]
    conv=>rhs;rw[← List.take_append_drop l t,List.append_assoc]
    exact SEq.left _ (SEq.swap (A:=t.drop l) (B:=[x]) o fun y hy z hz=>by rw[List.mem_singleton.mp hz];exact hhi' y hy).symm
   ·simp;exact Qz h4
end
end Mine
namespace Mine

noncomputable def LQ(lo a nrem:Nat):StateT SortSt Sem AscSt :=
 forIn [a:nrem] ((none,a):AscSt) fun O __s=>do
  let __x ← ltAt' (lo+__s.snd) (lo+__s.snd - 1)
  match __x with
  | some smaller=>if smaller=true then pure (ForInStep.done (none,__s.snd)) else pure (ForInStep.yield (none,__s.snd+1))
  | _=>pure (ForInStep.done (some none,__s.snd))
noncomputable def GX(lo n nrem:Nat):StateT SortSt Sem (Option Nat):=do
 reverseSlice' lo (lo+n)
 let __s ← LQ lo n nrem
 match __s.fst with
 | some r=>pure r
 | none=>pure (some __s.snd)
noncomputable def Ja(lo n nrem:Nat):StateT SortSt Sem DescSt :=
 forIn [n:nrem] ((none,n,0):DescSt) fun O __s=>do
  let __x ← ltAt' (lo+__s.snd.fst) (lo+__s.snd.fst - 1)
  match __x with
  | some smaller =>
   if smaller=true then
    if __s.snd.snd>0 then do
     reverseSlice' (lo+__s.snd.fst - (__s.snd.snd+1)) (lo+__s.snd.fst)
     pure (ForInStep.yield (none,__s.snd.fst+1,0))
    else pure (ForInStep.yield (none,__s.snd.fst+1,0))
   else do
    let __x ← ltAt' (lo+__s.snd.fst - 1) (lo+__s.snd.fst)
    match __x with
    | some larger =>
     if larger=true then pure (ForInStep.done (none,__s.snd.fst,__s.snd.snd))
     else pure (ForInStep.yield (none,__s.snd.fst+1,__s.snd.snd+1))
    | _=>pure (ForInStep.done (some none,__s.snd.fst,__s.snd.snd))
  | _=>pure (ForInStep.done (some none,__s.snd.fst,__s.snd.snd))
noncomputable def Ca(lo n nrem:Nat):StateT SortSt Sem (Option Nat):=do
 liftM (rule "list.sort.descending-run")
 let __s ← Ja lo (n+1) nrem
 match __s.fst with
 | some r=>pure r
 | none =>
  if __s.snd.snd>0 then do
   reverseSlice' (lo+__s.snd.fst - (__s.snd.snd+1)) (lo+__s.snd.fst)
   GX lo __s.snd.fst nrem
  else GX lo __s.snd.fst nrem

theorem HN(lo nrem:Nat):countRun' lo nrem=(do
  let __s ← LQ lo 1 nrem
  match __s.fst with
  | some r=>pure r
  | none =>
   if (__s.snd==nrem)=true then pure (some __s.snd)
   else if __s.snd>1 then do
    let __x ← ltAt' lo (lo+__s.snd - 1)
    match __x with
    | some rose=>if rose=true then pure (some __s.snd) else do
      reverseSlice' lo (lo+__s.snd)
      Ca lo __s.snd nrem
    | _=>pure none
   else Ca lo __s.snd nrem):=by
 rw[countRun'_eq]
 unfold Ca GX Ja LQ
 refine congrArg (bind _) ?_
 funext __s
 obtain⟨r,n⟩:=__s
 cases r with
 | some r=>rfl
 | none =>
  dsimp only
  split
  ·rfl
  ·split
   ·congr 1
    funext x
    cases x with
    | none=>rfl
    | some rose =>
     dsimp only
     split
     ·rfl
     ·congr 1
      funext _r
      congr 1;funext _u;congr 1;congr 1;funext s2;obtain⟨r2,n2,q2⟩:=s2
      cases r2 with
      | some r2=>rfl
      | none =>
       dsimp only
       split
       ·congr 1;funext _v;congr 1;funext _w;congr 1;funext s3;obtain⟨r3,n3⟩:=s3;cases r3<;>rfl
       ·congr 1;funext _w;congr 1;funext s3;obtain⟨r3,n3⟩:=s3;cases r3<;>rfl
   ·congr 1;funext _u;congr 1;congr 1;funext s2;obtain⟨r2,n2,q2⟩:=s2
    cases r2 with
    | some r2=>rfl
    | none =>
     dsimp only
     split
     ·congr 1;funext _v;congr 1;funext _w;congr 1;funext s3;obtain⟨r3,n3⟩:=s3;cases r3<;>rfl
     ·congr 1;funext _w;congr 1;funext s3;obtain⟨r3,n3⟩:=s3;cases r3<;>rfl

section
variable {prog:Program} {w:World} {A:Around} {E:Value→Shared→Prop} {s:Shared} {κ:SortKind} {D:Keyed→Prop} {L:Keyed→Keyed→Bool}

theorem Srt.get(o:SWO L){t:List Keyed}(h:Srt L t){i j:Nat}{u v:Keyed}(hu:t[i]?=some u)(hv:t[j]?=some v)(hij:i≤j):L v u=false:=by
 rcases Nat.lt_or_eq_of_le hij with h' | h'
 ·obtain⟨hi',rfl⟩:=List.getElem?_eq_some_iff.mp hu
  obtain⟨hj',rfl⟩:=List.getElem?_eq_some_iff.mp hv
  exact List.pairwise_iff_getElem.mp h i j hi' hj' h'
 ·subst h';rw[hu]at hv;(replace hv:=Option.some.inj hv;subst hv);exact o.irr _
theorem Srt.snoc(o:SWO L){t:List Keyed}(h:Srt L t){x y:Keyed}(hy:t.getLast?=some y)(hxy:L x y=false):Srt L (t++[x]):=by
 refine Srt.append.mpr ⟨h,List.pairwise_singleton ..,fun z hz u hu=>?_⟩
 rw[List.mem_singleton.mp hu]
 obtain⟨i,hi⟩:=List.mem_iff_getElem?.mp hz
 rw[List.getLast?_eq_getElem?]at hy
 exact o.ntr _ _ _ hxy (h.get o hi hy (by have:=(List.getElem?_eq_some_iff.mp hi).1;exact Nat.le_sub_one_of_lt this))
theorem Ay{α:Type}{l:List α}{n:Nat}{x:α}(h:l[n]?=some x):l.take (n+1)=l.take n++[x]:=by simp only[List.take_add_one,h];rfl

theorem CA{st:SortSt}{pre seg post:List Keyed}{i j:Nat}{Q:Unit→SortSt→Prop}(ha:(arrOf st).toList=pre++seg++post)(hi:i=pre.length)(hj:j=pre.length+seg.length)
  (h:∀ xs,xs.toList=pre++seg.reverse++post→Q () (setArr st xs)):wpS (model prog w) A E s (reverseSlice' i j) Q st:=by
 simp only[reverseSlice'_eq];exact wpS_modify (h _ (GB ha hi hj))

theorem Hb{st:SortSt}{pre seg:List Keyed}{a:Nat}{Q:AscSt→SortSt→Prop}(o:SWO L)(C:DT prog w A s κ D L)(hk:kindOf st=κ)(ha:(arrOf st).toList=pre++seg)(hD:∀ p∈seg,D p)(h1:1≤a)(h2:a≤seg.length)
  (hs:Srt L (seg.take a)) (h:∀ n,a≤n→n≤seg.length→Srt L (seg.take n)→(n=seg.length∨∃ x y,seg[n]?=some x∧seg[n - 1]?=some y∧L x y=true)→Q (none,n) st) :
  wpS (model prog w) A E s (LQ pre.length a seg.length) Q st:=by
 unfold LQ
 refine wpS_forRange (I:=fun x c st'=>st'=st∧c=(none,x)∧Srt L (seg.take x)) ?step ?fin ⟨rfl,rfl,hs⟩
 case fin =>
  rintro c st' ⟨rfl,rfl,hs'⟩
  rw[show max a seg.length=seg.length by exact Nat.max_eq_right h2]at hs' ⊢
  exact h _ h2 (Nat.le_refl _) hs' (.inl rfl)
 case step =>
  rintro n c st' hax hxn ⟨rfl,rfl,hs'⟩
  dsimp only
  obtain⟨x,hx⟩:∃ x,seg[n]?=some x:=⟨_,List.getElem?_eq_getElem hxn⟩
  obtain⟨y,hy⟩:∃ y,seg[n - 1]?=some y:=⟨_,List.getElem?_eq_getElem (by exact Nat.lt_of_le_of_lt (Nat.sub_le _ _) hxn)⟩
  refine wpS_bind (Dp C hk (x:=x) (y:=y) (by rw[ha,List.getElem?_append_right (by exact Nat.le_add_right _ _)];rw[Nat.add_sub_cancel_left];exact hx)
   (by rw[ha,List.getElem?_append_right (by exact Qy h1 hax)];rw[show pre.length+n - 1 - pre.length=n - 1 by exact M7];exact hy) (hD x (List.mem_of_getElem? hx)) (hD y (List.mem_of_getElem? hy)) ?_)
  cases hless:L x y with
  | true =>
   simp only[if_true]
   exact wpS_pure (h n hax (by exact Nat.le_of_lt hxn) hs' (.inr ⟨x,y,hx,hy,hless⟩))
  | false =>
   simp only[Bool.false_eq_true,if_false]
   refine wpS_pure ⟨rfl,rfl,?_⟩
   rw[Ay hx]
   refine hs'.snoc o (y:=y) ?_ hless
   rw[List.getLast?_eq_getElem?,List.length_take,List.getElem?_take,if_pos (by exact Qx h1 hax),show min n seg.length - 1=n - 1 by exact Qw hxn];exact hy

theorem Jk{st:SortSt}{pre c d:List Keyed}{n nrem:Nat}{Q:Option Nat→SortSt→Prop}(o:SWO L)(C:DT prog w A s κ D L)(hk:kindOf st=κ)(ha:(arrOf st).toList=pre++c++d)(hD:∀ p∈c++d,D p)(hn:n=c.length)(hnr:nrem=c.length+d.length)(hne:c≠[])
  (hs:Srt L c.reverse) (h:∀ xs t d' d'',d=d'++d''→xs.toList=pre++t++d''→Srt L t→SEq L t (c.reverse++d')→Q (some t.length) (setArr st xs)) :
  wpS (model prog w) A E s (GX pre.length n nrem) Q st:=by
 unfold GX
 subst hn
 have hpos:=List.length_pos_iff.mpr hne
 refine wpS_bind (CA ha rfl rfl fun xs hxs=>?_)
 have hl:nrem=(c.reverse++d).length:=by simp[hnr]
 rw[hl]
 refine wpS_bind (Hb (seg:=c.reverse++d) (pre:=pre) o C hk (by simp only[show arrOf (setArr st xs)=xs from rfl,hxs,List.append_assoc]) (fun p hp=>hD p (by simpa using hp)) (by exact hpos) (by simp) (by simpa using hs) fun n h1 h2 h3 O=>?_)
 dsimp only
 have e:(c.reverse++d).take n=c.reverse++d.take (n - c.length):=by
  rw[List.take_append,List.length_reverse,List.take_of_length_le (by simpa using h1)]
 rw[e]at h3
 have:=h xs (c.reverse++d.take (n - c.length)) (d.take (n - c.length)) (d.drop (n - c.length)) (List.take_append_drop ..).symm ?_ h3 (SEq.refl _)
 ·rw[show(c.reverse++d.take (n - c.length)).length=n by simp at h2 ⊢;exact Qv h1 h2]at this
  exact wpS_pure this
 ·simp only[hxs,List.append_assoc,List.append_assoc,List.append_assoc,List.take_append_drop]

theorem J3{q:List Keyed}(h:∀ x∈q,∀ y∈q,L x y=false):Srt L q:=List.Pairwise.imp_of_mem (R:=fun O O=>True) (fun ha hb O=>h _ hb _ ha) (List.pairwise_iff_getElem.mpr fun O O O O O=>trivial)
theorem IS(o:SWO L){p q:List Keyed}(hq:∀ x∈q,∀ y∈q,L x y=false)(hp:Srt L p.reverse)(hqp:∀ x∈q,∀ y∈p,L x y=true):Srt L (p++q.reverse).reverse:=by
 rw[List.reverse_append,List.reverse_reverse]
 exact Srt.append.mpr ⟨J3 hq,hp,fun x hx y hy=>o.asym _ _ (hqp x hx y (List.mem_reverse.mp hy))⟩
theorem IT(o:SWO L){p q c:List Keyed}(hqp:∀ x∈q,∀ y∈p,L x y=true)(hc:SEq L (p.reverse++q) c):SEq L (p++q.reverse).reverse c:=by
 rw[List.reverse_append,List.reverse_reverse]
 exact(SEq.swap (A:=p.reverse) (B:=q) o fun a ha b hb=>hqp b hb a (List.mem_reverse.mp ha)).symm.trans hc


noncomputable def J5(L:Keyed→Keyed→Bool)(st:SortSt)(pre c0 d:List Keyed)(n neq:Nat)(st':SortSt):Prop :=
 ∃ xs p q,st'=setArr st xs∧xs.toList=pre++(p++q)++d∧p.length+q.length=n∧q.length=neq+1∧(∀ x∈q,∀ y∈q,L x y=false)∧(∀ x∈q,∀ y∈p,L x y=true)∧Srt L p.reverse∧SEq L (p.reverse++q) c0

theorem Jl{st st₁:SortSt}{pre seg:List Keyed}{n:Nat}{Q:DescSt→SortSt→Prop}(o:SWO L)(C:DT prog w A s κ D L)(hk:kindOf st=κ)(hD:∀ p∈seg,D p)(h2:n≤seg.length)(hI:J5 L st pre (seg.take n) (seg.drop n) n 0 st₁)
  (h:∀ m neq st',m≤seg.length→J5 L st pre (seg.take m) (seg.drop m) m neq st'→Q (none,m,neq) st') :
  wpS (model prog w) A E s (Ja pre.length n seg.length) Q st₁:=by
 unfold Ja
 refine wpS_forRange (I:=fun x c st'=>∃ neq,c=(none,x,neq)∧J5 L st pre (seg.take x) (seg.drop x) x neq st') ?step ?fin ⟨0,rfl,hI⟩
 case fin =>
  intro c st' zq9
  refine AJ fun WW9 hW9=>?_
  obtain⟨neq,eq9_0,hI'⟩:=zq9
  refine hW9 ?_
  clear hW9 WW9
  subst eq9_0
  rw[show max n seg.length=seg.length by exact Nat.max_eq_right h2]at hI' ⊢
  exact h _ _ _ (Nat.le_refl _) hI'
 case step =>
  intro m c st' hax hxn zq9
  refine AJ fun WW9 hW9=>?_
  obtain⟨neq,eq9_0,hI'⟩:=zq9
  refine hW9 ?_
  clear hW9 WW9
  subst eq9_0
  refine AJ fun WW9 hW9=>?_
  obtain⟨xs,p,q,eq9_0,hxs,hpq,hq,hqq,hqp,hsp,hse⟩:=id hI'
  refine hW9 ?_
  clear hW9 WW9
  subst eq9_0
  dsimp only
  obtain⟨x,hx⟩:∃ x,seg[m]?=some x:=⟨_,List.getElem?_eq_getElem hxn⟩
  have hdrop:seg.drop m=x::seg.drop (m+1):=by
   obtain⟨_,e⟩:=List.getElem?_eq_some_iff.mp hx
   rw[List.drop_eq_getElem_cons hxn,e]
  have hqne:q≠[]:=by rintro rfl;simp at hq
  obtain⟨q0,y,rfl⟩:∃ q0 y,q=q0++[y]:=⟨_,_,(List.dropLast_concat_getLast hqne).symm⟩
  have hyq:y∈q0++[y]:=by simp
  have hyx:D y:=hD y (List.mem_of_mem_take (hse.mem o (List.mem_append_right _ hyq)))
  have gx:xs.toList[pre.length+m]?=some x:=by
   rw[hxs,hdrop,List.getElem?_append_right (by simp at hpq ⊢;exact Nat.le_of_eq hpq)]
   rw[show pre.length+m - (pre++(p++(q0++[y]))).length=0 by simp at hpq ⊢;exact Qu hpq];rfl
  have gy:xs.toList[pre.length+m - 1]?=some y:=by
   rw[hxs,show pre++(p++(q0++[y]))++seg.drop m=(pre++p++q0)++(y::seg.drop m)by simp,List.getElem?_append_right (by simp at hpq ⊢;exact hpq▸Nat.le_refl _)]
   rw[show pre.length+m - 1 - (pre++p++q0).length=0 by simp at hpq ⊢;exact Qt hpq];rfl
  have hDx:=hD x (List.mem_of_getElem? hx)
  refine wpS_bind (Dp C hk gx gy hDx hyx ?_)
  cases hless:L x y with
  | true =>
   simp only[if_true]
   have hxq:∀ z∈q0++[y],L x z=true:=fun z hz=>o.lt_le hless (hqq z hz y hyq)
   have hxp:∀ z∈p,L x z=true:=fun z hz=>o.tr hless (hqp y hyq z hz)
   have new:∀ xs',xs'.toList=pre++(p++(q0++[y]).reverse)++seg.drop m→J5 L st pre (seg.take (m+1)) (seg.drop (m+1)) (m+1) 0 (setArr st xs'):=fun xs' h'=>by
    refine⟨xs',p++(q0++[y]).reverse,[x],rfl,?_,?_,rfl,?_,?_,IS o hqq hsp hqp,?_⟩
    ·simp only[h',hdrop];simp
    ·simp at hpq ⊢;exact hpq
    ·intro a ha b hb;rw[List.mem_singleton.mp ha,List.mem_singleton.mp hb];exact o.irr _
    ·intro a ha b hb;rw[List.mem_singleton.mp ha]
     rcases List.mem_append.mp hb with hb | hb
     ·exact hxp b hb
     ·exact hxq b (List.mem_reverse.mp hb)
    ·simp only[Ay hx];exact(IT o hqp hse).right [x]
   by_cases hneq:neq>0
   ·refine Df hneq ?_
    refine wpS_bind (CA (pre:=pre++p) (seg:=q0++[y]) (post:=seg.drop m) (by simp only[show arrOf (setArr st xs)=xs from rfl,hxs];simp) (by rw[List.length_append];exact Qr hpq hq) (by rw[List.length_append];exact Qq hpq) fun xs' h'=>?_)
    exact wpS_pure ⟨0,rfl,new xs' (by simp only[h'];simp)⟩
   ·refine C2 hneq ?_
    refine wpS_pure ⟨0,rfl,new xs ?_⟩
    have:q0=[]:=by simp at hq;exact List.length_eq_zero_iff.mp (by exact Qp hq hneq)
    subst this;exact hxs
  | false =>
   simp only[Bool.false_eq_true,if_false]
   refine wpS_bind (Dp C hk gy gx hyx hDx ?_)
   cases hlarger:L y x with
   | true =>
    simp only[if_true]
    exact wpS_pure (h m neq _ (by exact Nat.le_of_lt hxn) hI')
   | false =>
    simp only[Bool.false_eq_true,if_false]
    refine wpS_pure ⟨neq+1,rfl,xs,p,(q0++[y])++[x],rfl,?_,?_,?_,?_,?_,hsp,?_⟩
    ·simp only[hxs,hdrop];simp
    ·simp at hpq ⊢;exact congrArg _ hpq
    ·simp at hq ⊢;exact hq
    ·intro a ha b hb
     rcases List.mem_append.mp ha with ha | ha<;>rcases List.mem_append.mp hb with hb | hb
     ·exact hqq a ha b hb
     ·rw[List.mem_singleton.mp hb];exact o.ntr _ _ _ (hqq a ha y hyq) hlarger
     ·rw[List.mem_singleton.mp ha];exact o.ntr _ _ _ hless (hqq y hyq b hb)
     ·rw[List.mem_singleton.mp ha,List.mem_singleton.mp hb];exact o.irr _
    ·intro a ha b hb
     rcases List.mem_append.mp ha with ha | ha
     ·exact hqp a ha b hb
     ·rw[List.mem_singleton.mp ha];exact o.le_lt hlarger (hqp y hyq b hb)
    ·rw[Ay hx,← List.append_assoc];exact hse.right [x]

theorem DU{st st₁:SortSt}{pre seg:List Keyed}{n:Nat}{Q:Option Nat→SortSt→Prop}(o:SWO L)(C:DT prog w A s κ D L)(hk:kindOf st=κ)(hD:∀ p∈seg,D p)(h2:n+1≤seg.length)(hI:J5 L st pre (seg.take (n+1)) (seg.drop (n+1)) (n+1) 0 st₁)
  (h:∀ xs t c d,seg=c++d→xs.toList=pre++t++d→Srt L t→SEq L t c→t≠[]→Q (some t.length) (setArr st xs)) :
  wpS (model prog w) A E s (Ca pre.length n seg.length) Q st₁:=by
 unfold Ca
 refine wpS_bind (wpS_lift (wpAny_rule ⟨rfl,?_⟩))
 refine wpS_bind (Jl o C hk hD h2 hI fun m neq st' hm zz4=>zz4.elim fun xs zz4=>zz4.elim fun p zz4=>zz4.elim fun q zz4=>zz4.elim fun e zz4=>zz4.elim fun hxs zz4=>zz4.elim fun hpq zz4=>zz4.elim fun hq zz4=>zz4.elim fun hqq zz4=>zz4.elim fun hqp zz4=>zz4.elim fun hsp hse=>?_)
 subst e
 dsimp only
 have fin:∀ xs',xs'.toList=pre++(p++q.reverse)++seg.drop m→wpS (model prog w) A E s (GX pre.length m seg.length) Q (setArr st xs'):=fun xs' h'=>by
  refine Jk (st:=setArr st xs') (c:=p++q.reverse) (d:=seg.drop m) o C hk h' ?_ (by simp;(first | lia | omega)) (by simp;(first | lia | omega)) ?_ (IS o hqq hsp hqp) fun xs2 t d' d'' hd hx2 hst hse2=>?_
  ·intro z hz
   rcases List.mem_append.mp hz with hz | hz
   ·refine hD z (List.mem_of_mem_take (hse.mem o ?_))
    simpa using hz
   ·exact hD z (List.mem_of_mem_drop hz)
  ·intro e;have:=congrArg List.length e;rw[List.length_append,List.length_reverse,List.length_nil]at this;(first | lia | omega)
  ·refine h xs2 t (seg.take m++d') d'' ?_ hx2 hst (hse2.trans ((IT o hqp hse).right d')) ?_
   ·simp only[List.append_assoc,← hd,List.take_append_drop]
   ·intro e;have:=hse2.length o;rw[e]at this;rw[List.length_append,List.length_reverse,List.length_append,List.length_reverse,List.length_nil]at this;(first | lia | omega)
 by_cases hneq:neq>0
 ·refine Df hneq ?_
  refine wpS_bind (CA (pre:=pre++p) (seg:=q) (post:=seg.drop m) (by simp only[show arrOf (setArr st xs)=xs from rfl,hxs];simp) (by rw[List.length_append];(first | lia | omega)) (by rw[List.length_append];(first | lia | omega)) fun xs' h'=>?_)
  exact fin xs' (by rw[h'];simp)
 ·refine C2 hneq ?_
  refine fin xs ?_
  obtain⟨y,rfl⟩:∃ y,q=[y]:=List.length_eq_one_iff.mp (by(first | lia | omega))
  exact hxs

theorem F6{st:SortSt}{pre seg:List Keyed}{Q:Option Nat→SortSt→Prop}(o:SWO L)(C:DT prog w A s κ D L)(hk:kindOf st=κ)(ha:(arrOf st).toList=pre++seg)(hD:∀ p∈seg,D p)(hne:seg≠[])
  (h:∀ xs t c d,seg=c++d→xs.toList=pre++t++d→Srt L t→SEq L t c→t≠[]→Q (some t.length) (setArr st xs)) :
  wpS (model prog w) A E s (countRun' pre.length seg.length) Q st:=by
 have hpos:=List.length_pos_iff.mpr hne
 rw[HN]
 obtain⟨z,hz⟩:∃ z,seg[0]?=some z:=⟨_,List.getElem?_eq_getElem hpos⟩
 have ht1:seg.take 1=[z]:=by rw[Ay hz];rfl
 refine wpS_bind (Hb o C hk ha hD (Nat.le_refl 1) hpos (by rw[ht1];exact List.pairwise_singleton ..) fun n hn1 hn2 hsn hor=>?_)
 dsimp only
 have asit:Q (some n) st:=by
  have:=h (arrOf st) (seg.take n) (seg.take n) (seg.drop n) (List.take_append_drop ..).symm (by simp only[ha,List.append_assoc,List.take_append_drop]) hsn (SEq.refl _) (by intro e;have:=congrArg List.length e;rw[List.length_take,List.length_nil]at this;exact Qo hn1 this hn2)
  rw[List.length_take,Nat.min_eq_left hn2]at this
  exact this
 by_cases hnn:n=seg.length
 ·refine Df (by simpa using hnn) ?_;exact wpS_pure asit
 ·refine C2 (by simpa using hnn) ?_
  refine AJ fun WW9 hW9=>?_
  obtain⟨x,y,hx,hy,hxy⟩:=hor.resolve_left hnn
  refine hW9 ?_
  clear hW9 WW9
  have hlt:n<seg.length:=by exact Nat.lt_of_le_of_ne hn2 hnn
  have hdrop:seg.drop n=x::seg.drop (n+1):=by
   obtain⟨_,e⟩:=List.getElem?_eq_some_iff.mp hx
   rw[List.drop_eq_getElem_cons hlt,e]
  have hlast:(seg.take n)[n - 1]?=some y:=by rw[List.getElem?_take,if_pos (by exact Nat.sub_lt hn1 Nat.one_pos)];exact hy
  have start:∀ xs',xs'.toList=pre++(seg.take n).reverse++seg.drop n→(∀ u∈seg.take n,L x u=true)→J5 L st pre (seg.take (n+1)) (seg.drop (n+1)) (n+1) 0 (setArr st xs'):=fun xs' h' hall=>by
   refine⟨xs',(seg.take n).reverse,[x],rfl,?_,?_,rfl,?_,?_,?_,?_⟩
   ·simp only[h',hdrop];simp
   ·simp;exact Nat.min_eq_left (Nat.le_of_lt hlt)
   ·intro a ha b hb;rw[List.mem_singleton.mp ha,List.mem_singleton.mp hb];exact o.irr _
   ·intro a ha b hb;rw[List.mem_singleton.mp ha];exact hall b (List.mem_reverse.mp hb)
   ·rw[List.reverse_reverse];exact hsn
   ·rw[List.reverse_reverse,Ay hx];exact SEq.refl _
  by_cases hgt:n>1
  ·refine Df hgt ?_
   refine wpS_bind (Dp (i:=pre.length) C hk (x:=z) (y:=y) (by rw[ha,List.getElem?_append_right (Nat.le_refl _),Nat.sub_self];exact hz)
    (by rw[ha,List.getElem?_append_right (by exact Qn hgt),show pre.length+n - 1 - pre.length=n - 1 by exact M7];exact hy) (hD z (List.mem_of_getElem? hz)) (hD y (List.mem_of_getElem? hy)) ?_)
   cases hrose:L z y with
   | true=>simp only[if_true];exact wpS_pure asit
   | false =>
    simp only[Bool.false_eq_true,if_false]
    refine wpS_bind (CA (pre:=pre) (seg:=seg.take n) (post:=seg.drop n) (by simp only[ha,List.append_assoc,List.take_append_drop]) rfl (by rw[List.length_take,Nat.min_eq_left hn2]) fun xs' h'=>?_)
    refine DU o C hk hD hlt (start xs' h' fun u hu=>?_) h
    obtain⟨i,hi⟩:=List.mem_iff_getElem?.mp hu
    have h0:(seg.take n)[0]?=some z:=by rw[List.getElem?_take,if_pos (by exact Nat.le_of_lt hgt)];exact hz
    exact o.lt_le hxy (o.ntr _ _ _ (hsn.get o h0 hi (by exact Nat.zero_le _)) hrose)
  ·refine C2 hgt ?_
   have hn1':n=1:=by exact Nat.le_antisymm (Nat.not_lt.mp hgt) hn1
   subst hn1'
   rw[hz]at hy;(replace hy:=Option.some.inj hy;subst hy)
   refine DU o C hk hD hlt (start (arrOf st) (by rw[ha,ht1,List.append_assoc,List.reverse_singleton,← ht1,List.take_append_drop]) fun u hu=>?_) h
   rw[ht1]at hu;rw[List.mem_singleton.mp hu];exact hxy
end
end Mine
namespace Mine
variable [zz:Zz]

section
variable {prog:Program} {w:World} {A:Around} {E:Value→Shared→Prop} {s:Shared} {κ:SortKind} {D:Keyed→Prop} {L:Keyed→Keyed→Bool}

end


noncomputable def Jt:List Int→List Int→Bool
 | [],ys=>!ys.isEmpty
 | _::_,[]=>false
 | a::xs,b::ys=>if a=b then Jt xs ys else decide (a<b)
omit [Zz] in
theorem ltI_swo:SWO Jt:=by
 constructor
 ·intro x
  induction x with
  | nil=>intro y;cases y<;>simp[Jt]
  | cons a x ih =>
   intro y
   cases y with
   | nil=>simp[Jt]
   | cons b y =>
    simp only[Jt]
    by_cases h:a=b
    ·subst h;simp only[if_true];exact ih y
    ·rw[if_neg h,if_neg (Ne.symm h)]
     simp only[decide_eq_true_eq,decide_eq_false_iff_not];exact Int.lt_asymm
 ·intro x
  induction x with
  | nil =>
   intro y z h1 h2
   cases y with
   | nil=>exact h2
   | cons b y=>simp[Jt]at h1
  | cons a x ih =>
   intro y z h1 h2
   cases z with
   | nil=>rfl
   | cons c z =>
    cases y with
    | nil=>simp[Jt]at h2
    | cons b y =>
     simp only[Jt]at h1 h2 ⊢
     by_cases hab:a=b
     ·subst hab
      simp only[if_true]at h1
      by_cases hac:a=c
      ·subst hac;simp only[if_true]at h2 ⊢;exact ih y z h1 h2
      ·rw[if_neg hac]at h2 ⊢;exact h2
     ·rw[if_neg hab]at h1
      by_cases hbc:b=c
      ·subst hbc;rw[if_neg hab];exact h1
      ·rw[if_neg hbc]at h2
       have h1':=of_decide_eq_false h1
       have h2':=of_decide_eq_false h2
       rw[if_neg (by exact M6 h1' h2' hbc)]
       exact decide_eq_false (by exact KU h1' h2')
omit [Zz] in
theorem SWO.comap{α β:Type}{L:β→β→Bool}(o:SWO L)(g:α→β):SWO fun x y=>L (g x) (g y):=⟨fun O O=>o.asym _ _,fun O O O=>o.ntr _ _ _⟩
omit [Zz] in
theorem JX:SWO fun(x y:Int)=>decide (x<y):=⟨fun x y h=>by simp at h ⊢;exact Int.le_of_lt h,fun x y z h1 h2=>by simp at h1 h2 ⊢;exact Int.le_trans h2 h1⟩


structure Sk (G:Cx) {α:Type} (f:α→PV) (lt:α→α→Bool):Prop where
 swo:SWO lt
 inj:∀ h v x y,VR h (f x) v→VR h (f y) v→x=y
 kind:∀(s:Shared) (A:Around) (vs:List Value) (xs:List α),A.units+3<cLine→2≤xs.length→VRs s.heap (xs.map f) vs→∃ κ,
  (∀(E:Value→Shared→Prop) (Q:SortKind→Shared→Prop),Q κ s→wpAny (model G.prog G.w) A (keyKind' vs.toArray) Q E s) ∧
  (∀ x y u v,VR s.heap (f x) u→VR s.heap (f y) v→∀(E:Value→Shared→Prop) (Q:Bool→Shared→Prop),Q (lt x y) s→wpAny (model G.prog G.w) A (keyLt' κ u v) Q E s)

theorem Hc{h:Heap}:∀{ns:List Int} {vs:List Value},VRs h (ns.map .int) vs→IntsAre vs ns
 | [],vs,e=>by rw[show vs=[]from e];exact .nil
 | n::ns,vs,zp2=>by obtain⟨v,r,e,⟨t,ht⟩,h2⟩:=zp2;subst e;subst ht;exact .cons n t (Hc h2)
theorem Je(G:Cx):Sk G (fun i:Int=>.int i) (fun x y=>decide (x<y)):=by
 refine⟨JX,fun h v x y zz4 zz5=>by obtain⟨t,h1⟩:=zz4;obtain⟨u,h2⟩:=zz5;rw[h1]at h2;injection h2,fun s A vs xs O hl hv=>⟨oneType',fun E Q hq=>?_,fun x y u v zz4 zz5 E Q hq=>zz4.elim fun t hu=>zz5.elim fun t' hv'=>?_⟩⟩
 ·have hI:=Hc hv
  match vs,hI with
  | v1::v2::vs,hI=>rw[keyKind_ints hI];exact wpAny_pure hq
  | [v],hI=>have:=hI.length;simp at this;exact False.elim (Nat.lt_irrefl _ (this▸hl))
  | [],hI=>have:=hI.length;simp at this;exact False.elim (Nat.not_lt_zero _ (this▸hl))
 ·subst hu;subst hv'
  simp only[keyLt'_oneType];exact oneLt_int hq


noncomputable def CP(n:Nat):Prop:=∀{prog:Program} {w:World} {A:Around} {E:Value→Shared→Prop} {s:Shared} {κ:SortKind} {D:Keyed→Prop} {L:Keyed→Keyed→Bool} {st:SortSt} {Q:Unit→SortSt→Prop},
 SWO L→DT prog w A s κ D L→kindOf st=κ→failedOf st=none→pendingOf st=#[]→(∀ p∈(arrOf st).toList,D p)→2≤(arrOf st).size→(arrOf st).size=n →
 (∀ st',failedOf st'=none→Srt L (arrOf st').toList→SEq L (arrOf st').toList (arrOf st).toList→Q () st')→wpS (model prog w) A E s sortRuns' Q st
end Mine
namespace Mine
variable [zz:Zz]

section
variable {α:Type} {f:α→PV} {lt:α→α→Bool}
open Classical in
noncomputable def QV(f:α→PV)(h:Heap)(v:Value):Option α:=if e:∃ x,VR h (f x) v then some (Classical.choose e) else none
theorem KM{h:Heap}(inj:∀ v x y,VR h (f x) v→VR h (f y) v→x=y){x:α}{v:Value}(e:VR h (f x) v):QV f h v=some x:=by
 have ex:∃ x,VR h (f x) v:=⟨x,e⟩
 unfold QV;rw[dif_pos ex];congr 1
 exact inj v _ _ (Classical.choose_spec ex) e
noncomputable def Rs(lt:α→α→Bool):Option α→Option α→Bool
 | none,some _=>true
 | some x,some y=>lt x y
 | _,none=>false
omit [Zz] in
theorem Me(o:SWO lt):SWO (Rs lt):=by
 constructor
 ·intro x y h;cases x<;>cases y<;>simp[Rs]at h ⊢;exact o.asym _ _ h
 ·intro x y z h1 h2;cases x<;>cases y<;>cases z<;>simp[Rs]at h1 h2 ⊢;exact o.ntr _ _ _ h1 h2
noncomputable def LV(f:α→PV)(lt:α→α→Bool)(h:Heap)(p q:Keyed):Bool:=Rs lt (QV f h p.1) (QV f h q.1)
theorem JE{h:Heap}(o:SWO lt):SWO (LV f lt h):=(Me o).comap fun p:Keyed=>QV f h p.1
theorem Lq{h:Heap}(inj:∀ v x y,VR h (f x) v→VR h (f y) v→x=y){x y:α}{p q:Keyed}(e:VR h (f x) p.1)(e':VR h (f y) q.1):LV f lt h p q=lt x y:=by
 unfold LV;simp only[KM inj e,KM inj e'];rfl

theorem FJ{β:Type}{h:Heap}{F:β→PV}{V:β→Value}:∀{l:List β},(∀ p∈l,VR h (F p) (V p))→VRs h (l.map F) (l.map V)
 | [],_=>rfl
 | p::_,e=>⟨_,_,rfl,e p (List.mem_cons_self ..),FJ fun q hq=>e q (List.mem_cons_of_mem _ hq)⟩
theorem HS{h:Heap}:∀{xs:List α} {vs:List Value},VRs h (xs.map f) vs→∃ l:List (α × Value),l.map (·.1)=xs∧l.map (·.2)=vs∧∀ p∈l,VR h (f p.1) p.2
 | [],vs,e=>⟨[],rfl,by simp only[show vs=[]from e];rfl,by simp⟩
 | x::xs,vs,zp2=>by
  obtain⟨v,r,e,h1,h2⟩:=zp2
  obtain⟨l,e1,e2,h3⟩:=HS h2
  refine⟨(x,v)::l,by simp only[List.map_cons,e1],by simp only[List.map_cons,e2,e],fun p hp=>?_⟩
  rcases List.mem_cons.mp hp with rfl | hp
  ·exact h1
  ·exact h3 p hp


theorem Hk{G:Cx}{h:Heap}(K:Sk G f lt){β:Type}(l:List β)(kx:β→α)(kv:β→Keyed)(hl:∀ p∈l,VR h (f (kx p)) (kv p).1){r:List Keyed}(hs:Srt (LV f lt h) r)(he:SEq (LV f lt h) r (l.map kv)) :
  r=(AO (fun p q=>lt (kx p) (kx q)) l).map kv:=by
 simp only[Dc (JE K.swo) he hs]
 exact BA kv l fun x hx y hy=>Lq (K.inj h) (hl x hx) (hl y hy)
end

section
variable {G:Cx} {A:Around} {F:Fx} {σ:Loc} {H:AH} {Q:PV→AH→Prop} {α:Type} {f:α→PV} {lt:α→α→Bool}


noncomputable def AU{β:Type}(L:β→β→Bool)(b:Bool)(xs:List β):List β:=if b then(AO L xs.reverse).reverse else AO L xs
omit [Zz] in
theorem sortBy_perm{β:Type}{L:β→β→Bool}{b:Bool}{xs:List β}:(AU L b xs).Perm xs:=by
 unfold AU;cases b with
 | false=>exact AX xs
 | true=>exact(List.reverse_perm _).trans ((AX _).trans (List.reverse_perm _))

theorem EP{s:Shared}{a:Addr}{b:Bool}{kw:List (Str × Value)}{xs:List α}{P:PySem.Fin→Shared→Prop}(hkw:Builtin.«list.sort» ⟨[.ref a],kw⟩=Builtin.«list.sort» ⟨[.ref a],[(Str.ofString "reverse", .bool b)]⟩)(K:Sk G f lt)(hu:A.units+3<cLine)(ok:OkH G H s)(hH:H a=some (.lst (xs.map f)))(hr:CP xs.length)
  (h:∀ s',OkH G (H.set a (.lst ((AU lt b xs).map f))) s'→Kp H s (H.set a (.lst ((AU lt b xs).map f))) s'→P (.done (.ret .none)) s') :
  wpAny (model G.prog G.w) A (Builtin.«list.sort» ⟨[.ref a],kw⟩) P Bb s:=by
 obtain⟨⟨vs,n,hl,hv,hz⟩,_⟩:=id (ok.hr a _ hH)
 have hvl:vs.length=xs.length:=by simp only[hv.length,AC,List.length_map]
 have hz':vs.length≤sizeLine:=by rw[hv.length];exact hz
 rw[hkw,list_sort_rev]
 refine wpAny_bind (listItems_at hl rfl ?_)
 refine wpAny_bind (listUpdate_at hl rfl ?_ (by rw[List.size_toArray];exact hz') (Nat.zero_le _))
 obtain⟨ok1,k1⟩:=BL (tk:=s.toks) ok hH hl (f:=fun O=>#[]) (ys:=[]) (us:=[]) rfl rfl (Nat.zero_le _)
 have hl1:=hl.update fun O=>(#[]:Array Value)
 refine wpAny_bind (seqEpoch_at hl1 rfl ?_)
 refine wpAny_bind (wpAny_newTuple ?_ hz')
 obtain⟨ok2,k2⟩:=Bn ok1 { cls:=.type "tuple", data:=.seq vs.toArray }
 refine wpAny_bind (wpAny_newList ?_ (Nat.zero_le _))
 obtain⟨ok3,k3⟩:=Bn ok2 { cls:=.type "list", data:=.seq #[] }
 have hl3:=(hl1.push { cls:=.type "tuple", data:=.seq vs.toArray }).push { cls:=.type "list", data:=.seq #[] }
 have k13:=(k1.trans k2).trans k3
 have hv3:=k13.vrs ok hv
 rw[AC]at hv3
 obtain⟨l,e1,e2,hlv⟩:=HS hv3
 refine wpAny_holding ?_
 generalize hs3:({ s with heap:=((s.heap.update a (Obj.mapSeq fun O=>#[])).push { cls:=.type "tuple", data:=.seq vs.toArray }).push { cls:=.type "list", data:=.seq #[] } }:Shared)=s3
 replace ok3:OkH G (H.set a (.lst [])) s3:=by rw[← hs3];exact ok3
 replace k13:Kp H s (H.set a (.lst [])) s3:=by rw[← hs3];exact k13
 replace hl3:IsL s3.heap a #[] (if (#[]:Array Value).size==vs.toArray.size then n else n+1):=by rw[← hs3];exact hl3
 replace hv3:VRs s3.heap (xs.map f) vs:=by rw[← hs3];exact hv3
 replace hlv:∀ p∈l,VR s3.heap (f p.1) p.2:=by rw[← hs3];exact hlv
 clear hs3
 let L2:α × Value→α × Value→Bool:=fun p q=>lt p.1 q.1
 let l0:=if b then l.reverse else l
 have hl0:∀ p,p∈l0↔p∈l:=fun p=>by cases b<;>simp[l0]
 have hl0l:l0.length=l.length:=by cases b<;>simp[l0]
 have fin:∀ st':SortSt,failedOf st'=none→(arrOf st').toList=(AO L2 l0).map (fun p=>(p.2,p.2))→wpAny (model G.prog G.w) A (do
   let touched:=(← seqEpoch a) != (if (#[]:Array Value).size==vs.toArray.size then n else n+1)
   Builtin.List.listUpdate (.ref a) fun O=>if b then((arrOf st').map (·.2)).reverse else(arrOf st').map (·.2)
   if let some e:=failedOf st' then rule "list.sort.comparison-raised"; throw e
   if touched then rule "list.sort.modified"; raiseError "ValueError" "list modified during sort"
   ret .none) P Bb s3:=fun st' hf har=>by
  have hout:(if b then((arrOf st').map (·.2)).reverse else(arrOf st').map (·.2))=((AU L2 b l).map (·.2)).toArray:=by
   apply Array.toList_inj.mp
   have:((arrOf st').map (·.2)).toList=(AO L2 l0).map (·.2):=by simp only[Array.toList_map,har,List.map_map];rfl
   cases b with
   | false=>simp only[Bool.false_eq_true,if_false];simp only[this];rfl
   | true=>simp only[if_true,Array.toList_reverse];rw[this];simp[AU,l0]
  have hxs:(AU lt b xs).map f=(AU L2 b l).map (fun p=>f p.1):=by
   have e:AU lt b xs=(AU L2 b l).map (·.1):=by
    simp only[← e1];unfold AU
    cases b with
    | false=>exact BA (L:=L2) (·.1) l fun O O O O=>rfl
    | true =>
     simp only[if_true]
     rw[← List.map_reverse,BA (L:=L2) (·.1) l.reverse fun O O O O=>rfl,List.map_reverse]
   simp only[e,List.map_map];rfl
  have hys:VRs s3.heap ((AU lt b xs).map f) ((AU L2 b l).map (·.2)):=by
   simp only[hxs];exact FJ fun p hp=>hlv p (sortBy_perm.mem_iff.mp hp)
  have hlen2:((AU lt b xs).map f).length≤sizeLine:=by rw[List.length_map,sortBy_perm.length_eq,← hvl];exact hz'
  refine wpAny_bind (seqEpoch_at hl3 rfl ?_)
  refine wpAny_bind (listUpdate_at hl3 rfl ?_ (Nat.zero_le _) ?_)
  ·rw[hf]
   simp only[bne_self_eq_false,Bool.false_eq_true,if_false]
   refine wpAny_pure ?_
   obtain⟨ok4,k4⟩:=BL (tk:=s3.toks) ok3 (AA ..) hl3 (f:=fun O=>if b then((arrOf st').map (·.2)).reverse else(arrOf st').map (·.2)) hout hys hlen2
   simp only[AH.set_set]at ok4 k4
   exact h _ ok4 (k13.trans k4)
  ·rw[hout,List.size_toArray,← hys.length.symm]
   exact Nat.le_succ_of_le hlen2
 have harr:(if b=true then(vs.toArray.zip vs.toArray).reverse else vs.toArray.zip vs.toArray).toList=l0.map fun p=>(p.2,p.2):=by
  have:(vs.toArray.zip vs.toArray).toList=l.map fun p=>(p.2,p.2):=by rw[← e2];simp[List.zip_map']
  cases b with
  | false=>simp only[Bool.false_eq_true,if_false,l0];exact this
  | true=>simp only[if_true,l0];simp only[Array.toList_reverse,this,List.map_reverse]
 have step:∀ t:Sem PySem.Fin,wpAny (model G.prog G.w) A t P Bb s3→wpAny (model G.prog G.w) A (if b=true then(do let _ ← rule "list.sort.reverse"; t) else t) P Bb s3:=by
  intro t ht
  split
  ·exact wpAny_bind (wpAny_rule ht)
  ·exact ht
 refine step _ ?_
 have hll:vs.toArray.size=l.length:=by rw[← e2];simp
 by_cases h2:vs.toArray.size<2
 ·rw[if_pos h2,if_pos h2]
  refine wpAny_bind (wpAny_pure ?_)
  dsimp only
  simp only[StateT.run_pure]
  refine wpAny_bind (wpAny_pure ?_)
  refine fin (SortSt.mk' general' _ #[] 7 none) rfl ?_
  show(if b=true then _ else _:Array Keyed).toList=_
  simp only[harr]
  have:AO L2 l0=l0:=by
   match hq:l0,(show l0.length<2 by exact hl0l▸hll▸h2) with
   | [],_=>rfl
   | [p],_=>rfl
   | _::_::_,h=>simp at h;exact(M5 h).elim
  simp only[this]
 ·rw[if_neg h2,if_neg h2]
  have h2':2≤xs.length:=by rw[← hvl];rw[List.size_toArray]at h2;exact Nat.not_lt.mp h2
  obtain⟨κ,hkind,hcmp⟩:=K.kind s3 A vs xs hu h2' hv3
  refine wpAny_bind (hkind _ _ ?_)
  have hruns:=hr (prog:=G.prog) (w:=G.w) (A:=A) (E:=Bb) (st:=SortSt.mk' κ (if b=true then(vs.toArray.zip vs.toArray).reverse else vs.toArray.zip vs.toArray) #[] 7 none) (s:=s3)
   (κ:=κ) (D:=fun p=>∃ x,VR s3.heap (f x) p.1) (L:=LV f lt s3.heap)
   (Q:=fun O st'=>failedOf st'=none∧(arrOf st').toList=(AO L2 l0).map (fun p=>(p.2,p.2)))
   (JE K.swo) (fun p q zz2 zz3 E Q hq=>by obtain⟨x,hx⟩:=zz2;obtain⟨y,hy⟩:=zz3;exact hcmp x y p.1 q.1 hx hy E Q (by rw[Lq (K.inj _) hx hy]at hq;exact hq)) rfl rfl rfl
   (fun p hp=>by
    have hp':p∈(if b=true then(vs.toArray.zip vs.toArray).reverse else vs.toArray.zip vs.toArray).toList:=hp
    rw[harr]at hp'
    obtain⟨q,hq,rfl⟩:=List.mem_map.mp hp'
    exact⟨q.1,hlv q ((hl0 q).mp hq)⟩)
   (by
    show 2≤(if b=true then _ else _:Array Keyed).size
    simp only[← Array.length_toList,harr,List.length_map,hl0l];exact KS hll h2)
   (by
    show(if b=true then _ else _:Array Keyed).size=_
    simp only[← Array.length_toList,harr,List.length_map,hl0l,← hll,List.size_toArray,hvl])
   (fun st' hf hs he=>⟨hf,Hk K l0 (·.1) (fun p=>(p.2,p.2)) (fun p hp=>hlv p ((hl0 p).mp hp)) hs (by simp only[← harr];exact he)⟩)
  refine wpAny_bind (wpAny_mono hruns ?_ fun O O e=>e)
  rintro⟨⟨⟩,st'⟩ s' ⟨rfl,hf,har⟩
  exact fin st' hf har
theorem MW{a:Addr}{xs:List α}(K:Sk G f lt)(hu:A.units+9<cLine)(hH:H a=some (.lst (xs.map f)))(hr:CP xs.length)(h:Q .none (H.set a (.lst ((AO lt xs).map f)))):OpL G A (fun vs=>call (.builtin "list.sort") vs) [.ref a] H Q:=by
 rintro s vs ok hvs
 obtain⟨_,rfl,rfl⟩:=hvs.one_inv
 obtain⟨⟨vs,n,hl,hv,hz⟩,_⟩:=id (ok.hr a _ hH)
 refine wpAny_call_entry slot_list_sort ⟨_,hl,rfl⟩ entry_list_sort (EP (b:=false) rfl K (by simp only[Around.in1_units];exact M4 hu) ok hH hr fun s' ok' k'=>⟨_,rfl,.none,_,rfl,ok',k',h⟩) (args_list_sort _)
end
end Mine
set_option linter.unusedVariables false
namespace Mine
variable [Z:Zz]
section
variable {G:Cx} {A:Around} {F:Fx} {σ:Loc} {H:AH}


noncomputable def AH.le(H H':AH):Prop:=∀ a o,H a=some o→H' a=some o
omit Z in
theorem AH.le_refl(H:AH):AH.le H H:=fun O O h=>h
omit Z in
theorem AH.le_trans{H H' H'':AH}(h:AH.le H H')(h':AH.le H' H''):AH.le H H'':=fun a o e=>h' a o (h a o e)
omit Z in
theorem AT{H:AH}{a:Addr}{o:HO}(h:H a=none):AH.le H (H.set a o):=fun b o' e=>by
 rw[AE _ _ (by rintro rfl;rw[h]at e;injection e)];exact e
omit Z in
theorem AH.le_set{H H':AH}(a:Addr)(o:HO)(h:AH.le H H'):AH.le (H.set a o) (H'.set a o):=fun b o' e=>by
 by_cases hb:b=a
 ·subst hb;rw[AA]at e ⊢;exact e
 ·rw[AE _ _ hb]at e ⊢;exact h b o' e
theorem OkH.weak{H':AH}{s:Shared}(ok:OkH G H' s)(h:AH.le H H'):OkH G H s:=⟨ok.keep,fun a o e=>ok.hr a o (h a o e),ok.gens,ok.dat,ok.tab⟩
omit Z in
theorem DomLe.weak{H0 H':AH}{h:Heap}(d:DomLe H0 h H')(hle:AH.le H H'):DomLe H0 h H:=fun b o e=>d b o (hle b o e)
omit Z in
theorem Kp.weak{H0 H':AH}{s s':Shared}(k:Kp H0 s H' s')(h:AH.le H H'):Kp H0 s H s':=⟨k.os,k.kept,k.dom.weak h⟩
omit Z in
theorem KpF.weak{W:Addr→Prop}{H0 H':AH}{s s':Shared}(k:KpF W H0 s H' s')(h:AH.le H H'):KpF W H0 s H s':=⟨k.os,k.kept,k.dom.weak h,k.live⟩
theorem Post.drop{s s':Shared}{v:Value}{Q:PV→AH→Prop}(x:Post G H s (fun p H'=>∃ H'',AH.le H'' H'∧Q p H'') v s'):Post G H s Q v s':=by
 obtain⟨p,H',h1,h2,h3,H'',hle,h4⟩:=x;exact⟨p,H'',h1,h2.weak hle,h3.weak hle,h4⟩
theorem Ev.drop{e:Expr}{Q:PV→AH→Prop}(h:Ev G F e σ H (fun p H'=>∃ H'',AH.le H'' H'∧Q p H'')):Ev G F e σ H Q:=fun s ok lr=>wpAny_mono (h s ok lr) (fun O O x=>x.drop) fun O O x=>x
theorem EvB.drop{e:Expr}{Q:Bool→AH→Prop}(h:EvB G F e σ H (fun p H'=>∃ H'',AH.le H'' H'∧Q p H'')):EvB G F e σ H Q:=fun s ok lr =>
 wpAny_mono (h s ok lr) (fun O O zz2=>by obtain⟨H',h2,h3,H'',hle,h4⟩:=zz2;exact⟨H'',h2.weak hle,h3.weak hle,h4⟩) fun O O x=>x
theorem OpL.drop{f:List Value→Sem Value}{ps:List PV}{Q:PV→AH→Prop}(h:OpL G A f ps H (fun p H'=>∃ H'',AH.le H'' H'∧Q p H'')):OpL G A f ps H Q:=fun s vs ok hv=>wpAny_mono (h s vs ok hv) (fun O O x=>x.drop) fun O O x=>x
theorem Ex.drop{st:Stmt}{Q:PF→Loc→AH→Prop}(h:Ex G F st σ H (fun f σ' H'=>∃ H'',AH.le H'' H'∧Q f σ' H'')):Ex G F st σ H Q:=fun s ok lr =>
 wpAny_mono (h s ok lr) (fun O O zz2=>by obtain⟨pf,σ',H',h1,h2,h3,h4,H'',hle,h5⟩:=zz2;exact⟨pf,σ',H'',h1,h2.weak hle,h3,h4.weak hle,h5⟩) fun O O x=>x

omit Z in
theorem BK{scope:Scope}{x:Str}{p:PV}(h:(scope.names.lookup x==some .free)=true)(e:σ x=some p):(σ.fr scope) x=some p:=by unfold Loc.fr;rw[if_pos h];exact e

noncomputable def F4{α:Type}(G:Cx)(F:Fx)(scope:Scope)(target elt:Expr)(ifs:List Expr)(τ:Loc)(H:AH)(xs:List α)(fx:α→PV)(c:α→Bool)(fy:α→PV):Prop :=
 ∀ F':Fx,CF F F' scope→∀ x∈xs,As G F' target (fx x) τ H (fun σ2 H2=>EvIfs G F' ifs σ2 H2 (fun b H3=>b=c x∧if b then Ev G F' elt σ2 H3 (fun y H4=>y=fy x∧AH.le H H4) else AH.le H H3))

theorem EvIfs.mono:∀{ifs:List Expr} {H:AH} {Q Q':Bool→AH→Prop},EvIfs G F ifs σ H Q→(∀ b H',Q b H'→Q' b H')→EvIfs G F ifs σ H Q'
 | [],_,_,_,h,hq=>hq _ _ h
 | c::r,H,Q,Q',h,hq=>fun s ok lr=>wpAny_mono (h s ok lr) (fun b s1 zz2=>zz2.on fun H1 ok1 k1 hb=>⟨H1,ok1,k1,by
   cases b with
   | true=>exact EvIfs.mono (ifs:=r) hb hq
   | false=>exact hq _ _ hb⟩) fun O O x=>x
theorem Eb{α:Type}{scope:Scope}{target elt:Expr}{ifs:List Expr}{τ:Loc}{xs:List α}{fx fy:α→PV}{c:α→Bool}(hle:Loc.le τ (σ.fr scope))(h:F4 G F scope target elt ifs τ H xs fx c fy) :
  CompStep G F scope target elt ifs σ (xs.map fx) (fun i acc H'=>acc=((xs.take i).filter c).map fy∧AH.le H H'):=by
 intro F' hF' i x acc H' hx ⟨hacc,hH⟩
 rw[List.getElem?_map]at hx
 cases hxi:xs[i]? with
 | none=>rw[hxi]at hx;injection hx
 | some a =>
  rw[hxi]at hx;(replace hx:=Option.some.inj hx;subst hx)
  have htake:xs.take (i+1)=xs.take i++[a]:=Ay hxi
  have:=h F' hF' a (List.mem_of_getElem? hxi)
  intro s v ok lr hv
  refine wpAny_mono (this s v (ok.weak hH) (lr.weak hle) hv) (fun O s1 zz2=>zz2.on fun σ2 H2 ok2 lr2 k2 hq=>⟨σ2,H2,ok2,lr2,?_,?_⟩) fun O O x=>x
  ·exact⟨k2.os,fun b o e hm hw=>k2.kept b o e (fun zz0=>by obtain⟨x,hx⟩:=zz0;exact hm ⟨x,hH _ _ hx⟩) hw,fun b o e=>by
    rcases k2.dom b o e with h | ⟨o',h,h'⟩
    ·exact .inl h
    ·exact .inr ⟨o',hH _ _ h,h'⟩,fun b o e hm hw=>k2.live b o e (fun zz0=>by obtain⟨x,hx⟩:=zz0;exact hm ⟨x,hH _ _ hx⟩) hw⟩
  ·refine hq.mono fun b H3 zz2=>zz2.elim fun hb hr=>?_
   cases b with
   | true =>
    simp only[if_true]at hr ⊢
    refine hr.mono fun y H4 zz2=>zz2.elim fun hy hle4=>⟨?_,hle4⟩
    simp only[htake,List.filter_append,List.map_append,hacc,hy]
    simp[← hb]
   | false =>
    simp only[Bool.false_eq_true,if_false]at hr ⊢
    refine⟨?_,hr⟩
    simp only[htake,List.filter_append,List.map_append,hacc]
    simp[← hb]

theorem B4{α:Type}{elt target iter:Expr}{ifs:List Expr}{scope:Scope}{pos:Pos}{Q:PV→AH→Prop}(τ:Loc)(fx:α→PV)(c:α→Bool)(fy:α→PV)(hsc:Ao scope=true)(hfree:By F scope)(hle:Loc.le τ (σ.fr scope))
  (h:Ev G F iter σ H (fun p H1=>∃ xs:List α,F2 G F.A target p H1 (xs.map fx)∧xs.length≤sizeLine∧F4 G F scope target elt ifs τ H1 xs fx c fy∧∀ a,H1 a=none→Q (.ref a) (H1.set a (.lst ((xs.filter c).map fy)))))
  (hs:∀ x,foldedSetIterable iter F.env x=pure x:=by intro _;rfl):Ev G F (.ListComp elt [⟨target,iter,ifs,0⟩] scope pos) σ H Q:=by
 refine Ev.drop (Ig hsc hfree (h.mono fun p H1 zz2=>zz2.elim fun xs zz2=>zz2.elim fun h1 zz2=>zz2.elim fun h2 zz2=>zz2.elim fun h3 h4=>?_) hs)
 refine⟨_,_,h1,by rw[List.length_map];exact h2,⟨rfl,AH.le_refl _⟩,Eb hle h3,fun acc H' zz2 a ha=>zz2.elim fun hacc hH=>?_⟩
 rw[List.length_map,List.take_length]at hacc
 subst hacc
 exact⟨_,AH.le_set _ _ hH,h4 a (by
  cases e:H1 a with
  | none=>rfl
  | some o=>rw[hH a o e]at ha;injection ha)⟩
theorem Mr{α:Type}{elt target iter:Expr}{ifs:List Expr}{scope:Scope}{cpos npos pos:Pos}{y:Str}{Q:PF→Loc→AH→Prop}(τ:Loc)(fx:α→PV)(c:α→Bool)(fy:α→PV)(hsc:Ao scope=true)(hfree:By F scope)(hle:Loc.le τ (σ.fr scope))
  (hk:F.env.kindOf y=some .local) (hline:(npos.line==cpos.line)=true) (hny:scope.names.any (fun x=>x.1==y&&(x.2==.local||x.2==.cell))=false)
  (h:Ev G F iter σ H (fun p H1=>∃ xs:List α,F2 G F.A target p H1 (xs.map fx)∧xs.length≤sizeLine∧F4 G F scope target elt ifs τ H1 xs fx c fy∧∀ a,H1 a=none→Q .next (σ.set y (.ref a)) (H1.set a (.lst ((xs.filter c).map fy)))))
  (hs:∀ x,foldedSetIterable iter F.env x=pure x):Ex G F (.Assign [.Name y npos] (.ListComp elt [⟨target,iter,ifs,0⟩] scope cpos) pos) σ H Q:=by
 refine Ex.drop (GJ hsc hfree hk hline hny (h.mono fun p H1 zz2=>zz2.elim fun xs zz2=>zz2.elim fun h1 zz2=>zz2.elim fun h2 zz2=>zz2.elim fun h3 h4=>?_) hs)
 refine⟨_,_,h1,by rw[List.length_map];exact h2,⟨rfl,AH.le_refl _⟩,Eb hle h3,fun acc H' zz2 a ha=>zz2.elim fun hacc hH=>?_⟩
 rw[List.length_map,List.take_length]at hacc
 subst hacc
 exact⟨_,AH.le_set _ _ hH,h4 a (by
  cases e:H1 a with
  | none=>rfl
  | some o=>rw[hH a o e]at ha;injection ha)⟩
end
end Mine
namespace Mine
variable [zz:Zz]
section
variable {G:Cx} {A:Around} {F:Fx} {σ:Loc} {H:AH} {Q:PV→AH→Prop}

omit [Zz] in
theorem Loc.here{x:Str}{p:PV}:(σ.set x p) x=some p:=if_pos rfl
omit [Zz] in
theorem Gb{x y:String}{p q:PV}(h:(x==y)=false)(e:σ (Str.ofString x)=some p):(σ.set (Str.ofString y) q) (Str.ofString x)=some p:=by
 rw[C7,if_neg (by rw[Gy];exact(bne_iff_ne.mp (by simp[bne,h])))];exact e
theorem SO{x:Str}{pos:Pos}{p:PV}{Q:PV→AH→Prop}(hx:σ x=some p)(h:Q p H):Ev G F (.Name x pos) σ H Q:=BT hx h
omit [Zz] in
theorem Gt{x:Str}{p:PV}(h:σ x=some p:=by with_reducible repeat (first | exact Loc.here | apply Gb (by decide))):σ x=some p:=h
omit [Zz] in
theorem Le{σ τ:Loc}(h:Loc.le σ τ:=by repeat (first | exact Ad _ | (refine Loc.le_set Gt ?_))):Loc.le σ τ:=h
theorem V{x:Str}{pos:Pos}{p:PV}{Q:PV→AH→Prop}(h:Q p H)(hx:σ x=some p):Ev G F (.Name x pos) σ H Q:=BT hx h
omit [Zz] in
theorem FnF.lt1{sc:Scope}{n m:Nat}(h:FnF A sc F)(hA:A.units<n)(hm:n+4≤m):F.A.units+1<m:=by rw[h.units];exact Qm hm hA
omit [Zz] in
theorem FnF.lt3{sc:Scope}{n m:Nat}(h:FnF A sc F)(hA:A.units<n)(hm:n+6≤m):F.A.units+3<m:=by rw[h.units];exact Ql hm hA
omit [Zz] in
theorem FnF.room{sc:Scope}{d u d' u':Nat}(h:FnF A sc F)(hA:A.depth<d∧A.units<u)(h1:d+1≤d')(h2:u+3≤u'):F.A.depth<d'∧F.A.units<u':=by rw[h.units,h.depth];exact Qk hA h1 h2
theorem Gc{target:Expr}{n:Nat}(hA:A.handled=none)(hn:n<2 ^ 60):F2 G A target (.rng 0 n 1) H ((List.range n).map fun i:Nat=>.int i):=by
 have:=Fz (G:=G) (H:=H) (target:=target) (x:=0) (y:=n) (c:=1) (n:=n) hA (small_one (by exact Int.natCast_nonneg _) (by exact Int.natCast_nonneg _) (by exact Int.natCast_nonneg _) (by exact M3 hn)) (by rw[rangeSize_one];split<;>(first | exact rfl | exact M2 hn (by assumption)))
 unfold Bm at this
 simpa using this
omit [Zz] in
theorem A2{α:Type}(l:List α):l.filter (fun O=>true)=l:=List.filter_eq_self.mpr fun O O=>rfl
omit [Zz] in

theorem A4{scope sc:Scope}(hF:FnF A sc F)(h:(scope.names.all fun x=>x.2 != .free||sc.names.lookup x.1==some .cell||sc.names.lookup x.1==some .free)=true):By F scope:=by
 intro x hx
 have hm:(x,NameKind.free)∈scope.names:=by
  clear h
  generalize scope.names=l at hx
  induction l with
  | nil=>injection hx
  | cons p l ih =>
   obtain⟨y,k⟩:=p
   simp only[List.lookup_cons]at hx
   by_cases hxy:x==y
   ·rw[hxy]at hx;(replace hx:=Option.some.inj hx;subst hx);rw[beq_iff_eq.mp hxy];exact List.mem_cons_self ..
   ·have:(x==y)=false:=by simpa using hxy
    rw[this]at hx;exact List.mem_cons_of_mem _ (ih hx)
 have:=List.all_eq_true.mp h _ hm
 simp only[Bool.or_eq_true,bne_self_eq_false,beq_iff_eq,Bool.false_eq_true,false_or]at this
 unfold Env.kindOf;rw[hF.sc]
 exact this
theorem EI{e:Expr}{Q:Option Int→AH→Prop}(h:Ev G F e σ H (fun p H1=>∃ i,p=.int i∧Q (some i) H1)):EvP G F (some e) σ H Q:=h
theorem C9{Q:Option Int→AH→Prop}(h:Q none H):EvP G F none σ H Q:=h

theorem Lu{α:Type}{elt target iter:Expr}{ifs:List Expr}{scope sc:Scope}{cpos npos pos:Pos}{y:Str}{Q:PF→Loc→AH→Prop}(τ:Loc)(fx:α→PV)(c:α→Bool)(fy:α→PV)(hF:FnF A sc F)(hk:sc.names.lookup y=some .local)(hsc:Ao scope=true)
  (hfr:(scope.names.all fun x=>x.2 != .free||sc.names.lookup x.1==some .cell||sc.names.lookup x.1==some .free)=true) (hle:Loc.le τ (σ.fr scope)) (hline:(npos.line==cpos.line)=true) (hny:scope.names.any (fun x=>x.1==y&&(x.2==.local||x.2==.cell))=false)
  (h:Ev G F iter σ H (fun p H1=>∃ xs:List α,F2 G F.A target p H1 (xs.map fx)∧xs.length≤sizeLine∧F4 G F scope target elt ifs τ H1 xs fx c fy∧∀ a,H1 a=none→Q .next (σ.set y (.ref a)) (H1.set a (.lst ((xs.filter c).map fy)))))
  (hs:∀ x,foldedSetIterable iter F.env x=pure x:=by intro _;rfl):Ex G F (.Assign [.Name y npos] (.ListComp elt [⟨target,iter,ifs,0⟩] scope cpos) pos) σ H Q :=
 Mr τ fx c fy hsc (A4 hF hfr) hle (AD hF hk) hline hny h hs
end
end Mine
namespace Mine

noncomputable def B9{α:Type}(lt:α→α→Bool)(start:Nat)(x:α)(pos:Nat)(xs:List α):List α :=
 WellFounded.fix (C:=fun O=>List α) (measure fun p:Nat × List α=>p.1).wf (fun p ih =>
  if h:start<p.1 then
   match p.2[(p.1 - 1) / 2]? with
   | some q=>if lt x q then ih ((p.1 - 1) / 2,p.2.set p.1 q) (show(p.1 - 1) / 2<p.1 by exact Hx h) else p.2.set p.1 x
   | none=>p.2.set p.1 x
  else p.2.set p.1 x) (pos,xs)
theorem B5{α:Type}(lt:α→α→Bool)(start:Nat)(x:α)(pos:Nat)(xs:List α):B9 lt start x pos xs =
 if h:start<pos then
  match xs[(pos - 1) / 2]? with
  | some p=>if lt x p then B9 lt start x ((pos - 1) / 2) (xs.set pos p) else xs.set pos x
  | none=>xs.set pos x
 else xs.set pos x:=WellFounded.fix_eq _ _ _
noncomputable def AY{α:Type}(lt:α→α→Bool)(xs:List α)(pos:Nat):Nat :=
 if 2*pos+2<xs.length∧(match xs[2*pos+1]?,xs[2*pos+2]? with | some l,some r=>lt l r | _,_=>true)=false then 2*pos+2 else 2*pos+1
theorem Cd{α:Type}(lt:α→α→Bool)(xs:List α)(pos:Nat)(h:2*pos+1<xs.length):AY lt xs pos<xs.length∧pos<AY lt xs pos:=by
 unfold AY
 generalize (match xs[2*pos+1]?,xs[2*pos+2]? with | some l,some r=>lt l r | _,_=>true)=b
 split<;>(first | exact Qj h | lia | omega)
noncomputable def Dt{α:Type}(lt:α→α→Bool)(pos:Nat)(xs:List α):Nat × List α :=
 WellFounded.fix (C:=fun O=>Nat × List α) (measure fun p:Nat × List α=>p.2.length - p.1).wf (fun p ih =>
  if h:2*p.1+1<p.2.length then
   match p.2[AY lt p.2 p.1]? with
   | some c=>ih (AY lt p.2 p.1,p.2.set p.1 c) (by
    have:=Cd lt p.2 p.1 h
    show(p.2.set p.1 c).length - AY lt p.2 p.1<p.2.length - p.1
    rw[List.length_set];exact Qi this)
   | none=>p
  else p) (pos,xs)
theorem Cz{α:Type}(lt:α→α→Bool)(pos:Nat)(xs:List α):Dt lt pos xs =
 if h:2*pos+1<xs.length then
  match xs[AY lt xs pos]? with
  | some c=>Dt lt (AY lt xs pos) (xs.set pos c)
  | none=>(pos,xs)
 else(pos,xs):=WellFounded.fix_eq _ _ _
noncomputable def F7{α:Type}(lt:α→α→Bool)(start:Nat)(x:α)(xs:List α):List α:=B9 lt start x (Dt lt start xs).1 ((Dt lt start xs).2.set (Dt lt start xs).1 x)
noncomputable def D6{α:Type}(lt:α→α→Bool)(x:α)(xs:List α):List α:=B9 lt 0 x xs.length (xs++[x])
section
variable {α:Type} {lt:α→α→Bool}


theorem Dz:∀{xs:List α} {i:Nat} {u:α} (a:α),xs[i]?=some u→(u::xs.set i a).Perm (a::xs)
 | [],i,u,a,h=>by simp at h
 | x::xs,0,u,a,h=>by simp at h;subst h;exact List.Perm.swap ..
 | x::xs,i+1,u,a,h=>by
  have:=Dz (xs:=xs) (i:=i) a (by simpa using h)
  simp only[List.set_cons_succ]
  exact(List.Perm.swap ..).trans ((this.cons x).trans (List.Perm.swap ..))
theorem Du{xs:List α}{i j:Nat}{p:α}(x:α)(hi:i<xs.length)(hj:xs[j]?=some p)(hij:i≠j):((xs.set i p).set j x).Perm (xs.set i x):=by
 have hu:xs[i]?=some xs[i]:=List.getElem?_eq_getElem hi
 have h1:=Dz p hu
 have h2:=Dz (xs:=xs.set i p) (i:=j) (u:=p) x (by rw[List.getElem?_set,if_neg hij];exact hj)
 have h3:=Dz x hu
 have h4:(p::xs[i]::(xs.set i p).set j x).Perm (p::xs[i]::xs.set i x):=by
  refine(List.Perm.swap ..).trans ((h2.cons _).trans ?_)
  refine(List.Perm.swap ..).trans ((h1.cons _).trans ?_)
  exact(List.Perm.swap ..).trans (h3.cons _).symm
 exact(h4.cons_inv).cons_inv
set_option tactic.hygienic true in
theorem FV(start:Nat)(x:α)(pos:Nat)(xs:List α)(h:pos<xs.length):(B9 lt start x pos xs).Perm (xs.set pos x):=by
 induction pos using Nat.strongRecOn generalizing xs with
 | ind pos ih =>
  rw[B5]
  split
  ·rename_i hlt
   split
   ·rename_i p hp
    split
    ·exact(ih ((pos - 1) / 2) (by exact Hx hlt) (xs.set pos p) (by rw[List.length_set];exact GS h)).trans (Du x h hp (by exact Qh hlt))
    ·exact List.Perm.refl _
   ·exact List.Perm.refl _
  ·exact List.Perm.refl _
set_option tactic.hygienic true in
theorem Hl(x:α)(pos:Nat)(xs:List α)(h:pos<xs.length):((Dt lt pos xs).2.set (Dt lt pos xs).1 x).Perm (xs.set pos x)∧(Dt lt pos xs).1<(Dt lt pos xs).2.length∧(Dt lt pos xs).2.length=xs.length:=by
 induction hn:xs.length - pos using Nat.strongRecOn generalizing xs pos with
 | ind n ih =>
  rw[Cz]
  split
  ·rename_i hlt
   have hc:=Cd lt xs pos hlt
   split
   ·rename_i c hcc
    have:=ih ((xs.set pos c).length - AY lt xs pos) (by rw[List.length_set];exact KR hn hc) (AY lt xs pos) (xs.set pos c) (by rw[List.length_set];exact hc.1) rfl
    exact⟨this.1.trans (Du x h hcc (by exact Nat.ne_of_lt hc.2)),this.2.1,by rw[this.2.2,List.length_set]⟩
   ·exact⟨List.Perm.refl _,h,rfl⟩
  ·exact⟨List.Perm.refl _,h,rfl⟩
theorem KH(start:Nat)(x:α)(xs:List α)(h:start<xs.length):(F7 lt start x xs).Perm (xs.set start x):=by
 obtain⟨h1,h2,h3⟩:=Hl (lt:=lt) x start xs h
 unfold F7
 refine(FV start x _ _ (by simp only[List.length_set];exact h2)).trans ?_
 rw[List.set_set];exact h1
theorem EL{start:Nat}{x:α}{xs:List α}(h:xs[start]?=some x):(F7 lt start x xs).Perm xs:=by
 obtain⟨h1,h2⟩:=List.getElem?_eq_some_iff.mp h
 have:=KH (lt:=lt) start x xs h1
 rwa [show xs.set start x=xs by rw[← h2];exact List.set_getElem_self h1]at this
theorem Fm(x:α)(xs:List α):(D6 lt x xs).Perm (x::xs):=by
 unfold D6
 refine(FV 0 x xs.length (xs++[x]) (by simp)).trans ?_
 rw[List.set_append_right _ _ (Nat.le_refl _)]
 simp only[Nat.sub_self,List.set_cons_zero]
 exact List.perm_append_comm


noncomputable def HeapAt(lt:α→α→Bool)(start:Nat)(xs:List α):Prop:=∀ k u v,xs[k]?=some u→xs[(k - 1) / 2]?=some v→0<k→start≤(k - 1) / 2→lt u v=false
inductive Desc (s:Nat):Nat→Prop
 | refl:Desc s s
 | step {p:Nat}:Desc s ((p - 1) / 2)→0<p→Desc s p
theorem Desc.le{s p:Nat}(h:Desc s p):s≤p:=by induction h with
 | refl=>exact Nat.le_refl _
 | step _ _ ih=>exact Qg (by assumption) ih
theorem Desc.up{s p:Nat}(h:Desc s p)(hlt:s<p):Desc s ((p - 1) / 2):=by cases h with
 | refl=>exact absurd hlt (Nat.lt_irrefl _)
 | step h _=>exact h
theorem Desc.zero(p:Nat):Desc 0 p:=by
 induction p using Nat.strongRecOn with
 | ind p ih =>
  rcases Nat.eq_zero_or_pos p with h | h
  ·subst h;exact .refl
  ·exact .step (ih _ (by exact M1 h)) h

set_option tactic.hygienic true in
theorem FX(o:SWO lt)(start:Nat)(x:α)(pos:Nat)(xs:List α)(h:pos<xs.length)(hd:Desc start pos)
  (ha:∀ k u v,(xs.set pos x)[k]?=some u→(xs.set pos x)[(k - 1) / 2]?=some v→0<k→start≤(k - 1) / 2→k≠pos→lt u v=false)
  (hb:∀ k u v,xs[k]?=some u→0<k→(k - 1) / 2=pos→start<pos→xs[(pos - 1) / 2]?=some v→lt u v=false):HeapAt lt start (B9 lt start x pos xs):=by
 induction pos using Nat.strongRecOn generalizing xs with
 | ind pos ih =>
  have stop:(∀ p,xs[(pos - 1) / 2]?=some p→start<pos→lt x p=false)→HeapAt lt start (xs.set pos x):=by
   intro hx k u v hu hv h0 hs
   by_cases hk:k=pos
   ·subst hk
    rw[List.getElem?_set,if_pos rfl,if_pos h]at hu;(replace hu:=Option.some.inj hu;subst hu)
    rw[List.getElem?_set,if_neg (by exact Qf h0)]at hv
    exact hx v hv (by exact Qe h0 hs)
   ·exact ha k u v hu hv h0 hs hk
  rw[B5]
  split
  ·rename_i hlt
   split
   ·rename_i p hp
    split
    ·rename_i hxp
     have hpar:=hd.up hlt
     have hple:=hpar.le
     refine ih ((pos - 1) / 2) (by exact Hx hlt) (xs.set pos p) (by rw[List.length_set];exact GS h) hpar ?_ ?_
     ·intro k u v hu hv h0 hs hk
      rw[List.getElem?_set,if_neg (Ne.symm hk)]at hu
      by_cases hkp:k=pos
      ·subst hkp
       rw[List.getElem?_set,if_pos rfl,if_pos h]at hu;(replace hu:=Option.some.inj hu;subst hu)
       rw[List.getElem?_set,if_pos rfl,if_pos (by rw[List.length_set];exact GS h)]at hv;(replace hv:=Option.some.inj hv;subst hv)
       exact o.asym _ _ hxp
      ·rw[List.getElem?_set,if_neg (Ne.symm hkp)]at hu
       have hu':(xs.set pos x)[k]?=some u:=by rw[List.getElem?_set,if_neg (Ne.symm hkp)];exact hu
       by_cases hpp:(k - 1) / 2=pos
       ·rw[hpp,List.getElem?_set,if_neg (by exact Qd hlt h0 hk hkp hpp),List.getElem?_set,if_pos rfl,if_pos h]at hv;(replace hv:=Option.some.inj hv;subst hv)
        exact hb k u p hu h0 hpp hlt hp
       ·by_cases hpq:(k - 1) / 2=(pos - 1) / 2
        ·rw[hpq,List.getElem?_set,if_pos rfl,if_pos (by rw[List.length_set];exact Qc h hlt h0 hk hkp hpp hpq)]at hv;(replace hv:=Option.some.inj hv;subst hv)
         have hup:=ha k u p hu' (by rw[hpq,List.getElem?_set,if_neg (by exact Qb hpq hpp)];exact hp) h0 hs hkp
         cases hux:lt u x with
         | false=>rfl
         | true=>rw[o.tr hux hxp]at hup;injection hup
        ·rw[List.getElem?_set,if_neg (Ne.symm hpq),List.getElem?_set,if_neg (Ne.symm hpp)]at hv
         exact ha k u v hu' (by rw[List.getElem?_set,if_neg (Ne.symm hpp)];exact hv) h0 hs hkp
     ·intro k u v hu h0 hkp hs hv
      have hup2:=(hpar.up hs).le
      rw[List.getElem?_set,if_neg (by exact M0 hkp h0 hlt)]at hv
      have hpv:lt p v=false:=ha ((pos - 1) / 2) p v (by rw[List.getElem?_set,if_neg (by exact Mz hs)];exact hp) (by rw[List.getElem?_set,if_neg (by exact M0 hkp h0 hlt)];exact hv) (by exact Nat.zero_lt_of_lt hs) hup2 (by exact Qa hs)
      by_cases hkq:k=pos
      ·subst hkq
       rw[List.getElem?_set,if_pos rfl,if_pos h]at hu;(replace hu:=Option.some.inj hu;subst hu);exact hpv
      ·rw[List.getElem?_set,if_neg (Ne.symm hkq)]at hu
       have:=ha k u p (by rw[List.getElem?_set,if_neg (Ne.symm hkq)];exact hu) (by rw[hkp,List.getElem?_set,if_neg (by exact Mz hs)];exact hp) h0 (by exact QZ hkp hs) hkq
       exact o.ntr _ _ _ this hpv
    ·rename_i hxp
     exact stop fun p' hp' O=>by rw[hp]at hp';(replace hp':=Option.some.inj hp';subst hp');simpa using hxp
   ·rename_i hp
    exact stop fun p' hp' O=>by rw[hp]at hp';injection hp'
  ·rename_i hlt
   exact stop fun p' hp' hs=>absurd hs hlt

theorem IV(xs:List α)(pos:Nat)(h:2*pos+1<xs.length):(AY lt xs pos - 1) / 2=pos∧0<AY lt xs pos∧(SWO lt→∀ k u v,0<k→(k - 1) / 2=pos→xs[k]?=some u→xs[AY lt xs pos]?=some v→lt u v=false):=by
 have hl:xs[2*pos+1]?=some xs[2*pos+1]:=List.getElem?_eq_getElem h
 have left:AY lt xs pos=2*pos+1→(∀ r,xs[2*pos+2]?=some r→lt xs[2*pos+1] r=true)→(AY lt xs pos - 1) / 2=pos∧0<AY lt xs pos∧(SWO lt→∀ k u v,0<k→(k - 1) / 2=pos→xs[k]?=some u→xs[AY lt xs pos]?=some v→lt u v=false):=by
  intro e hr
  rw[e]
  refine⟨by exact QY,by exact Nat.succ_pos _,fun o k u v h0 hk hu hv=>?_⟩
  rw[hl]at hv;(replace hv:=Option.some.inj hv;subst hv)
  have hk':k=2*pos+1∨k=2*pos+2:=by exact LB hk h0
  rcases hk' with rfl | rfl
  ·rw[hl]at hu;(replace hu:=Option.some.inj hu;subst hu);exact o.irr _
  ·exact o.asym _ _ (hr u hu)
 cases e2:xs[2*pos+2]? with
 | none =>
  refine left ?_ (fun r hr=>by rw[e2]at hr;injection hr)
  unfold AY
  rw[if_neg (fun hc=>absurd (List.getElem?_eq_none_iff.mp e2) (Nat.not_le.mpr hc.1))]
 | some r =>
  have h2:2*pos+2<xs.length:=(List.getElem?_eq_some_iff.mp e2).1
  cases hlr:lt xs[2*pos+1] r with
  | true =>
   refine left ?_ (fun r' hr=>by rw[e2]at hr;(replace hr:=Option.some.inj hr;subst hr);exact hlr)
   unfold AY
   rw[hl,e2,if_neg (fun hc=>by have:=hc.2;simp only at this;rw[hlr]at this;injection this)]
  | false =>
   have e:AY lt xs pos=2*pos+2:=by
    unfold AY
    rw[hl,e2,if_pos ⟨h2,by simp only;exact hlr⟩]
   rw[e]
   refine⟨by exact P6,by exact Nat.succ_pos _,fun o k u v h0 hk hu hv=>?_⟩
   rw[e2]at hv;(replace hv:=Option.some.inj hv;subst hv)
   have hk':k=2*pos+1∨k=2*pos+2:=by exact LB hk h0
   rcases hk' with rfl | rfl
   ·rw[hl]at hu;(replace hu:=Option.some.inj hu;subst hu);exact hlr
   ·rw[e2]at hu;(replace hu:=Option.some.inj hu;subst hu);exact o.irr _
set_option tactic.hygienic true in
theorem KL(o:SWO lt)(start pos:Nat)(xs:List α)(h:pos<xs.length)(hd:Desc start pos)
  (ha:∀ k u v,xs[k]?=some u→xs[(k - 1) / 2]?=some v→0<k→start≤(k - 1) / 2→k≠pos→(k - 1) / 2≠pos→lt u v=false)
  (hb:∀ k u v,xs[k]?=some u→0<k→(k - 1) / 2=pos→start<pos→xs[(pos - 1) / 2]?=some v→lt u v=false) :
  Desc start (Dt lt pos xs).1∧(Dt lt pos xs).2.length≤2*(Dt lt pos xs).1+1 ∧
  (∀ k u v,(Dt lt pos xs).2[k]?=some u→(Dt lt pos xs).2[(k - 1) / 2]?=some v→0<k→start≤(k - 1) / 2→k≠(Dt lt pos xs).1→(k - 1) / 2≠(Dt lt pos xs).1→lt u v=false):=by
 induction hn:xs.length - pos using Nat.strongRecOn generalizing xs pos with
 | ind n ih =>
  rw[Cz]
  split
  ·rename_i hlt
   have hc:=Cd lt xs pos hlt
   obtain⟨c1,c2,c3⟩:=IV (lt:=lt) xs pos hlt
   have c3:=c3 o
   split
   ·rename_i c hcc
    have hple:=hd.le
    refine ih ((xs.set pos c).length - AY lt xs pos) (by rw[List.length_set];exact KR hn hc) (AY lt xs pos) (xs.set pos c) (by rw[List.length_set];exact hc.1) (.step (by rw[c1];exact hd) c2) ?_ ?_ rfl
    ·intro k u v hu hv h0 hs hk hkp
     by_cases hkq:k=pos
     ·subst hkq
      rw[List.getElem?_set,if_pos rfl,if_pos h]at hu;(replace hu:=Option.some.inj hu;subst hu)
      rw[List.getElem?_set,if_neg (by exact P5 h0 h hc c1 c2 hk hkp)]at hv
      exact hb _ _ v hcc c2 c1 (by exact P4 h0 hs h hc c1 c2 hple hk hkp) hv
     ·rw[List.getElem?_set,if_neg (Ne.symm hkq)]at hu
      by_cases hpp:(k - 1) / 2=pos
      ·rw[hpp,List.getElem?_set,if_pos rfl,if_pos h]at hv;(replace hv:=Option.some.inj hv;subst hv)
       exact c3 k u _ h0 hpp hu hcc
      ·rw[List.getElem?_set,if_neg (Ne.symm hpp)]at hv
       exact ha k u v hu hv h0 hs hkq hpp
    ·intro k u v hu h0 hkp hs hv
     rw[c1,List.getElem?_set,if_pos rfl,if_pos h]at hv;(replace hv:=Option.some.inj hv;subst hv)
     rw[List.getElem?_set,if_neg (by exact P3 hkp hc)]at hu
     exact ha k u _ hu (by rw[hkp];exact hcc) h0 (by exact P2 hkp hs) (by exact P1 hkp hc) (by exact P0 hkp hc)
   ·rename_i hcc
    exact absurd (List.getElem?_eq_none_iff.mp hcc) (by exact Nat.not_le_of_lt hc.1)
  ·rename_i hlt
   exact⟨hd,by dsimp only;exact Nat.not_lt.mp hlt,ha⟩
theorem FO(o:SWO lt){start:Nat}(x:α){xs:List α}(h:start<xs.length)(hh:HeapAt lt (start+1) xs):HeapAt lt start (F7 lt start x xs):=by
 obtain⟨g1,g2,g3⟩:=KL o start start xs h .refl (fun k u v hu hv h0 hs hk hkp=>hh k u v hu hv h0 (by exact Nat.lt_of_le_of_ne hs (Ne.symm hkp))) (fun k u v O O O hs=>absurd hs (Nat.lt_irrefl _))
 obtain⟨p1,p2,p3⟩:=Hl (lt:=lt) x start xs h
 unfold F7
 refine FX o start x _ _ (by simp only[List.length_set];exact p2) g1 ?_ ?_
 ·rw[List.set_set]
  intro k u v hu hv h0 hs hk
  rw[List.getElem?_set,if_neg (Ne.symm hk)]at hu
  have hkl:=(List.getElem?_eq_some_iff.mp hu).1
  by_cases hkp:(k - 1) / 2=(Dt lt start xs).1
  ·exact(Pz g2 hk hkl hkp).elim
  ·rw[List.getElem?_set,if_neg (Ne.symm hkp)]at hv
   exact g3 k u v hu hv h0 hs hk hkp
 ·intro k u v hu h0 hkp
  rw[List.getElem?_set,if_neg (by exact Py hkp h0)]at hu
  have hkl:=(List.getElem?_eq_some_iff.mp hu).1
  exact(Px hkp h0 hkl g2).elim
theorem I1(o:SWO lt)(x:α){xs:List α}(hh:HeapAt lt 0 xs):HeapAt lt 0 (D6 lt x xs):=by
 unfold D6
 have e:(xs++[x]).set xs.length x=xs++[x]:=by rw[List.set_append_right _ _ (Nat.le_refl _),Nat.sub_self];rfl
 refine FX o 0 x _ _ (by simp) (Desc.zero _) ?_ ?_
 ·rw[e]
  intro k u v hu hv h0 hs hk
  have hkl:=(List.getElem?_eq_some_iff.mp hu).1
  rw[List.length_append,List.length_singleton]at hkl
  rw[List.getElem?_append_left (by(first | exact Pw hkl hk | exact Pu hkl hk))]at hu hv
  exact hh k u v hu hv h0 hs
 ·intro k u v hu h0 hkp
  have hkl:=(List.getElem?_eq_some_iff.mp hu).1
  rw[List.length_append,List.length_singleton]at hkl
  exact(Pt hkp h0 hkl).elim
theorem HeapAt.root(o:SWO lt){xs:List α}(hh:HeapAt lt 0 xs){r:α}(hr:xs[0]?=some r):∀(k:Nat) (u:α),xs[k]?=some u→lt u r=false:=by
 intro k
 induction k using Nat.strongRecOn with
 | ind k ih =>
  intro u hu
  rcases Nat.eq_zero_or_pos k with h | h
  ·subst h;rw[hr]at hu;(replace hu:=Option.some.inj hu;subst hu);exact o.irr _
  ·have hkl:=(List.getElem?_eq_some_iff.mp hu).1
   have hv:xs[(k - 1) / 2]?=some xs[(k - 1) / 2]:=List.getElem?_eq_getElem (by exact GS hkl)
   exact o.ntr _ _ _ (hh k u _ hu hv h (Nat.zero_le _)) (ih _ (by exact M1 h) _ hv)
theorem HeapAt.nil(s:Nat):HeapAt lt s []:=fun k u v hu=>by simp at hu
theorem Ic{xs:List α}(h:HeapAt lt 0 xs)(x:α):HeapAt lt 1 (xs.set 0 x):=fun k u v hu hv h0 hs=>by
 rw[List.getElem?_set,if_neg (by(first | exact Nat.ne_of_lt h0 | exact Nat.ne_of_lt hs))]at hu hv
 exact h k u v hu hv h0 (by exact Nat.zero_le _)

variable {β:Type} {ltb:β→β→Bool}
theorem GN(f:α→β)(hf:∀ x y,ltb (f x) (f y)=lt x y)(start:Nat)(x:α)(pos:Nat)(xs:List α):B9 ltb start (f x) pos (xs.map f)=(B9 lt start x pos xs).map f:=by
 induction pos using Nat.strongRecOn generalizing xs with
 | ind pos ih =>
  rw[B5,B5]
  split
  ·rw[List.getElem?_map]
   cases xs[(pos - 1) / 2]? with
   | none=>simp[List.map_set]
   | some p =>
    simp only[Option.map_some,hf]
    split
    ·rw[← List.map_set];exact ih _ (by exact Ps (by assumption)) _
    ·rw[List.map_set]
  ·rw[List.map_set]
theorem Jy(f:α→β)(hf:∀ x y,ltb (f x) (f y)=lt x y)(xs:List α)(pos:Nat):AY ltb (xs.map f) pos=AY lt xs pos:=by
 unfold AY
 simp only[List.length_map,List.getElem?_map,List.getElem?_map]
 cases xs[2*pos+1]?<;>cases xs[2*pos+2]?<;>simp[hf]
theorem MO(f:α→β)(hf:∀ x y,ltb (f x) (f y)=lt x y)(pos:Nat)(xs:List α):Dt ltb pos (xs.map f)=((Dt lt pos xs).1,(Dt lt pos xs).2.map f):=by
 induction hn:xs.length - pos using Nat.strongRecOn generalizing xs pos with
 | ind n ih =>
  rw[Cz,Cz]
  by_cases h:2*pos+1<xs.length
  ·rw[dif_pos h,dif_pos (by rw[List.length_map];exact h),Jy f hf,List.getElem?_map]
   have hc:=Cd lt xs pos h
   cases xs[AY lt xs pos]? with
   | none=>rfl
   | some c =>
    simp only[Option.map_some]
    rw[← List.map_set]
    exact ih _ (by rw[List.length_set];exact KR hn hc) _ _ rfl
  ·rw[dif_neg h,dif_neg (by rw[List.length_map];exact h)]
theorem CS(f:α→β)(hf:∀ x y,ltb (f x) (f y)=lt x y)(start:Nat)(x:α)(xs:List α):F7 ltb start (f x) (xs.map f)=(F7 lt start x xs).map f:=by
 unfold F7
 rw[MO f hf]
 simp only
 simp only[← List.map_set,GN f hf]
theorem GW(f:α→β)(hf:∀ x y,ltb (f x) (f y)=lt x y)(x:α)(xs:List α):D6 ltb (f x) (xs.map f)=(D6 lt x xs).map f:=by
 unfold D6
 simp only[List.length_map,show xs.map f++[f x]=(xs++[x]).map f by simp,GN f hf]
end
end Mine
namespace Mine
noncomputable def Bi{α:Type}(lt:α→α→Bool)(x:α)(xs:List α)(lo hi:Nat):Nat :=
 WellFounded.fix (C:=fun O=>Nat) (measure fun p:Nat × Nat=>p.2 - p.1).wf (fun p ih =>
  if h:p.1<p.2 then
   match xs[(p.1+p.2) / 2]? with
   | some y=>if lt x y then ih (p.1,(p.1+p.2) / 2) (show(p.1+p.2) / 2 - p.1<p.2 - p.1 by exact HB h) else ih ((p.1+p.2) / 2+1,p.2) (show p.2 - ((p.1+p.2) / 2+1)<p.2 - p.1 by exact HA h)
   | none=>p.1
  else p.1) (lo,hi)
theorem DM{α:Type}(lt:α→α→Bool)(x:α)(xs:List α)(lo hi:Nat):Bi lt x xs lo hi =
 if h:lo<hi then
  match xs[(lo+hi) / 2]? with
  | some y=>if lt x y then Bi lt x xs lo ((lo+hi) / 2) else Bi lt x xs ((lo+hi) / 2+1) hi
  | none=>lo
 else lo:=WellFounded.fix_eq _ _ _
noncomputable def Cw(K:Frag)(a:Addr):List Value:=match K.lookup a with
 | some ⟨_,_,.seq vs _,_⟩=>vs.toList
 | _=>[]
set_option tactic.hygienic true in
theorem Jd{α:Type}(lt:α→α→Bool)(x:α)(xs:List α)(lo hi:Nat)(h:lo≤hi):lo≤Bi lt x xs lo hi∧Bi lt x xs lo hi≤hi:=by
 induction hn:hi - lo using Nat.strongRecOn generalizing lo hi with
 | ind n ih =>
  rw[DM]
  split
  ·rename_i hlt
   split
   ·split
    ·have:=ih ((lo+hi) / 2 - lo) (by exact G9 hn hlt) lo ((lo+hi) / 2) (by exact EX hlt) rfl;exact LA this
    ·have:=ih (hi - ((lo+hi) / 2+1)) (by exact EW hn hlt) ((lo+hi) / 2+1) hi (by exact EV hlt) rfl;exact K9 this
   ·exact⟨Nat.le_refl _,Nat.le_of_lt hlt⟩
  ·exact K8 h (by assumption)

noncomputable def Bz{α:Type}(lt:α→α→Bool)(x:α)(xs:List α)(lo hi:Nat):Nat :=
 WellFounded.fix (C:=fun O=>Nat) (measure fun p:Nat × Nat=>p.2 - p.1).wf (fun p ih =>
  if h:p.1<p.2 then
   match xs[(p.1+p.2) / 2]? with
   | some y=>if lt y x then ih ((p.1+p.2) / 2+1,p.2) (show p.2 - ((p.1+p.2) / 2+1)<p.2 - p.1 by exact HA h) else ih (p.1,(p.1+p.2) / 2) (show(p.1+p.2) / 2 - p.1<p.2 - p.1 by exact HB h)
   | none=>p.1
  else p.1) (lo,hi)
theorem DN{α:Type}(lt:α→α→Bool)(x:α)(xs:List α)(lo hi:Nat):Bz lt x xs lo hi =
 if h:lo<hi then
  match xs[(lo+hi) / 2]? with
  | some y=>if lt y x then Bz lt x xs ((lo+hi) / 2+1) hi else Bz lt x xs lo ((lo+hi) / 2)
  | none=>lo
 else lo:=WellFounded.fix_eq _ _ _
set_option tactic.hygienic true in
theorem Mp{α:Type}(lt:α→α→Bool)(x:α)(xs:List α)(lo hi:Nat)(h:lo≤hi):lo≤Bz lt x xs lo hi∧Bz lt x xs lo hi≤hi:=by
 induction hn:hi - lo using Nat.strongRecOn generalizing lo hi with
 | ind n ih =>
  rw[DN]
  split
  ·rename_i hlt
   split
   ·split
    ·have:=ih (hi - ((lo+hi) / 2+1)) (by exact EW hn hlt) ((lo+hi) / 2+1) hi (by exact EV hlt) rfl;exact K9 this
    ·have:=ih ((lo+hi) / 2 - lo) (by exact G9 hn hlt) lo ((lo+hi) / 2) (by exact EX hlt) rfl;exact LA this
   ·exact⟨Nat.le_refl _,Nat.le_of_lt hlt⟩
  ·exact K8 h (by assumption)

noncomputable def GD{α:Type}(lt:α→α→Bool)(x:α)(xs:List α):List α:=xs.take (Bi lt x xs 0 xs.length)++x::xs.drop (Bi lt x xs 0 xs.length)

section
variable {α:Type} {lt:α→α→Bool}
set_option tactic.hygienic true in
theorem J1(o:SWO lt)(x:α){xs:List α}(hs:Srt lt xs)(lo hi:Nat)(hle:lo≤hi)(hlen:hi≤xs.length)(h1:∀ i y,xs[i]?=some y→i<lo→lt x y=false)(h2:∀ i y,xs[i]?=some y→hi≤i→lt x y=true) :
  (∀ i y,xs[i]?=some y→i<Bi lt x xs lo hi→lt x y=false)∧(∀ i y,xs[i]?=some y→Bi lt x xs lo hi≤i→lt x y=true):=by
 induction hn:hi - lo using Nat.strongRecOn generalizing lo hi with
 | ind n ih =>
  have srt:∀ i j u v,xs[i]?=some u→xs[j]?=some v→i≤j→lt v u=false:=fun i j u v hu hv hij=>by
   rcases Nat.lt_or_eq_of_le hij with h' | h'
   ·obtain⟨hi',rfl⟩:=List.getElem?_eq_some_iff.mp hu
    obtain⟨hj',rfl⟩:=List.getElem?_eq_some_iff.mp hv
    exact List.pairwise_iff_getElem.mp hs i j hi' hj' h'
   ·subst h';rw[hu]at hv;(replace hv:=Option.some.inj hv;subst hv);exact o.irr _
  rw[DM]
  split
  ·rename_i hlt
   have hm:xs[(lo+hi) / 2]?=some xs[(lo+hi) / 2]:=List.getElem?_eq_getElem (by exact G8 hlt hlen)
   rw[hm]
   simp only
   split
   ·rename_i hc
    exact ih ((lo+hi) / 2 - lo) (by exact G9 hn hlt) lo ((lo+hi) / 2) (by exact EX hlt) (by exact G7 hlt hlen) h1 (fun i y hy hi'=>o.lt_le hc (srt _ _ _ _ hm hy hi')) rfl
   ·rename_i hc
    exact ih (hi - ((lo+hi) / 2+1)) (by exact EW hn hlt) ((lo+hi) / 2+1) hi (by exact EV hlt) hlen (fun i y hy hi'=>o.ntr _ _ _ (by simpa using hc) (srt _ _ _ _ hy hm (by exact Nat.le_of_lt_succ hi'))) h2 rfl
  ·rename_i hlt
   have:lo=hi:=by exact Nat.le_antisymm hle (Nat.not_lt.mp hlt)
   subst this;exact⟨h1,h2⟩
set_option tactic.hygienic true in
theorem J2(o:SWO lt)(x:α){xs:List α}(hs:Srt lt xs)(lo hi:Nat)(hle:lo≤hi)(hlen:hi≤xs.length)(h1:∀ i y,xs[i]?=some y→i<lo→lt y x=true)(h2:∀ i y,xs[i]?=some y→hi≤i→lt y x=false) :
  (∀ i y,xs[i]?=some y→i<Bz lt x xs lo hi→lt y x=true)∧(∀ i y,xs[i]?=some y→Bz lt x xs lo hi≤i→lt y x=false):=by
 induction hn:hi - lo using Nat.strongRecOn generalizing lo hi with
 | ind n ih =>
  have srt:∀ i j u v,xs[i]?=some u→xs[j]?=some v→i≤j→lt v u=false:=fun i j u v hu hv hij=>by
   rcases Nat.lt_or_eq_of_le hij with h' | h'
   ·obtain⟨hi',rfl⟩:=List.getElem?_eq_some_iff.mp hu
    obtain⟨hj',rfl⟩:=List.getElem?_eq_some_iff.mp hv
    exact List.pairwise_iff_getElem.mp hs i j hi' hj' h'
   ·subst h';rw[hu]at hv;(replace hv:=Option.some.inj hv;subst hv);exact o.irr _
  rw[DN]
  split
  ·rename_i hlt
   have hm:xs[(lo+hi) / 2]?=some xs[(lo+hi) / 2]:=List.getElem?_eq_getElem (by exact G8 hlt hlen)
   rw[hm]
   simp only
   split
   ·rename_i hc
    exact ih (hi - ((lo+hi) / 2+1)) (by exact EW hn hlt) ((lo+hi) / 2+1) hi (by exact EV hlt) hlen (fun i y hy hi'=>o.le_lt (srt _ _ _ _ hy hm (by exact Nat.le_of_lt_succ hi')) hc) h2 rfl
   ·rename_i hc
    exact ih ((lo+hi) / 2 - lo) (by exact G9 hn hlt) lo ((lo+hi) / 2) (by exact EX hlt) (by exact G7 hlt hlen) h1 (fun i y hy hi'=>o.ntr _ _ _ (srt _ _ _ _ hm hy hi') (by simpa using hc)) rfl
  ·rename_i hlt
   have:lo=hi:=by exact Nat.le_antisymm hle (Nat.not_lt.mp hlt)
   subst this;exact⟨h1,h2⟩

theorem IZ(o:SWO lt)(x:α){xs:List α}(hs:Srt lt xs):Bi lt x xs 0 xs.length≤xs.length∧(∀ y∈xs.take (Bi lt x xs 0 xs.length),lt x y=false)∧(∀ y∈xs.drop (Bi lt x xs 0 xs.length),lt x y=true):=by
 obtain⟨h1,h2⟩:=J1 o x hs 0 xs.length (Nat.zero_le _) (Nat.le_refl _) (fun i y O h=>absurd h (Nat.not_lt_zero _)) (fun i y hy h=>absurd (List.getElem?_eq_some_iff.mp hy).1 (Nat.not_lt.mpr h))
 refine⟨(Jd lt x xs 0 xs.length (Nat.zero_le _)).2,fun y hy=>?_,fun y hy=>?_⟩
 ·obtain⟨i,hi⟩:=List.mem_iff_getElem?.mp hy
  rw[List.getElem?_take]at hi
  split at hi
  ·exact h1 i y hi (by assumption)
  ·injection hi
 ·obtain⟨i,hi⟩:=List.mem_iff_getElem?.mp hy
  rw[List.getElem?_drop]at hi
  exact h2 _ y hi (Nat.le_add_right ..)
theorem Lk(o:SWO lt)(x:α){xs:List α}(hs:Srt lt xs):Bz lt x xs 0 xs.length≤xs.length∧(∀ y∈xs.take (Bz lt x xs 0 xs.length),lt y x=true)∧(∀ y∈xs.drop (Bz lt x xs 0 xs.length),lt y x=false):=by
 obtain⟨h1,h2⟩:=J2 o x hs 0 xs.length (Nat.zero_le _) (Nat.le_refl _) (fun i y O h=>absurd h (Nat.not_lt_zero _)) (fun i y hy h=>absurd (List.getElem?_eq_some_iff.mp hy).1 (Nat.not_lt.mpr h))
 refine⟨(Mp lt x xs 0 xs.length (Nat.zero_le _)).2,fun y hy=>?_,fun y hy=>?_⟩
 ·obtain⟨i,hi⟩:=List.mem_iff_getElem?.mp hy
  rw[List.getElem?_take]at hi
  split at hi
  ·exact h1 i y hi (by assumption)
  ·injection hi
 ·obtain⟨i,hi⟩:=List.mem_iff_getElem?.mp hy
  rw[List.getElem?_drop]at hi
  exact h2 _ y hi (Nat.le_add_right ..)
theorem Ju(x:α)(xs:List α):(GD lt x xs).Perm (x::xs):=by
 unfold GD
 refine List.perm_middle.trans ?_
 rw[List.take_append_drop]
theorem LK(o:SWO lt)(x:α){xs:List α}(hs:Srt lt xs):Srt lt (GD lt x xs):=by
 obtain⟨_,h1,h2⟩:=IZ o x hs
 unfold GD
 have hs':=hs
 rw[← List.take_append_drop (Bi lt x xs 0 xs.length) xs]at hs'
 obtain⟨s1,s2,s3⟩:=Srt.append.mp hs'
 refine Srt.append.mpr ⟨s1,List.pairwise_cons.mpr ⟨fun y hy=>o.asym _ _ (h2 y hy),s2⟩,fun y hy z hz=>?_⟩
 rcases List.mem_cons.mp hz with rfl | hz
 ·exact h1 y hy
 ·exact s3 y hy z hz
variable {β:Type} {ltb:β→β→Bool}
theorem IY(f:α→β)(hf:∀ x y,ltb (f x) (f y)=lt x y)(x:α)(xs:List α)(lo hi:Nat):Bi ltb (f x) (xs.map f) lo hi=Bi lt x xs lo hi:=by
 induction hn:hi - lo using Nat.strongRecOn generalizing lo hi with
 | ind n ih =>
  conv=>lhs;rw[DM]
  conv=>rhs;rw[DM]
  split
  ·simp only[List.getElem?_map]
   cases xs[(lo+hi) / 2]? with
   | none=>rfl
   | some y =>
    simp only[Option.map_some,hf]
    rw[ih _ (by exact K7 hn (by assumption)) lo ((lo+hi) / 2) rfl,ih _ (by exact EW hn (by assumption)) ((lo+hi) / 2+1) hi rfl]
  ·rfl
theorem Lj(f:α→β)(hf:∀ x y,ltb (f x) (f y)=lt x y)(x:α)(xs:List α)(lo hi:Nat):Bz ltb (f x) (xs.map f) lo hi=Bz lt x xs lo hi:=by
 induction hn:hi - lo using Nat.strongRecOn generalizing lo hi with
 | ind n ih =>
  conv=>lhs;rw[DN]
  conv=>rhs;rw[DN]
  split
  ·simp only[List.getElem?_map]
   cases xs[(lo+hi) / 2]? with
   | none=>rfl
   | some y =>
    simp only[Option.map_some,hf]
    rw[ih _ (by exact K7 hn (by assumption)) lo ((lo+hi) / 2) rfl,ih _ (by exact EW hn (by assumption)) ((lo+hi) / 2+1) hi rfl]
  ·rfl
theorem LL(f:α→β)(hf:∀ x y,ltb (f x) (f y)=lt x y)(x:α)(xs:List α):GD ltb (f x) (xs.map f)=(GD lt x xs).map f:=by
 unfold GD
 simp only[List.length_map,IY f hf,List.map_append,List.map_cons,List.map_take,List.map_drop]
end
end Mine
namespace Mine
variable [zz:Zz]
noncomputable def Mc:PV→PV→Bool
 | .int a,.int b=>decide (a<b)
 | _,_=>false
noncomputable def SY(p:PV):Prop:=∃ i,p=.int i
noncomputable def JG(p:PV):Prop:=∃ ns:List Int,p=.tup (ns.map .int)
theorem QL(G:Cx):HY G SY Mc:=by
 rintro _ _ ⟨i,rfl⟩ ⟨j,rfl⟩ A H Q hu h
 exact Bf h
noncomputable def CC(x y:Int):Bool:=decide (x<y)
omit [Zz] in
theorem ltZ_swo:SWO CC:=JX
end Mine
namespace Mine
theorem Ht{α:Type}(xs:List α)(lo hi:Option Int):Dy xs lo hi none=(xs.drop (lo.elim 0 (clipAt xs.length))).take (hi.elim xs.length (clipAt xs.length) - lo.elim 0 (clipAt xs.length)):=by
 unfold Dy
 rw[sliceBounds_plain]
 simp only[sliceRange_one]
 have:=pick_run xs.toArray (lo.elim 0 (clipAt xs.length)) (hi.elim xs.length (clipAt xs.length) - lo.elim 0 (clipAt xs.length))
 simpa using this
theorem Ci{α:Type}(xs:List α)(b:Nat):Dy xs none (some (b:Int)) none=xs.take b:=by
 rw[Ht]
 simp only[Option.elim,clipAt_nat,List.drop_zero,Nat.sub_zero]
 rcases Nat.le_total b xs.length with h | h
 ·rw[Nat.min_eq_left h]
 ·rw[Nat.min_eq_right h,List.take_of_length_le (Nat.le_refl _),List.take_of_length_le h]

end Mine
namespace Mine
variable [zz:Zz]
section
variable {G:Cx} {A:Around} {F:Fx} {σ:Loc} {H:AH} {Q:PV→AH→Prop}


noncomputable def QQ(G:Cx)(F:Fx)(kws:List Keyword)(σ:Loc)(H:AH)(Q:List PV→AH→Prop):Prop :=
 ∀ s pos,OkH G H s→LR G F σ s.heap→wpAny (model G.prog G.w) F.A (evalAll ((backToKw pos (keywordEach kws F.env)).map (·.2))) (PostL G H s Q) Bb s
theorem Cp{Q:List PV→AH→Prop}(h:Q [] H):QQ G F [] σ H Q:=fun s pos ok O=>kws_nil ⟨[],H,rfl,ok,Kp.refl H s,h⟩
theorem Bq{name:Str}{value:Expr}{kp:Pos}{rest:List Keyword}{Q:List PV→AH→Prop}(h:Ev G F value σ H (fun p H1=>QQ G F rest σ H1 (fun ps H2=>Q (p::ps) H2))) :
  QQ G F (⟨some name,value,kp⟩::rest) σ H Q:=fun s pos ok lr =>
 kws_cons (wpAny_mono (h s ok lr) (fun v s1 zz2=>by obtain⟨p,H1,hv,ok1,k1,hq⟩:=zz2;exact wpAny_mono (hq s1 pos ok1 (lr.kp ok k1)) (fun vs s2 zz2=>by obtain⟨ps,H2,hvs,ok2,k2,hq2⟩:=zz2;exact⟨p::ps,H2,⟨v,vs,rfl,k2.vr ok1 hv,hvs⟩,ok2,k1.trans k2,hq2⟩) fun O O x=>x) fun O O x=>x)


noncomputable def Rw(G:Cx)(F:Fx)(σ:Loc)(f:List Value→Sem Value)(ps:List PV)(H:AH)(Q:PV→AH→Prop):Prop :=
 ∀ s vs,OkH G H s→LR G F σ s.heap→VRs s.heap ps vs→ME G F.A (f vs) H s Q
theorem Jf{f:List Value→Sem Value}{ps:List PV}(h:OpL G F.A f ps H Q):Rw G F σ f ps H Q:=fun s vs ok O hv=>h s vs ok hv


set_option tactic.hygienic true in
theorem Lz{K:Frag}{f:Str}{np pos:Pos}{fa:Addr}{e:Expr}{es:List Expr}{kws:List Keyword}(names:List Str)(hK:G.K=K)(hk:F.env.kindOf f=some .globalImplicit)(hf:nsIn K mainGlobals f=some (some (.ref fa)))(ht:DK K fa=true)
  (h:Gl G F (e::es) σ H (fun ps H1=>QQ G F kws σ H1 (fun ks H2=>Rw G F σ (fun vs=>call (.ref fa) (vs.take ps.length) (names.zip (vs.drop ps.length))) (ps++ks) H2 Q)))
  (he:starEach (e::es) F.env=(false,eval e F.env)::starEach es F.env:=by rfl)
  (hall:(backToKw pos (keywordEach kws F.env)).all (·.1.isSome)=true:=by rfl) (hnm:(backToKw pos (keywordEach kws F.env)).filterMap (·.1)=names:=by rfl) :
  Ev G F (.Call (.Name f np) (e::es) kws pos) σ H Q:=by
 subst hK
 intro s ok lr
 obtain⟨fo,fd,hfo,hfd⟩:∃ fo fd,G.base.get? fa=some fo∧fo.data=.func fd:=by
  unfold DK at ht
  split at ht
  ·rename_i c d fd sl hl;exact⟨_,fd,G.kin _ _ hl,rfl⟩
  ·injection ht
 refine wpAny_Call_Name_kw (wpAny_mono (Ej (Q:=fun p H1=>p=.ref fa∧H1=H) hk (G.mg_of hf) ⟨rfl,rfl⟩ s ok lr) (fun v s1 zz2=>zz2.on fun p H1 hv ok1 k1 zz2_5=>zz2_5.elim fun hp hH=>?_) fun O O x=>x)
 subst hp;subst hH
 rw[show v=.ref fa from hv]
 have lr1:=lr.kp ok k1
 refine callWith_function_kw (o:=fo) (fd:=fd) ?_
 have hsp:backTo pos (starEach (e::es) F.env)=(false,eval e F.env)::backTo pos (starEach es F.env):=by rw[he];rfl
 have h1:=h s1 pos ok1 lr1
 rw[hsp]at h1 ⊢
 refine evalArgs_kw hall (wpAny_mono h1 (fun vs s2 zz2=>zz2.on fun ps H2 hvs ok2 k2 hq=>?_) fun O O x=>x)
 have lr2:=lr1.kp ok1 k2
 refine wpAny_mono (hq s2 pos ok2 lr2) (fun ks s3 zz2=>zz2.on fun qs H3 hks ok3 k3 hq3=>⟨⟨ok3.keep _ _ hfo,hfd⟩,?_⟩) fun O O x=>x
 have hv2:=(k3.vrs ok2 hvs).append hks
 have:=hq3 s3 (vs++ks) ok3 (lr2.kp ok2 k3) hv2
 rw[← hvs.length]at this
 simp only[List.take_left,List.drop_left]at this
 rw[hnm]
 exact wpAny_mono this (fun O O x=>((x.trans k3).trans k2).trans k1) fun O O x=>x


theorem L4{K:Frag}{f:Str}{np pos:Pos}(id:String){e:Expr}{es:List Expr}{kws:List Keyword}(names:List Str)(hK:G.K=K)(hk:F.env.kindOf f=some .globalImplicit)(hf:nsIn K mainGlobals f=some none)(hb:bootBuiltins f=some (.builtin id))(hn:f ≠ "__name__")
  (h:Gl G F (e::es) σ H (fun ps H1=>QQ G F kws σ H1 (fun ks H2=>Rw G F σ (fun vs=>call (.builtin id) (vs.take ps.length) (names.zip (vs.drop ps.length))) (ps++ks) H2 Q)))
  (he:backTo pos (starEach (e::es) F.env)=(false,eval e F.env)::backTo pos (starEach es F.env):=by rfl) (hplain:(backTo pos (starEach (e::es) F.env)).any (·.1)=false:=by rfl)
  (hall:(backToKw pos (keywordEach kws F.env)).all (·.1.isSome)=true:=by rfl) (hkw:(backToKw pos (keywordEach kws F.env)).any (·.1.isNone)=false:=by rfl) (hnm:(backToKw pos (keywordEach kws F.env)).filterMap (·.1)=names:=by rfl) :
  Ev G F (.Call (.Name f np) (e::es) kws pos) σ H Q:=by
 subst hK
 intro s ok lr
 refine wpAny_Call_Name_kw (wpAny_mono (BX (Q:=fun p H1=>p=.val (.builtin id)∧H1=H) hk (G.mg_of hf) hb hn ⟨rfl,rfl⟩ s ok lr) (fun v s1 zz2=>zz2.on fun p H1 hv ok1 k1 zz2_5=>zz2_5.elim fun hp hH=>?_) fun O O x=>x)
 subst hp;subst hH
 rw[show v=.builtin id from hv]
 have lr1:=lr.kp ok k1
 refine callWith_kw (wpAny_mono (h s1 pos ok1 lr1) (fun vs s2 zz2=>zz2.on fun ps H2 hvs ok2 k2 hq=>?_) fun O O x=>x) he hplain hall hkw
 have lr2:=lr1.kp ok1 k2
 refine wpAny_mono (hq s2 pos ok2 lr2) (fun ks s3 zz2=>zz2.on fun qs H3 hks ok3 k3 hq3=>?_) fun O O x=>x
 have hv2:=(k3.vrs ok2 hvs).append hks
 have:=hq3 s3 (vs++ks) ok3 (lr2.kp ok2 k3) hv2
 rw[← hvs.length]at this
 simp only[List.take_left,List.drop_left]at this
 rw[hnm]
 exact wpAny_mono this (fun O O x=>((x.trans k3).trans k2).trans k1) fun O O x=>x


noncomputable def OpC(G:Cx)(A:Around)(p:PV)(ps:List PV)(H:AH)(Q:PV→AH→Prop):Prop :=
 ∀ s v vs,OkH G H s→VR s.heap p v→VRs s.heap ps vs→ME G A (call v vs) H s Q

theorem EH{x:Str}{np pos:Pos}{o:Obj}{e:Expr}{es:List Expr}(hx:σ x=some (.fnc o))
  (h:Gl G F (e::es) σ H (fun ps H1=>OpC G F.A (.fnc o) ps H1 Q)) (he:starEach (e::es) F.env=(false,eval e F.env)::starEach es F.env:=by rfl) :
  Ev G F (.Call (.Name x np) (e::es) [] pos) σ H Q:=by
 intro s ok lr
 refine wpAny_Call_NameR (wpAny_mono (BT (Q:=fun p H1=>p=.fnc o∧H1=H) hx ⟨rfl,rfl⟩ s ok lr) (fun v s1 zz2=>zz2.on fun p H1 hv ok1 k1 zz2_5=>zz2_5.elim fun hp hH=>?_) fun O O x=>x)
 subst hp;subst hH
 refine AJ fun WW9 hW9=>?_
 obtain⟨a,fd,c,oc,cvs,t,eq9_0,ha,hc,hd,_⟩:=id hv
 refine hW9 ?_
 clear hW9 WW9
 subst eq9_0
 refine callWith_def hd (wpAny_mono (h s1 pos ok1 (lr.kp ok k1)) (fun vs s2 zz2=>zz2.on fun ps H2 hvs ok2 k2 hq=>⟨?_,?_⟩) fun O O x=>x) he
 ·refine AJ fun WW9 hW9=>?_
  obtain⟨a',_,_,_,_,_,e',ha',_⟩:=k2.vr ok1 hv
  refine hW9 ?_
  clear hW9 WW9
  injection e' with e';subst e';exact ha'
 ·exact wpAny_mono (hq s2 _ vs ok2 (k2.vr ok1 hv) hvs) (fun O O x=>(x.trans k2).trans k1) fun O O x=>x



noncomputable def Cx.with(G:Cx)(D:Addr→Obj→Prop)(dD:∀ b o,D b o→G.base.get? b=none∧DC o):Cx:={ G with D:=D,dD:=dD }
structure L7 (G:Cx) (F:Fx) (σ:Loc) (D:Addr→Obj→Prop):Prop where
 old:∀ b o,G.D b o→D b o
 loc:∃ o,D F.env.locals o
 cell:∀ x,F.env.kindOf x=some .cell→∃ c,F.env.cells.lookup x=some c∧(F.W c→∃ o v,D c o∧o.data=.cell v∧∀ a,σ x=some (.ref a)→v=some (.ref a))
theorem under{f:List Value→Sem Value}{ps:List PV}(h:∀ D dD,L7 G F σ D→OpL (G.with D dD) F.A f ps H Q):Rw G F σ f ps H Q:=by
 intro s vs ok lr hvs
 have dD:∀ b o,(G.D b o∨(F.W b∧s.heap.get? b=some o))→G.base.get? b=none∧DC o:=fun b o hb=>by
  rcases hb with hb | ⟨hw,ho⟩
  ·exact G.dD b o hb
  ·refine AJ fun WW9 hW9=>?_
   obtain⟨o',ho',hd⟩:=lr.odd b hw
   refine hW9 ?_
   clear hW9 WW9
   rw[ho']at ho;(replace ho:=Option.some.inj ho;subst ho);exact⟨(lr.own b hw).1,hd⟩
 have key:=h (fun b o=>G.D b o∨(F.W b∧s.heap.get? b=some o)) dD ⟨fun O O h=>.inl h,?_,fun x hk=>?_⟩ s vs ⟨ok.keep,ok.hr,ok.gens,fun b o hb=>?_,ok.tab⟩ hvs
 ·refine wpAny_mono key (fun v s' zz2=>by obtain⟨p,H',hv,ok',k',hq⟩:=zz2;exact⟨p,H',hv,⟨ok'.keep,ok'.hr,ok'.gens,fun b o hb=>ok'.dat b o (.inl hb),ok'.tab⟩,k',hq⟩) fun O O x=>x
 ·obtain⟨o,ho,_⟩:=lr.odd _ lr.wloc;exact⟨o,.inr ⟨lr.wloc,ho⟩⟩
 ·refine AJ fun WW9 hW9=>?_
  obtain⟨c',v₀,h1,⟨o,ho,hd⟩,h3⟩:=lr.cell x (.inl hk)
  refine hW9 ?_
  clear hW9 WW9
  refine⟨c',h1,fun hw=>⟨o,v₀,.inr ⟨hw,ho⟩,hd,fun a ha=>?_⟩⟩
  refine AJ fun WW9 hW9=>?_
  obtain⟨v,eq9_0,hv⟩:=h3 _ ha
  refine hW9 ?_
  clear hW9 WW9
  subst eq9_0
  rw[show v=.ref a from hv]
 ·rcases hb with hb | ⟨hw,ho⟩
  ·exact ok.dat b o hb
  ·exact⟨o,ho,rfl⟩


noncomputable def BM(G:Cx):Prop:=∃ bm o,G.mg "__builtins__" = some (.ref bm)∧bm≠builtinsNs∧bm≠mainGlobals∧G.base.get? bm=some o∧o.cls=.type "module" ∧ o.dict=some builtinsNs∧o.data=.plain
omit [Zz] in
set_option tactic.hygienic true in
theorem GF{pos pos':Pos}{c cv:Value}:∀(l:List Value),TriplesOk l→codeAmong pos' (l++[rawInt pos.line,rawInt pos.col,c])=some cv →
  codeAmong pos' l=some cv∨(pos'.line=pos.line∧pos'.col=pos.col∧cv=c):=by
 intro l h
 fun_induction TriplesOk l with
 | case1 =>
  intro e
  dsimp only[List.nil_append,codeAmong,rawInt]at e
  split at e
  ·rename_i hc
   simp only[Bool.and_eq_true,beq_iff_eq]at hc
   (replace e:=Option.some.inj e;subst e)
   exact .inr ⟨by exact Pr hc,by exact Pq hc,rfl⟩
  ·simp at e
 | case2 a t b u x rest ih =>
  intro e
  dsimp only[List.cons_append,codeAmong]at e ⊢
  split at e
  ·rename_i hc;rw[if_pos hc];exact .inl e
  ·rename_i hc;rw[if_neg hc];exact ih h e
 | case3 l h1 h2=>exact h.elim

theorem Gk{params:Arguments}{body:Expr}{scope:Scope}{pos:Pos}{c P:Addr}(hsc:Ao scope=true)(hfree:By F scope)(hcode:F.env.code=.ref c)(hC:CodeHd G.base c P)(hT:G.T P)
  (hq:G.tq P pos.line pos.col=F.env.qual ++ "<lambda>") (hbm:BM G)
  (h:∀ c' ctv,Q (.fnc (kla_obj "<lambda>" (F.env.qual ++ "<lambda>") params body scope (BF F.env scope.names []) ((G.mg "__name__").getD .none) c' ctv)) H)
  (hdef:defaultsOf params F.env=([],[])):Ev G F (.Lambda params body scope pos) σ H Q:=by
 intro s ok lr
 refine kla_eval hdef ?_
 have hcl:=D9 hsc hfree lr
 refine AJ fun WW9 hW9=>?_
 obtain⟨ps,hP,ht,hcod⟩:=ok.tab.2 P hT
 refine hW9 ?_
 clear hW9 WW9
 have hbP:=G.dT P hT
 have hg:s.heap.Ns mainGlobals G.mg:=G.g.keeps ok.keep
 have hgP:mainGlobals≠P:=fun q=>by
  refine AJ fun WW9 hW9=>?_
  obtain⟨o,es,ep,e,_⟩:=G.g
  refine hW9 ?_
  clear hW9 WW9
  rw[q,hbP]at e;injection e
 refine AJ fun WW9 hW9=>?_
 obtain⟨bm,ob,b1,b2,b3,b4,b5⟩:=hbm
 refine hW9 ?_
 clear hW9 WW9
 have hb:s.heap.BuiltinsAt G.mg P:=⟨bm,ob,b1,b2,b3,(fun q=>by rw[q,hbP]at b4;injection b4),ok.keep _ _ b4,b5⟩
 cases hcm:codeAmong pos ps.toList with
 | none =>
  refine kla_makeFunction hcl lr.glob hg hcode (hC.keeps ok.keep) hP ht hcm hgP hb fun c' ctv h' tk hx hge hlt hrec htb=>?_
  have nP:∀ b o,s.heap.get? b=some o→¬ Tab o→b≠P:=fun b o e hn q=>by subst q;rw[hP]at e;(replace e:=Option.some.inj e;subst e);exact hn ⟨ps,rfl,ht⟩
  have kk:∀ b o,s.heap.get? b=some o→¬ Tab o→(h'.push (kla_obj "<lambda>" (F.env.qual ++ "<lambda>") params body scope (BF F.env scope.names []) ((G.mg "__name__").getD .none) c' ctv)).get? b=some o :=
   fun b o e hn=>Heap.get?_push_of_some _ (hx b o (nP b o e hn) e)
  have tnl:∀{o:Obj},FK o∨Bp o→¬ Tab o:=fun h ht=>Soft.not_solid (.inr ht) h
  have ht':TriplesOk (ps++#[rawInt pos.line,rawInt pos.col,.ref c']).toList:=by
   rw[Array.toList_append];exact TriplesOk_snoc _ _ _ _ ht
  refine AJ fun WW9 hW9=>?_
  obtain⟨c2,oc,cvs,t,e2,hoc,JZ,hvc⟩:=id hrec
  refine hW9 ?_
  clear hW9 WW9
  injection e2 with e2;subst e2
  refine⟨.fnc _,H,⟨_,_,c',oc,cvs,t,rfl,Heap.get?_push_size _ rfl,rfl,rfl,rfl,Heap.get?_push_of_some _ hoc,JZ,hvc⟩,
   ⟨fun b o e=>Heap.get?_push_of_some _ (hx b o (fun q=>by rw[q,hbP]at e;injection e) (ok.keep b o e)),ok.hr.other fun b o e hs=>kk b o e (tnl hs),ok.gens,
    ok.dat.dc fun b o hd O e=>kk b o e fun ht=>ht.not_dc hd,fun b hb=>let ⟨o,h1,h2⟩:=ok.tab.1 b hb;⟨o,kk _ _ h1 (fun ht=>by obtain⟨_,rfl,_⟩:=ht;cases h2.1),h2⟩,fun P' hP'=>?_⟩,
   ⟨rfl,fun b o e O=>?_,DomLe.refl _ _⟩,h c' ctv⟩
  ·by_cases q:P'=P
   ·subst q
    refine⟨_,Heap.get?_push_of_some _ htb,ht',fun pos' cv e=>?_⟩
    rw[Array.toList_append]at e
    rcases GF _ ht e with e | ⟨e1,e2,rfl⟩
    ·refine AJ fun WW9 hW9=>?_
     obtain⟨c3,o3,vs3,t3,g1,g2,g3,g4⟩:=hcod pos' cv e
     refine hW9 ?_
     clear hW9 WW9
     exact⟨c3,o3,vs3,t3,g1,kk _ _ g2 (tnl (.inl (.inr ⟨vs3,_,_,g3,g4⟩))),g3,g4⟩
    ·rw[e1,e2,hq]
     exact⟨c',oc,cvs,t,rfl,Heap.get?_push_of_some _ hoc,JZ,hvc⟩
   ·refine AJ fun WW9 hW9=>?_
    obtain⟨ps',g1,g2,g3⟩:=ok.tab.2 P' hP'
    refine hW9 ?_
    clear hW9 WW9
    refine⟨ps',Heap.get?_push_of_some _ (hx _ _ q g1),g2,fun pos' cv e=>?_⟩
    refine AJ fun WW9 hW9=>?_
    obtain⟨c3,o3,vs3,t3,f1,f2,f3,f4⟩:=g3 pos' cv e
    refine hW9 ?_
    clear hW9 WW9
    exact⟨c3,o3,vs3,t3,f1,kk _ _ f2 (tnl (.inl (.inr ⟨vs3,_,_,f3,f4⟩))),f3,f4⟩
  ·by_cases q:b=P
   ·subst q;rw[hP]at e;(replace e:=Option.some.inj e;subst e)
    exact⟨_,Heap.get?_push_of_some _ htb,.inr (.inr ⟨⟨ps,rfl,ht⟩,⟨_,rfl,ht'⟩⟩)⟩
   ·exact .of (Heap.get?_push_of_some _ (hx b o q e))
 | some cv =>
  refine AJ fun WW9 hW9=>?_
  obtain⟨c3,o3,vs3,t3,eq9_0,g2,g3,g4⟩:=hcod pos cv hcm
  refine hW9 ?_
  clear hW9 WW9
  subst eq9_0
  refine kla_makeFunctionHit hcl lr.glob hg hcode (hC.keeps ok.keep) hP ht hcm hb fun ctv h' tk hk hsz=>?_
  have kk:∀ b o,s.heap.get? b=some o→(h'.push (kla_obj "<lambda>" (F.env.qual ++ "<lambda>") params body scope (BF F.env scope.names []) ((G.mg "__name__").getD .none) c3 ctv)).get? b=some o :=
   fun b o e=>Heap.get?_push_of_some _ (hk b o e)
  rw[hq]at g4
  exact⟨.fnc _,H,⟨_,_,c3,o3,vs3,t3,rfl,Heap.get?_push_size _ rfl,rfl,rfl,rfl,kk _ _ g2,g3,g4⟩,
   ⟨fun b o e=>kk b o (ok.keep b o e),ok.hr.other fun b o e O=>kk b o e,ok.gens,ok.dat.all kk,ok.tab.keep fun b o O e=>kk b o e⟩,⟨rfl,fun b o e O=>.of (kk b o e),DomLe.refl _ _⟩,h c3 ctv⟩
end
end Mine
namespace Mine
variable [zz:Zz]
section
variable {G:Cx} {A:Around} {F:Fx} {σ:Loc} {H:AH} {Q:PV→AH→Prop}

theorem DO{h:Heap}:∀(pb:List (Str × PV)) (bs:List (Str × Value)) (σ:Loc) (x:Str) (p:PV),BRel h pb bs→Av pb σ x=some p →
  (∃ v,bs.reverse.lookup x=some v∧VR h p v∧∃ q,(x,q)∈pb)∨(bs.reverse.lookup x=none∧σ x=some p)
 | [],bs,σ,x,p,e,hx=>by rw[show bs=[]from e];exact .inr ⟨rfl,hx⟩
 | (n,q)::r,_,σ,x,p,zp5,hx=>by
  obtain⟨v,bs,rfl,hv,hr⟩:=zp5
  rw[List.reverse_cons,List.lookup_append]
  rcases DO r bs _ x p hr hx with ⟨u,h1,h2,q',h3⟩ | ⟨h1,h2⟩
  ·rw[h1];exact .inl ⟨u,rfl,h2,q',List.mem_cons_of_mem _ h3⟩
  ·rw[h1]
   unfold Loc.set at h2
   by_cases hn:x=n
   ·subst hn;rw[if_pos rfl]at h2;(replace h2:=Option.some.inj h2;subst h2)
    exact .inl ⟨v,by simp,hv,q,List.mem_cons_self⟩
   ·rw[if_neg hn]at h2
    exact .inr ⟨by simp[List.lookup_cons,beq_eq_false_iff_ne.mpr hn],h2⟩


theorem Lh{o:Obj}{name qual:Str}{params:Arguments}{body:Expr}{scope:Scope}{clos:List (Str × Addr)}{pm ctv:Value}{c':Addr}{ps:List PV}{pb:List (Str × PV)}(σ₀:Loc)
  (ho:o=kla_obj name qual params body scope clos pm c' ctv) (hroom:A.depth<recursionLimit)
  (hsc:Ao scope=true) (hco:scope.isCoroutine=false) (hgen:scope.isGenerator=false) (hcell:∀ x∈scope.names,x.2≠.cell)
  (hpb:∀ x∈pb,scope.names.lookup x.1=some .local)
  (hbind:∀ h vs,VRs h ps vs→∃ bs,bindArgs (kla_fn name qual params body scope clos pm (.ref c') ctv) ⟨vs,[]⟩=pure bs∧∀ h',(∀ p v,VR h p v→VR h' p v)→BRel h' pb bs)
  (hfree:∀ x,scope.names.lookup x=some .free→∃ c o v,clos.lookup x=some c∧G.D c o∧o.data=.cell v∧∀ p,σ₀ x=some p→∃ a,p=.ref a∧v=some (.ref a))
  (hσ:∀ x p,σ₀ x=some p→scope.names.lookup x=some .free) (hap:clos.Pairwise fun x y=>x.2≠y.2)
  (h:∀ F:Fx,F.env.scope=scope→F.A=A.deeper F.env→Ev G F body (Av pb σ₀) H Q):OpC G A (.fnc o) ps H Q:=by
 rintro s _ vs ok ⟨a,fd,c,oc,cvs,t,rfl,ha,hc,hd,h1,h2,h3,h4⟩ hvs
 subst ho
 injection hd with hd
 subst hd
 have hk:=CH hsc
 refine AJ fun WW9 hW9=>?_
 obtain⟨bs,hpk,hbr⟩:=hbind s.heap vs hvs
 refine hW9 ?_
 clear hW9 WW9
 have hrel:BRel s.heap pb bs:=hbr _ fun O O h=>h
 refine wpAny_call (kla_callFunE hroom ha rfl hco hgen rfl ⟨c,oc,cvs,t,h1,h2,h3,h4⟩ ?_)
 rw[hpk]
 refine wpAny_pure (wpAny_newFunctionEnv hcell (fun x hx=>?_) (fun h₁ hns hsb=>⟨(G.nolimit.keeps ok.keep).fresh _ hsb,?_⟩) hk)
 ·obtain⟨p,hp⟩:=hrel.names x hx;exact hpb _ hp
 have hk₁:∀ b o,s.heap.get? b=some o→h₁.get? b=some o:=fun b o e=>hsb.extBut b o (Nat.ne_of_lt (Heap.lt_size e)) (Heap.get?_push_of_some _ e)
 have vr1:∀ p v,VR s.heap p v→VR h₁ p v:=fun p v hv=>VR.mono (fun b o O e=>hk₁ b o e) p v hv
 have hrel1:=hbr _ vr1
 have ok1:OkH G H { s with heap:=h₁,toks:=s.toks+bs.length }:=⟨fun b o e=>hk₁ b o (ok.keep b o e),ok.hr.other fun b o e O=>hk₁ b o e,ok.gens,ok.dat.all hk₁,ok.tab.keep fun b o O e=>hk₁ b o e⟩
 let env:Env:=newEnv scope s.heap.objs.size mainGlobals clos (qual ++ ".<locals>.") (some a) (.ref c') none builtinsNs
 have fr:∀ o,s.heap.get? s.heap.objs.size≠some o:=fun o e=>absurd (Heap.lt_size e) (Nat.lt_irrefl _)
 have lr1:LR G ⟨A.deeper env,env,fun b=>b=s.heap.objs.size⟩ (Av pb σ₀) h₁:=by
  refine⟨fun b hb=>⟨?_,fun o hD=>?_⟩,fun b hb=>?_,rfl,hk,?_,rfl,rfl,⟨_,hns,fun x p e hkx=>?_⟩,fun x p e=>?_,fun x hx=>?_,hap⟩
  ·subst hb
   cases e:G.base.get? s.heap.objs.size with
   | none=>rfl
   | some o=>exact absurd (ok.keep _ _ e) (fr o)
  ·subst hb;obtain⟨o',e,_⟩:=ok.dat _ _ hD;exact fr o' e
  ·subst hb;exact D4 hns
  ·unfold Ao at hsc;simp only[Bool.and_eq_true]at hsc;exact hsc.1.2
  ·rcases DO pb bs σ₀ x p hrel1 e with ⟨v,g1,g2,_⟩ | ⟨_,g2⟩
   ·exact⟨v,g1,g2⟩
   ·have:=hσ x p g2
    have hkx':scope.names.lookup x=some .local:=hkx
    rw[this]at hkx';cases hkx'
  ·rcases DO pb bs σ₀ x p hrel1 e with ⟨v,g1,g2,q,hq⟩ | ⟨_,g2⟩
   ·exact .inl (hpb _ hq)
   ·exact .inr (.inr (hσ x p g2))
  ·have hx':scope.names.lookup x=some .free:=by
    rcases hx with hx | hx
    ·exact absurd rfl (hcell _ (mem_of_lookup (show scope.names.lookup x=some .cell from hx)))
    ·exact hx
   refine AJ fun WW9 hW9=>?_
   obtain⟨c2,o2,v2,g1,g2,g3,g4⟩:=hfree x hx'
   refine hW9 ?_
   clear hW9 WW9
   refine AJ fun WW9 hW9=>?_
   obtain⟨o3,g5,g6⟩:=ok.dat _ _ g2
   refine hW9 ?_
   clear hW9 WW9
   refine⟨c2,v2,g1,⟨o3,hk₁ _ _ g5,g6.trans g3⟩,fun p e=>?_⟩
   rcases DO pb bs σ₀ x p hrel1 e with ⟨v,f1,f2,q,hq⟩ | ⟨_,f2⟩
   ·have:=hpb _ hq;rw[hx']at this;cases this
   ·refine AJ fun WW9 hW9=>?_
    obtain⟨a',eq9_0,eq9_1⟩:=g4 p f2
    refine hW9 ?_
    clear hW9 WW9
    subst eq9_0 eq9_1
    exact⟨_,rfl,rfl⟩
 refine kla_codeExpr (Ak (wpAny_mono (h ⟨A.deeper env,env,fun b=>b=s.heap.objs.size⟩ rfl rfl _ ok1 lr1) (fun v s' zz2=>zz2.on fun p H' hv ok' k' hq=>?_) fun O O x=>x))
 refine⟨p,H',hv,ok',⟨k'.os,fun b o e hm=>k'.kept b o (hk₁ b o e) hm,fun b o e=>?_⟩,hq⟩
 rcases k'.dom b o e with h | h
 ·left
  cases e2:s.heap.get? b with
  | none=>rfl
  | some o=>rw[hk₁ b o e2]at h;injection h
 ·exact .inr h


noncomputable def SX(G:Cx)(A:Around):Prop:=∃ l,A.frames=some l∧∀ env∈l,env.scope.kind≠.module∧∃ L o,env.frame=some L∧G.D L o
end
end Mine
namespace Mine
variable [zz:Zz]
section
variable {G:Cx} {A:Around} {F:Fx} {σ:Loc} {H:AH} {Q:PV→AH→Prop}



end
end Mine
namespace Mine
variable [zz:Zz]
section
variable {G:Cx} {A:Around} {F:Fx} {σ:Loc} {H:AH} {X:AH→Prop}


set_option tactic.hygienic true in
theorem Gf{body orelse:List Stmt}{h₀:ExceptHandler}{hs:List ExceptHandler}{pos:Pos}{Q:PF→Loc→AH→Prop}(h:Exs G F body σ H (fun f σ' H'=>match f with | .next=>Exs G F orelse σ' H' Q | f=>Q f σ' H')) :
  Ex G F (.Try body (h₀::hs) orelse [] pos) σ H Q:=by
 intro s ok lr
 refine wpAny_Try_except (Ak (wpAny_mono (h s ok lr) (fun f s1 zz2=>zz2.on fun pf σ1 H1 hf ok1 lr1 k1 hq=>?_) fun O O x=>x))
 cases pf with
 | next=>rw[show f=.next from hf];exact wpAny_mono (hq s1 ok1 lr1) (fun O O x=>x.trans k1) fun O O x=>x
 | brk=>rw[show f=.brk from hf];exact⟨.brk,σ1,H1,rfl,ok1,lr1,k1,hq⟩
 | cont=>rw[show f=.cont from hf];exact⟨.cont,σ1,H1,rfl,ok1,lr1,k1,hq⟩
 | ret p=>obtain⟨v,rfl,hv⟩:=id hf;exact⟨.ret p,σ1,H1,hf,ok1,lr1,k1,hq⟩
end
end Mine
namespace Mine
variable [zz:Zz]

section
variable {G:Cx} {A:Around} {H:AH} {Q:PV→AH→Prop} {α β:Type} {f:α→PV} {lt:α→α→Bool} {g:β→PV} {kx:β→α}


theorem KI{s:Shared}{a kS:Addr}{n kn:Nat}{b:Bool}{l:List (β × Value × Value)}{P:PySem.Fin→Shared→Prop}(K:Sk G f lt)(hu:A.units+3<cLine)(hr:CP l.length)(ok:OkH G H s)
  (hl:IsL s.heap a #[] n) (hHa:H a=some (.lst [])) (hk:IsL s.heap kS (l.map (·.2.1)).toArray kn) (hHk:H kS=some (.lst (l.map fun p=>f (kx p.1)))) (hak:kS≠a)
  (hlk:∀ p∈l,VR s.heap (f (kx p.1)) p.2.1) (hlv:∀ p∈l,VR s.heap (g p.1) p.2.2) (hz:l.length≤sizeLine)
  (h:∀ s',OkH G ((H.set kS (.lst [])).set a (.lst ((AU (fun x y=>lt (kx x) (kx y)) b (l.map (·.1))).map g))) s'→Kp H s ((H.set kS (.lst [])).set a (.lst ((AU (fun x y=>lt (kx x) (kx y)) b (l.map (·.1))).map g))) s'→P (.done (.ret .none)) s') :
  wpAny (model G.prog G.w) A (ksk_end a b (l.map (·.2.2)).toArray n (.ref kS) (l.map (·.2.1)).toArray) P Bb s:=by
 let L2:(β × Value × Value)→(β × Value × Value)→Bool:=fun p q=>lt (kx p.1) (kx q.1)
 let l0:=if b then l.reverse else l
 have hl0:∀ p,p∈l0↔p∈l:=fun p=>by cases b<;>simp[l0]
 have tail:∀ st':SortSt,failedOf st'=none→(arrOf st').toList=(AO L2 l0).map (fun p=>(p.2.1,p.2.2))→wpAny (model G.prog G.w) A (ksk_tail a b n (.ref kS) st') P Bb s:=fun st' hf har=>by
  have hperm:(AO L2 l0).Perm l:=(AX l0).trans (by cases b with
   | false=>exact List.Perm.refl _
   | true=>exact List.reverse_perm _)
  have hout:(if b then((arrOf st').map (·.2)).reverse else(arrOf st').map (·.2))=((AU L2 b l).map (·.2.2)).toArray:=by
   apply Array.toList_inj.mp
   have:((arrOf st').map (·.2)).toList=(AO L2 l0).map (·.2.2):=by simp only[Array.toList_map,har,List.map_map];rfl
   cases b with
   | false=>simp only[Bool.false_eq_true,if_false];simp only[this];rfl
   | true=>simp only[if_true,Array.toList_reverse];simp only[this];simp[AU,l0]
  have hxs:(AU (fun x y=>lt (kx x) (kx y)) b (l.map (·.1))).map g=(AU L2 b l).map (fun p=>g p.1):=by
   have e:AU (fun x y=>lt (kx x) (kx y)) b (l.map (·.1))=(AU L2 b l).map (·.1):=by
    unfold AU
    cases b with
    | false=>exact BA (L:=L2) (·.1) l fun O O O O=>rfl
    | true =>
     simp only[if_true]
     rw[← List.map_reverse,BA (L:=L2) (·.1) l.reverse fun O O O O=>rfl,List.map_reverse]
   simp only[e,List.map_map];rfl
  have hmem:∀ p∈AU L2 b l,p∈l:=fun p hp=>sortBy_perm.mem_iff.mp hp
  unfold ksk_tail
  refine wpAny_bind (listUpdate_at hk rfl ?_ (by rw[List.size_toArray,List.length_map];exact hz) (Nat.zero_le _))
  obtain⟨ok1,k1⟩:=BL (tk:=s.toks) ok hHk hk (f:=fun O=>#[]) (ys:=[]) (us:=[]) rfl rfl (Nat.zero_le _)
  refine wpAny_bind (wpAny_letGo ?_)
  have hl1:IsL (s.heap.update kS (Obj.mapSeq fun O=>#[])) a #[] n:=(Heap.get?_update_other _ _ hak).trans hl
  refine wpAny_bind (seqEpoch_at hl1 rfl ?_)
  have hys:VRs (s.heap.update kS (Obj.mapSeq fun O=>#[])) ((AU (fun x y=>lt (kx x) (kx y)) b (l.map (·.1))).map g) ((AU L2 b l).map (·.2.2)):=by
   simp only[hxs];exact FJ fun p hp=>k1.vr ok (hlv p (hmem p hp))
  have hlen2:((AU (fun x y=>lt (kx x) (kx y)) b (l.map (·.1))).map g).length≤sizeLine:=by rw[List.length_map,sortBy_perm.length_eq,List.length_map];exact hz
  have hHa1:(H.set kS (.lst [])) a=some (.lst []):=by rw[AE _ _ (Ne.symm hak)];exact hHa
  refine wpAny_bind (listUpdate_at hl1 rfl ?_ (Nat.zero_le _) ?_)
  ·rw[hf]
   simp only[bne_self_eq_false,Bool.false_eq_true,if_false]
   refine wpAny_pure ?_
   obtain⟨ok4,k4⟩:=BL (tk:=s.toks) ok1 hHa1 hl1 (f:=fun O=>if b then((arrOf st').map (·.2)).reverse else(arrOf st').map (·.2)) hout hys hlen2
   exact h _ ok4 (k1.trans k4)
  ·rw[hout,List.size_toArray,← hys.length.symm]
   exact Nat.le_succ_of_le hlen2
 have harr:(if b=true then((l.map (·.2.1)).toArray.zip (l.map (·.2.2)).toArray).reverse else(l.map (·.2.1)).toArray.zip (l.map (·.2.2)).toArray).toList=l0.map fun p=>(p.2.1,p.2.2):=by
  have:((l.map (·.2.1)).toArray.zip (l.map (·.2.2)).toArray).toList=l.map fun p=>(p.2.1,p.2.2):=by simp[List.zip_map']
  cases b with
  | false=>simp only[Bool.false_eq_true,if_false,l0];exact this
  | true=>simp only[if_true,l0];simp only[Array.toList_reverse,this,List.map_reverse]
 have step:∀ t:Sem PySem.Fin,wpAny (model G.prog G.w) A t P Bb s→wpAny (model G.prog G.w) A (if b=true then(do let _ ← rule "list.sort.reverse"; t) else t) P Bb s:=by
  intro t ht
  split
  ·exact wpAny_bind (wpAny_rule ht)
  ·exact ht
 unfold ksk_end
 dsimp only
 refine step _ ?_
 have hsz:(l.map (·.2.2)).toArray.size=l.length:=by simp
 have hl0l:l0.length=l.length:=by cases b<;>simp[l0]
 by_cases h2:(l.map (·.2.2)).toArray.size<2
 ·rw[if_pos h2,if_pos h2]
  refine wpAny_bind (wpAny_pure ?_)
  simp only[StateT.run_pure]
  refine wpAny_bind (wpAny_pure ?_)
  refine tail (SortSt.mk' general' _ #[] 7 none) rfl ?_
  show(if b=true then _ else _:Array Keyed).toList=_
  simp only[harr]
  have:AO L2 l0=l0:=by
   match hq:l0,(show l0.length<2 by exact hl0l▸hsz▸h2) with
   | [],_=>rfl
   | [p],_=>rfl
   | _::_::_,h=>simp at h;exact(M5 h).elim
  simp only[this]
 ·rw[if_neg h2,if_neg h2]
  have hkk:VRs s.heap ((l.map fun p=>kx p.1).map f) (l.map (·.2.1)):=by simp only[List.map_map];exact FJ fun p hp=>hlk p hp
  obtain⟨κ,hkind,hcmp⟩:=K.kind s A (l.map (·.2.1)) (l.map fun p=>kx p.1) hu (by rw[List.length_map];exact KS hsz h2) hkk
  refine wpAny_bind (hkind _ _ ?_)
  have hruns:=hr (prog:=G.prog) (w:=G.w) (A:=A) (E:=Bb) (st:=SortSt.mk' κ (if b=true then((l.map (·.2.1)).toArray.zip (l.map (·.2.2)).toArray).reverse else(l.map (·.2.1)).toArray.zip (l.map (·.2.2)).toArray) #[] 7 none) (s:=s)
   (κ:=κ) (D:=fun p=>∃ x,VR s.heap (f x) p.1) (L:=LV f lt s.heap)
   (Q:=fun O st'=>failedOf st'=none∧(arrOf st').toList=(AO L2 l0).map (fun p=>(p.2.1,p.2.2)))
   (JE K.swo) (fun p q zz2 zz3 E Q hq=>by obtain⟨x,hx⟩:=zz2;obtain⟨y,hy⟩:=zz3;exact hcmp x y p.1 q.1 hx hy E Q (by rw[Lq (K.inj _) hx hy]at hq;exact hq)) rfl rfl rfl
   (fun p hp=>by
    have hp':p∈(if b=true then((l.map (·.2.1)).toArray.zip (l.map (·.2.2)).toArray).reverse else(l.map (·.2.1)).toArray.zip (l.map (·.2.2)).toArray).toList:=hp
    rw[harr]at hp'
    obtain⟨q,hq,rfl⟩:=List.mem_map.mp hp'
    exact⟨kx q.1,hlk q ((hl0 q).mp hq)⟩)
   (by
    show 2≤(if b=true then _ else _:Array Keyed).size
    simp only[← Array.length_toList,harr,List.length_map,hl0l];exact KS hsz h2)
   (by
    show(if b=true then _ else _:Array Keyed).size=_
    simp only[← Array.length_toList,harr,List.length_map,hl0l])
   (fun st' hf hs he=>⟨hf,Hk K l0 (fun p=>kx p.1) (fun p=>(p.2.1,p.2.2)) (fun p hp=>hlk p ((hl0 p).mp hp)) hs (by simp only[← harr];exact he)⟩)
  refine wpAny_bind (wpAny_mono hruns ?_ fun O O e=>e)
  rintro⟨⟨⟩,st'⟩ s' ⟨rfl,hf,har⟩
  exact tail st' hf har


noncomputable def Rk(G:Cx)(A:Around)(kf:PV)(I:AH→Prop)(xs:List β)(g:β→PV)(fk:β→PV):Prop :=
 ∀ x∈xs,∀ H',I H'→OpC G A kf [g x] H' (fun p H''=>p=fk x∧H''=H')

theorem Ik{s:Shared}{a:Addr}{xs:List β}{b:Bool}{kf:PV}{kv:Value}{I:AH→Prop}{P:PySem.Fin→Shared→Prop}(K:Sk G f lt)(hu:A.units+3<cLine)(hr:CP xs.length)(ok:OkH G H s)(hH:H a=some (.lst (xs.map g)))
  (hkv:VR s.heap kf kv) (hI:∀ a1 ys a2 zs,a1=a→H a2=none→I ((H.set a1 ys).set a2 zs)) (hkey:Rk G A kf I xs g (fun x=>f (kx x)))
  (h:∀ s',OkH G (H.set a (.lst ((AU (fun x y=>lt (kx x) (kx y)) b xs).map g))) s'→Kp H s (H.set a (.lst ((AU (fun x y=>lt (kx x) (kx y)) b xs).map g))) s'→P (.done (.ret .none)) s') :
  wpAny (model G.prog G.w) A (ksk_tree a kv b) P Bb s:=by
 refine AJ fun WW9 hW9=>?_
 obtain⟨⟨vs,n,hl,hv,hz⟩,_⟩:=id (ok.hr a _ hH)
 refine hW9 ?_
 clear hW9 WW9
 simp only[AC]at hv hz
 have hvl:vs.length=xs.length:=by rw[hv.length,List.length_map]
 have hz':vs.length≤sizeLine:=by rw[hv.length];exact hz
 unfold ksk_tree
 refine wpAny_bind (listItems_at hl rfl ?_)
 refine wpAny_bind (listUpdate_at hl rfl ?_ (by rw[List.size_toArray];exact hz') (Nat.zero_le _))
 obtain⟨ok1,k1⟩:=BL (tk:=s.toks) ok hH hl (f:=fun O=>#[]) (ys:=[]) (us:=[]) rfl rfl (Nat.zero_le _)
 have hl1:=hl.update fun O=>(#[]:Array Value)
 refine wpAny_bind (seqEpoch_at hl1 rfl ?_)
 refine wpAny_bind (wpAny_newTuple ?_ hz')
 obtain⟨ok2,k2⟩:=Bn ok1 { cls:=.type "tuple", data:=.seq vs.toArray }
 refine wpAny_bind (wpAny_newList ?_ (Nat.zero_le _))
 obtain⟨ok3,k3⟩:=DD (s:={ s with heap:=(s.heap.update a (Obj.mapSeq fun O=>#[])).push { cls:=.type "tuple", data:=.seq vs.toArray } }) ok2 (ps:=[]) (vs:=[]) rfl (Nat.zero_le _)
 have hl3:=(hl1.push { cls:=.type "tuple", data:=.seq vs.toArray }).push { cls:=.type "list", data:=.seq #[] }
 have hHks:=Co ok2
 generalize hks:({ s with heap:=(s.heap.update a (Obj.mapSeq fun O=>#[])).push { cls:=.type "tuple", data:=.seq vs.toArray } }:Shared).heap.objs.size=ks at ok3 k3 hHks
 have hka:ks≠a:=by rintro rfl;rw[AA]at hHks;injection hHks
 have hHk:H ks=none:=by rw[AE _ _ hka]at hHks;exact hHks
 have k13:=(k1.trans k2).trans k3
 have hv3:=k13.vrs ok hv
 have hkv3:=k13.vr ok hkv
 show wpAny (model G.prog G.w) A (holding [_,Value.ref ks] (ksk_rest a kv b vs.toArray _ (.ref ks))) P Bb _
 refine wpAny_holding ?_
 generalize hs3:({ s with heap:=(((s.heap.update a (Obj.mapSeq fun O=>#[])).push { cls:=.type "tuple", data:=.seq vs.toArray }).push { cls:=.type "list", data:=.seq #[] }) }:Shared)=s3
 have ok3':OkH G ((H.set a (.lst [])).set ks (.lst [])) s3:=by rw[← hs3];exact ok3
 have k13':Kp H s ((H.set a (.lst [])).set ks (.lst [])) s3:=by rw[← hs3];exact k13
 have hv3':VRs s3.heap (xs.map g) vs:=by rw[← hs3];exact hv3
 have hkv3':VR s3.heap kf kv:=by rw[← hs3];exact hkv3
 generalize hn3:(if (#[]:Array Value).size==vs.toArray.size then n else n+1)=n3
 have hl3':IsL s3.heap a #[] n3:=by rw[← hs3,← hn3];exact hl3
 clear hs3 hl3 hv3 hkv3 ok3 k3 k13 ok2 k2 ok1 k1 hl1 hn3
 -- the list is held fast while the keys are made
 have hfz:((H.set a (.lst [])).set ks (.lst [])) a=some (.lst []):=by rw[AE _ _ (Ne.symm hka),AA]
 have okf:=HJ ok3' hfz
 have hcomm:∀ z,((H.set a (.lst [])).set ks z).set a (.fro [])=(H.set a (.fro [])).set ks z:=fun z=>by
  rw[DA _ _ _ hka,AH.set_set]
 rw[show(HO.lst []).items=[]from rfl,hcomm]at okf
 unfold ksk_rest
 refine wpAny_bind (wpAny_rule ?_)
 rw[List.forIn_toArray]
 refine wpAny_bind (ksk_fold (fun i s'=>OkH G ((H.set a (.fro [])).set ks (.lst ((xs.take i).map fun x=>f (kx x)))) s'∧Kp ((H.set a (.fro [])).set ks (.lst [])) s3 ((H.set a (.fro [])).set ks (.lst ((xs.take i).map fun x=>f (kx x)))) s') vs 0 s3
  ⟨okf,Kp.refl _ _⟩ ?step ?done)
 case step =>
  rintro j v s' hj ⟨ok',k'⟩
  rw[Nat.zero_add]at ok' k' ⊢
  obtain⟨x,hx⟩:∃ x,xs[j]?=some x:=⟨_,List.getElem?_eq_getElem (by have:=(List.getElem?_eq_some_iff.mp hj).1;exact Nat.lt_of_lt_of_eq this hvl)⟩
  have hvx:VR s3.heap (g x) v:=by
   obtain⟨u,hu,hv'⟩:=hv3'.get (i:=j) (p:=g x) (by rw[List.getElem?_map,hx];rfl)
   rw[hj]at hu;(replace hu:=Option.some.inj hu;subst hu);exact hv'
  have hvx':=k'.vr okf hvx
  have hIs:I ((H.set a (.fro [])).set ks (.lst ((xs.take j).map fun x=>f (kx x)))):=hI a _ ks _ rfl hHk
  refine wpAny_bind (wpAny_attempt (wpAny_mono (hkey x (List.mem_of_getElem? hx) _ hIs s' kv [v] ok' (k'.vr okf hkv3') (VRs.one hvx')) (fun u s2 zz2=>zz2.on fun p H2 hp ok2 k2 zz2_5=>zz2_5.elim fun hpe hHe=>?_) fun O O e=>e.elim))
  subst hpe;subst hHe
  dsimp only
  refine AJ fun WW9 hW9=>?_
  obtain⟨⟨kvs,kn,hkl,hkvs,hkz⟩,_⟩:=id (ok2.hr ks _ (AA ..))
  refine hW9 ?_
  clear hW9 WW9
  simp only[AC]at hkvs hkz
  have htk:(xs.take (j+1)).map (fun x=>f (kx x))=(xs.take j).map (fun x=>f (kx x))++[f (kx x)]:=by rw[List.take_add_one,hx,List.map_append];rfl
  have hlt:((xs.take (j+1)).map fun x=>f (kx x)).length≤sizeLine:=by rw[List.length_map,List.length_take];exact Pp hvl hz'
  obtain⟨ok4,k4⟩:=BL (tk:=s2.toks) ok2 (AA ..) hkl (f:=fun a=>a.push u) (ys:=(xs.take (j+1)).map fun x=>f (kx x)) (us:=kvs++[u]) (by simp) (by rw[htk];exact hkvs.append (VRs.one hp)) hlt
  rw[AH.set_set]at ok4 k4
  have hkl2:kvs.length+1≤sizeLine:=by rw[hkvs.length];rw[htk,List.length_append,List.length_singleton]at hlt;exact hlt
  refine wpAny_bind (listUpdate_at hkl rfl ?_ (by rw[List.size_toArray];exact Nat.le_of_lt hkl2) (by rw[Array.size_push,List.size_toArray];exact Nat.lt_succ_of_lt hkl2))
  exact wpAny_pure ⟨rfl,ok4,(k'.trans k2).trans k4⟩
 case done =>
  rintro s' ⟨ok',k'⟩
  rw[Nat.zero_add]at ok' k'
  rw[hvl,List.take_length]at ok' k'
  refine AJ fun WW9 hW9=>?_
  obtain⟨⟨kvs,kn,hkl,hkvs,hkz⟩,_⟩:=id (ok'.hr ks _ (AA ..))
  refine hW9 ?_
  clear hW9 WW9
  simp only[AC]at hkvs hkz
  refine wpAny_bind (listItems_at hkl rfl ?_)
  have hv':=k'.vrs okf hv3'
  -- thaw
  have hla:IsL s'.heap a #[] n3:=by
   refine(k'.kept a _ hl3' (AS (ys:=[]) ?_)).hard fun hs=>hs.not_solid (.inr (Ab _ _))
   rw[AE _ _ (Ne.symm hka),AA]
  have okt:OkH G ((H.set a (.lst [])).set ks (.lst (xs.map fun x=>f (kx x)))) s':=by
   refine⟨ok'.keep,fun c o e=>?_,ok'.gens,ok'.dat,ok'.tab⟩
   by_cases hc:c=a
   ·subst hc
    rw[AE _ _ (Ne.symm hka),AA]at e;(replace e:=Option.some.inj e;subst e)
    exact⟨⟨[],n3,hla,rfl,Nat.zero_le _⟩,fun O O=>(ok3'.hr _ _ hfz).2 [] rfl⟩
   ·refine ok'.hr c o ?_
    by_cases hck:c=ks
    ·subst hck;rw[AA]at e ⊢;exact e
    ·rw[AE _ _ hck,AE _ _ hc]at e ⊢;exact e
  have kt:Kp H s ((H.set a (.lst [])).set ks (.lst (xs.map fun x=>f (kx x)))) s':=by
   refine k13'.trans ⟨k'.os,fun c o e hm=>k'.kept c o e fun zz0=>zz0.elim fun ys hy=>hm ?_,fun c o e=>?_⟩
   ·by_cases hck:c=ks
    ·subst hck;exact⟨[],AA ..⟩
    ·by_cases hca:c=a
     ·subst hca;rw[AE _ _ (Ne.symm hka),AA]at hy;cases hy
     ·rw[AE _ _ hck,AE _ _ hca]at hy
      exact⟨ys,by rw[AE _ _ hck,AE _ _ hca];exact hy⟩
   ·by_cases hck:c=ks
    ·subst hck;rw[AA]at e;(replace e:=Option.some.inj e;subst e);exact .inr ⟨.lst [],AA ..,fun O=>rfl⟩
    ·by_cases hca:c=a
     ·subst hca;rw[AE _ _ (Ne.symm hka),AA]at e;(replace e:=Option.some.inj e;subst e)
      exact .inr ⟨_,hfz,fun O=>rfl⟩
     ·rw[AE _ _ hck,AE _ _ hca]at e
      exact .inr ⟨o,by rw[AE _ _ hck,AE _ _ hca];exact e,id⟩
  refine AJ fun WW9 hW9=>?_
  obtain⟨l1,e1,e2,hlv⟩:=HS hv'
  refine hW9 ?_
  clear hW9 WW9
  have hkvs':VRs s'.heap ((l1.map (·.1)).map fun x=>f (kx x)) kvs:=by rw[e1];exact hkvs
  obtain⟨l,f1,f2,f3,f4,f5⟩:∃ l:List (β × Value × Value),l.map (·.1)=xs∧l.map (·.2.1)=kvs∧l.map (·.2.2)=vs∧(∀ p∈l,VR s'.heap (f (kx p.1)) p.2.1)∧∀ p∈l,VR s'.heap (g p.1) p.2.2:=by
   have:∀(l1:List (β × Value)) (kvs:List Value),(∀ p∈l1,VR s'.heap (g p.1) p.2)→VRs s'.heap ((l1.map (·.1)).map fun x=>f (kx x)) kvs →
     ∃ l:List (β × Value × Value),l.map (·.1)=l1.map (·.1)∧l.map (·.2.1)=kvs∧l.map (·.2.2)=l1.map (·.2)∧(∀ p∈l,VR s'.heap (f (kx p.1)) p.2.1)∧∀ p∈l,VR s'.heap (g p.1) p.2.2:=by
    intro l1
    induction l1 with
    | nil=>intro kvs _ hk;exact⟨[],rfl,by rw[show kvs=[]from hk];rfl,rfl,by simp,by simp⟩
    | cons p l1 ih =>
     intro kvs hp zq9
     refine AJ fun WW9 hW9=>?_
     obtain⟨u,r,eq9_0,h1,h2⟩:=zq9
     refine hW9 ?_
     clear hW9 WW9
     subst eq9_0
     refine AJ fun WW9 hW9=>?_
     obtain⟨l,g1,g2,g3,g4,g5⟩:=ih r (fun q hq=>hp q (List.mem_cons_of_mem _ hq)) h2
     refine hW9 ?_
     clear hW9 WW9
     refine⟨(p.1,u,p.2)::l,by simp[g1],by simp[g2],by simp[g3],fun q hq=>?_,fun q hq=>?_⟩
     ·rcases List.mem_cons.mp hq with rfl | hq
      ·exact h1
      ·exact g4 q hq
     ·rcases List.mem_cons.mp hq with rfl | hq
      ·exact hp p (List.mem_cons_self ..)
      ·exact g5 q hq
   refine AJ fun WW9 hW9=>?_
   obtain⟨l,g1,g2,g3,g4,g5⟩:=this l1 kvs hlv hkvs'
   refine hW9 ?_
   clear hW9 WW9
   exact⟨l,g1.trans e1,g2,g3.trans e2,g4,g5⟩
  have hll:l.length=xs.length:=by rw[← f1,List.length_map]
  have hta:((H.set a (.lst [])).set ks (.lst (xs.map fun x=>f (kx x)))) a=some (.lst []):=by rw[AE _ _ (Ne.symm hka),AA]
  have htk:((H.set a (.lst [])).set ks (.lst (xs.map fun x=>f (kx x)))) ks=some (.lst (l.map fun p=>f (kx p.1))):=by
   rw[AA,← f1,List.map_map];rfl
  rw[← f3,← f2]
  refine KI (kx:=kx) (g:=g) K hu (by rw[hll];exact hr) okt hla hta (by rw[f2];exact hkl) htk hka f4 f5 (by rw[hll,← hvl];exact hz') fun s4 ok4 k4=>?_
  rw[f1]at ok4 k4
  have hle:AH.le (H.set a (.lst ((AU (fun x y=>lt (kx x) (kx y)) b xs).map g))) ((((H.set a (.lst [])).set ks (.lst (xs.map fun x=>f (kx x)))).set ks (.lst [])).set a (.lst ((AU (fun x y=>lt (kx x) (kx y)) b xs).map g))):=by
   rw[AH.set_set,DA (H.set a (.lst [])) _ _ hka,AH.set_set]
   intro c o e
   by_cases hck:c=ks
   ·subst hck;rw[AE _ _ hka,hHk]at e;injection e
   ·rw[AE _ _ hck];exact e
  exact h s4 (ok4.weak hle) ((kt.trans k4).weak hle)


noncomputable def SI(G:Cx)(A:Around)(p:PV)(H:AH)(xs:List PV):Prop:=∀ s v (R:List Value→Shared→Prop),OkH G H s→VR s.heap p v →
 (∀ vs h' tk,(∀ b o,s.heap.get? b=some o→h'.get? b=some o)→VRs h' xs vs→R vs { s with heap:=h',toks:=tk })→wpAny (model G.prog G.w) A (collect v) R Bb s
theorem J6{a:Addr}{ho:HO}(hH:H a=some ho):SI G A (.ref a) H ho.items:=by
 rintro s _ R ok rfl h
 obtain⟨⟨vs,n,hl,hv,hz⟩,_⟩:=id (ok.hr a _ hH)
 have keep:∀ b o,s.heap.get? b=some o→((s.heap.push (seqObj "list" #[] 0)).update s.heap.objs.size (Obj.mapSeq (·++vs.toArray))).get? b=some o:=fun b o q=>by
  have hlt:b<s.heap.objs.size:=Heap.lt_size q
  rw[Heap.get?_update_ne _ _ _ _ (Nat.ne_of_lt hlt),Heap.get?_push_ne _ _ _ (Nat.ne_of_lt hlt)]
  exact q
 exact collect_list hl.isList (h vs _ s.toks keep (VRs.mono (fun b o O e=>keep b o e) _ _ hv)) (by rw[hv.length];exact hz)
theorem MR{h':Heap}{x c:Int}{n:Nat}{acc':Array Value}(hI:ItemsOf (fun i v=>∃ t,v=.int (x+i*c) t) acc' n):VRs h' ((List.range n).map fun(i:Nat)=>.int (x+i*c)) acc'.toList:=by
 obtain⟨h1,h2⟩:=hI
 have:∀(vs:List Value) (k:Nat),(∀ j v,vs[j]?=some v→∃ t,v=Value.int (x+((j+k:Nat):Int)*c) t)→VRs h' ((List.range' k vs.length).map fun(i:Nat)=>.int (x+i*c)) vs:=by
  intro vs
  induction vs with
  | nil=>intro k _;rfl
  | cons v vs ih =>
   intro k hv
   refine⟨v,vs,rfl,?_,?_⟩
   ·obtain⟨t,ht⟩:=hv 0 v rfl
    exact⟨t,by rw[ht,Nat.zero_add]⟩
   ·exact ih (k+1) fun j w hw=>by
     obtain⟨t,ht⟩:=hv (j+1) w (by simpa using hw)
     exact⟨t,by rw[ht];congr 3;exact Po⟩
 have key:=this acc'.toList 0 fun j v hv=>h2 j v (by simpa using hv)
 rw[Array.length_toList,h1]at key
 simp only[List.range_eq_range']
 exact key
end
end Mine
namespace Mine
section
variable {α β:Type} {lt:α→α→Bool} {ltb:β→β→Bool}

noncomputable def FB(lt:α→α→Bool)(ys:List α)(last:α):α × List α:=match ys with
 | []=>(last,[])
 | y::r=>(y,F7 lt 0 last (last::r))
theorem HeapAt.pre{s:Nat}{xs:List α}{y:α}(h:HeapAt lt s (xs++[y])):HeapAt lt s xs:=fun k u v hu hv h0 hs =>
 h k u v (by rw[List.getElem?_append_left (List.getElem?_eq_some_iff.mp hu).1];exact hu) (by rw[List.getElem?_append_left (List.getElem?_eq_some_iff.mp hv).1];exact hv) h0 hs
theorem Bo(o:SWO lt)(x:α){y:α}{r:List α}(hh:HeapAt lt 0 (y::r)):(F7 lt 0 x (x::r)).Perm (x::r)∧HeapAt lt 0 (F7 lt 0 x (x::r))∧∀ z∈y::r,lt z y=false:=by
 refine⟨EL rfl,FO o x (by simp) ?_,fun z hz=>?_⟩
 ·exact Ic (xs:=y::r) hh x
 ·obtain⟨k,hk⟩:=List.mem_iff_getElem?.mp hz
  exact hh.root o rfl k z hk
theorem LP(o:SWO lt){ys:List α}{last:α}(hh:HeapAt lt 0 (ys++[last])):((FB lt ys last).1::(FB lt ys last).2).Perm (ys++[last])∧HeapAt lt 0 (FB lt ys last).2∧∀ z∈ys++[last],lt z (FB lt ys last).1=false:=by
 cases ys with
 | nil=>exact⟨List.Perm.refl _,HeapAt.nil 0,fun z hz=>by rw[List.mem_singleton.mp hz];exact o.irr _⟩
 | cons y r =>
  obtain⟨h1,h2,h3⟩:=Bo o last hh.pre
  refine⟨?_,h2,fun z hz=>?_⟩
  ·refine(List.Perm.cons y h1).trans ?_
   simp only[List.cons_append]
   exact List.Perm.cons y (List.perm_append_singleton last r).symm
  ·obtain⟨k,hk⟩:=List.mem_iff_getElem?.mp hz
   exact hh.root o (r:=y) rfl k z hk
theorem LO(f:α→β)(hf:∀ x y,ltb (f x) (f y)=lt x y)(ys:List α)(last:α):FB ltb (ys.map f) (f last)=(f (FB lt ys last).1,(FB lt ys last).2.map f):=by
 cases ys with
 | nil=>rfl
 | cons y r=>simp only[FB,List.map_cons];simp only[← List.map_cons,CS f hf]
end
end Mine
namespace Mine


noncomputable def Mh:Bool→Keyed→Array Keyed→Nat→Nat→Nat→StateT SortSt Sem (Option Nat):=sortPriv% PySem.Builtin.gallop
noncomputable def H7:Array Keyed→Array Keyed→StateT SortSt Sem (Array Keyed):=sortPriv% PySem.Builtin.mergeLo
noncomputable def H8:Array Keyed→Array Keyed→StateT SortSt Sem (Array Keyed):=sortPriv% PySem.Builtin.mergeHi

section
variable {prog:Program} {w:World} {A:Around} {E:Value→Shared→Prop} {s:Shared} {κ:SortKind} {D:Keyed→Prop} {L:Keyed→Keyed→Bool}


noncomputable def GH(L:Keyed→Keyed→Bool)(left:Bool)(key x:Keyed):Bool:=if left then L x key else !L key x
noncomputable def DX(L:Keyed→Keyed→Bool)(left:Bool)(key:Keyed)(t:List Keyed)(i:Nat):Bool:=(t[i]?.map (GH L left key)).getD false
noncomputable def QC(left:Bool)(key:Keyed)(arr:Array Keyed)(base i:Nat):StateT SortSt Sem (Option Bool):=do
 let x ← elem' arr (base+i)
 if left then lt' x key else return (← lt' key x).map (!·)
theorem Ll(o:SWO L){left:Bool}{key x y:Keyed}(hxy:L y x=false)(h:GH L left key y=true):GH L left key x=true:=by
 unfold GH at h ⊢
 cases left with
 | true=>exact o.le_lt hxy h
 | false =>
  have h':L key y=false:=by simpa using h
  simpa using o.ntr _ _ _ h' hxy
theorem JB(o:SWO L){left:Bool}{key:Keyed}{t:List Keyed}(hs:Srt L t){i j:Nat}(hij:i≤j)(h:DX L left key t j=true):DX L left key t i=true:=by
 unfold DX at h ⊢
 cases hj:t[j]? with
 | none=>rw[hj]at h;injection h
 | some y =>
  rw[hj]at h
  have hjl:=(List.getElem?_eq_some_iff.mp hj).1
  obtain⟨x,hx⟩:∃ x,t[i]?=some x:=⟨_,List.getElem?_eq_getElem (by exact Nat.lt_of_le_of_lt hij hjl)⟩
  rw[hx]
  exact Ll o (hs.get o hx hj hij) h

theorem KA{st:SortSt}{left:Bool}{key:Keyed}{arr:Array Keyed}{base i:Nat}{t:List Keyed}{Q:Option Bool→SortSt→Prop}(C:DT prog w A s κ D L)(hk:kindOf st=κ)
  (harr:∀ i x,t[i]?=some x→arr.toList[base+i]?=some x) (hD:∀ p∈t,D p) (hkey:D key) (hi:i<t.length) (h:Q (some (DX L left key t i)) st):wpS (model prog w) A E s (QC left key arr base i) Q st:=by
 obtain⟨x,hx⟩:∃ x,t[i]?=some x:=⟨_,List.getElem?_eq_getElem hi⟩
 have hDx:=hD x (List.mem_of_getElem? hx)
 have e:DX L left key t i=GH L left key x:=by unfold DX;rw[hx];rfl
 rw[e]at h
 refine wpS_bind (Ag (harr i x hx) ?_)
 cases left with
 | true=>exact Do C hk hDx hkey h
 | false=>exact wpS_bind (Do C hk hkey hDx (wpS_pure h))


noncomputable def Lr(B:Nat→Bool)(n lo hi:Nat):Prop:=lo≤hi∧hi≤n∧(∀ i,i<lo→B i=true)∧∀ i,hi≤i→B i=false

theorem Br{st:SortSt}{left:Bool}{key:Keyed}{arr:Array Keyed}{base hint n:Nat}{t:List Keyed}{Q:Option Nat→SortSt→Prop}(o:SWO L)(C:DT prog w A s κ D L)(hk:kindOf st=κ)
  (harr:∀ i x,t[i]?=some x→arr.toList[base+i]?=some x) (hn:n=t.length) (hD:∀ p∈t,D p) (hkey:D key) (hs:Srt L t) (hh:hint<n)
  (h:∀ p q,t=p++q→(∀ x∈p,GH L left key x=true)→(∀ x∈q,GH L left key x=false)→Q (some p.length) st) :
  wpS (model prog w) A E s (Mh left key arr base n hint) Q st:=by
 subst hn
 generalize hB:DX L left key t=B
 have anti:∀ i j,i≤j→B j=true→B i=true:=fun i j hij hj=>by rw[← hB]at hj ⊢;exact JB o hs hij hj
 have antif:∀ i j,i≤j→B i=false→B j=false:=fun i j hij hi=>by
  cases hj:B j with
  | false=>rfl
  | true=>rw[anti i j hij hj]at hi;injection hi
 have out:∀ i,t.length≤i→B i=false:=fun i hi=>by rw[← hB];unfold DX;rw[List.getElem?_eq_none hi];rfl
 have hb:∀{Q:Option Bool→SortSt→Prop} (i:Nat),i<t.length→Q (some (B i)) st→wpS (model prog w) A E s (QC left key arr base i) Q st:=fun i hi hq=>by rw[← hB]at hq;exact KA C hk harr hD hkey hi hq
 -- the last part: a search by halves
 have fin:∀ hi,hi≤t.length→(∀ i,i<hi→B i=true)→(∀ i,hi≤i→B i=false)→Q (some hi) st:=fun hi h1 h2 h3=>by
  have:=h (t.take hi) (t.drop hi) (List.take_append_drop ..).symm (fun x hx=>?_) fun x hx=>?_
  ·rwa [List.length_take,Nat.min_eq_left h1]at this
  ·obtain⟨i,e⟩:=List.mem_iff_getElem?.mp hx
   rw[List.getElem?_take]at e
   split at e
   ·have:=h2 i (by assumption);rw[← hB]at this;unfold DX at this;rw[e]at this;exact this
   ·injection e
  ·obtain⟨i,e⟩:=List.mem_iff_getElem?.mp hx
   rw[List.getElem?_drop]at e
   have:=h3 (hi+i) (by exact Nat.le_add_right _ _);rw[← hB]at this;unfold DX at this;rw[e]at this;exact this
 refine wpS_bind (hb hint hh ?_)
 have bin:∀{f:Nat→Option (Option Nat) × Nat × Nat→StateT SortSt Sem (ForInStep (Option (Option Nat) × Nat × Nat))} {g:Option (Option Nat) × Nat × Nat→StateT SortSt Sem (Option Nat)} (lo hi:Nat),
   (∀ x l r (Q':ForInStep (Option (Option Nat) × Nat × Nat)→SortSt→Prop),l<r→r≤t.length→Q' (if B (l+(r - l) / 2)=true then .yield (none,l+(r - l) / 2+1,r) else .yield (none,l,l+(r - l) / 2)) st→wpS (model prog w) A E s (f x (none,l,r)) Q' st) →
   (∀ x l,f x (none,l,l)=pure (.done (none,l,l)))→(∀ l,g (none,l,l)=pure (some l))→Lr B t.length lo hi→wpS (model prog w) A E s (forIn [0:t.length] (none,lo,hi) f >>= g) Q st:=fun{f g} lo hi hf h0 hg ⟨f1,f2,f3,f4⟩=>by
  refine wpS_bind (wpS_mono (wpS_forRange (I:=fun x c st'=>st'=st∧∃ l r,c=(none,l,r)∧Lr B t.length l r∧r - l≤t.length - x)
   (Q:=fun c st'=>st'=st∧∃ l,c=(none,l,l)∧Lr B t.length l l) ?step ?fin ⟨rfl,lo,hi,rfl,⟨f1,f2,f3,f4⟩,by exact Nat.le_trans (Nat.sub_le _ _) f2⟩) ?post)
  case post =>
   intro c st' zq9
   refine AJ fun WW9 hW9=>?_
   obtain⟨eq9_0,l,eq9_1,g1,g2,g3,g4⟩:=zq9
   refine hW9 ?_
   clear hW9 WW9
   subst eq9_0 eq9_1
   rw[hg];exact wpS_pure (fin l g2 g3 g4)
  case fin =>
   intro c st' zq9
   refine AJ fun WW9 hW9=>?_
   obtain⟨eq9_0,l,r,eq9_1,hfd,hm⟩:=zq9
   refine hW9 ?_
   clear hW9 WW9
   subst eq9_0 eq9_1
   have:=hfd.1
   obtain rfl:l=r:=by exact M8 hm this
   exact⟨rfl,l,rfl,hfd⟩
  case step =>
   intro x c st' _ hx zq9
   refine AJ fun WW9 hW9=>?_
   obtain⟨eq9_0,l,r,eq9_1,⟨g1,g2,g3,g4⟩,hm⟩:=zq9
   refine hW9 ?_
   clear hW9 WW9
   subst eq9_0 eq9_1
   rcases Nat.lt_or_eq_of_le g1 with hlt | rfl
   ·refine hf x l r _ hlt g2 ?_
    cases hm':B (l+(r - l) / 2) with
    | true=>exact⟨rfl,_,_,rfl,⟨by exact Pn hlt,g2,fun i hi=>anti i _ (by exact Nat.le_of_lt_succ hi) hm',g4⟩,by exact Pm hm hx⟩
    | false=>exact⟨rfl,_,_,rfl,⟨by exact Nat.le_add_right _ _,by exact Pl hlt g2,g3,fun i hi=>antif _ i hi hm'⟩,by exact Pk hm⟩
   ·simp only[h0];exact wpS_pure ⟨rfl,l,rfl,g1,g2,g3,g4⟩
 have step:∀{l r:Nat} {Q':ForInStep (Option (Option Nat) × Nat × Nat)→SortSt→Prop},l<r→r≤t.length→Q' (if B (l+(r - l) / 2)=true then .yield (none,l+(r - l) / 2+1,r) else .yield (none,l,l+(r - l) / 2)) st →
   wpS (model prog w) A E s (QC left key arr base (l+(r - l) / 2)) (fun y st'=>st'=st∧y=some (B (l+(r - l) / 2))∧Q' (if B (l+(r - l) / 2)=true then .yield (none,l+(r - l) / 2+1,r) else .yield (none,l,l+(r - l) / 2)) st) st:=fun h1 h2 h3=>hb _ (by exact Pj h1 h2) ⟨rfl,rfl,h3⟩
 dsimp only
 cases hr:B hint with
 | true =>
  simp only[if_true]
  refine wpS_bind (wpS_mono (wpS_forRange (I:=fun x c st'=>st'=st∧∃ l f,c=(none,l,f)∧B (hint+l)=true∧hint+l<t.length∧l<f∧x+1≤f)
   (Q:=fun c st'=>st'=st∧∃ l f,c=(none,l,f)∧B (hint+l)=true∧hint+l<t.length∧l<f∧(f≥t.length - hint∨B (hint+f)=false)) ?_ ?_ ⟨rfl,0,1,rfl,hr,hh,by exact Nat.le_refl _,by exact Nat.le_refl _⟩) ?_)
  ·intro x c st' _ hx zq9
   refine AJ fun WW9 hW9=>?_
   obtain⟨eq9_0,l,f,eq9_1,g1,g2,g3,g4⟩:=zq9
   refine hW9 ?_
   clear hW9 WW9
   subst eq9_0 eq9_1
   dsimp only
   by_cases hge:f≥t.length - hint
   ·refine Df hge ?_;exact wpS_pure ⟨rfl,l,f,rfl,g1,g2,g3,.inl hge⟩
   ·refine C2 hge ?_
    refine wpS_bind (hb _ (by exact K6 hge) ?_)
    cases hm:B (hint+f) with
    | true=>simp only[Bool.not_true,Bool.false_eq_true,if_false];exact wpS_pure ⟨rfl,_,_,rfl,hm,by exact K6 hge,by exact K5,by exact K4 g4⟩
    | false=>simp only[Bool.not_false,if_true];exact wpS_pure ⟨rfl,l,f,rfl,g1,g2,g3,.inr hm⟩
  ·intro c st' zq9
   refine AJ fun WW9 hW9=>?_
   obtain⟨eq9_0,l,f,eq9_1,g1,g2,g3,g4⟩:=zq9
   refine hW9 ?_
   clear hW9 WW9
   subst eq9_0 eq9_1
   exact⟨rfl,l,f,rfl,g1,g2,g3,.inl (by exact Pi g4)⟩
  ·intro c st' zq9
   refine AJ fun WW9 hW9=>?_
   obtain⟨eq9_0,l,f,eq9_1,g1,g2,g3,g4⟩:=zq9
   refine hW9 ?_
   clear hW9 WW9
   subst eq9_0 eq9_1
   refine bin (hint+l+1) (hint+min f (t.length - hint)) (fun x l r Q' h1 h2 h3=>?_) (fun x l=>if_pos (Nat.le_refl l)) (fun l=>rfl) ⟨by exact Ph g2 g3,by exact Pg hh,fun i hi=>anti i _ (by exact Nat.le_of_lt_succ hi) g1,fun i hi=>?_⟩
   ·refine C2 (show ¬ (none,l,r).2.1≥(none,l,r).2.2 from Nat.not_le_of_lt h1) ?_
    refine wpS_bind (wpS_mono (step h1 h2 h3) ?_)
    intro _ _ zq9
    refine AJ fun WW9 hW9=>?_
    obtain⟨eq9_0,eq9_1,hq⟩:=zq9
    refine hW9 ?_
    clear hW9 WW9
    subst eq9_0 eq9_1
    cases hm:B (l+(r - l) / 2) with
    | true=>rw[hm]at hq;simp only[if_true]at hq ⊢;exact wpS_pure hq
    | false=>rw[hm]at hq;simp only[Bool.false_eq_true,if_false]at hq ⊢;exact wpS_pure hq
   rcases g4 with g4 | g4
   ·exact out i (by exact K3 g4 hi)
   ·by_cases hge:f≥t.length - hint
    ·exact out i (by exact K3 hge hi)
    ·exact antif _ i (by exact Pf hi hge) g4
 | false =>
  simp only[Bool.false_eq_true,if_false]
  refine wpS_bind (wpS_mono (wpS_forRange (I:=fun x c st'=>st'=st∧∃ l f,c=(none,l,f)∧B (hint - l)=false∧l≤hint∧l<f∧x+1≤f)
   (Q:=fun c st'=>st'=st∧∃ l f,c=(none,l,f)∧B (hint - l)=false∧l≤hint∧l<f∧(f≥hint+1∨B (hint - f)=true)) ?_ ?_ ⟨rfl,0,1,rfl,hr,by exact Nat.zero_le _,by exact Nat.le_refl _,by exact Nat.le_refl _⟩) ?_)
  ·intro x c st' _ hx zq9
   refine AJ fun WW9 hW9=>?_
   obtain⟨eq9_0,l,f,eq9_1,g1,g2,g3,g4⟩:=zq9
   refine hW9 ?_
   clear hW9 WW9
   subst eq9_0 eq9_1
   dsimp only
   by_cases hge:f≥hint+1
   ·refine Df hge ?_;exact wpS_pure ⟨rfl,l,f,rfl,g1,g2,g3,.inl hge⟩
   ·refine C2 hge ?_
    refine wpS_bind (hb _ (by exact Pe (by assumption) g4 hh hge) ?_)
    cases hm:B (hint - f) with
    | false=>simp only[Bool.false_eq_true,if_false];exact wpS_pure ⟨rfl,_,_,rfl,hm,by exact Nat.not_lt.mp hge,by exact K5,by exact K4 g4⟩
    | true=>simp only[if_true];exact wpS_pure ⟨rfl,l,f,rfl,g1,g2,g3,.inr hm⟩
  ·intro c st' zq9
   refine AJ fun WW9 hW9=>?_
   obtain⟨eq9_0,l,f,eq9_1,g1,g2,g3,g4⟩:=zq9
   refine hW9 ?_
   clear hW9 WW9
   subst eq9_0 eq9_1
   exact⟨rfl,l,f,rfl,g1,g2,g3,.inl (by exact Nat.lt_trans hh g4)⟩
  ·intro c st' zq9
   refine AJ fun WW9 hW9=>?_
   obtain⟨eq9_0,l,f,eq9_1,g1,g2,g3,g4⟩:=zq9
   refine hW9 ?_
   clear hW9 WW9
   subst eq9_0 eq9_1
   refine bin (hint+1 - min f (hint+1)) (hint - l) (fun x l r Q' h1 h2 h3=>?_) (fun x l=>if_pos (Nat.le_refl l)) (fun l=>rfl) ⟨by exact Pd g3,by exact Pc hh,fun i hi=>?_,fun i hi=>antif _ i hi g1⟩
   ·refine C2 (show ¬ (none,l,r).2.1≥(none,l,r).2.2 from Nat.not_le_of_lt h1) ?_
    refine wpS_bind (wpS_mono (step h1 h2 h3) ?_)
    intro _ _ zq9
    refine AJ fun WW9 hW9=>?_
    obtain⟨eq9_0,eq9_1,hq⟩:=zq9
    refine hW9 ?_
    clear hW9 WW9
    subst eq9_0 eq9_1
    cases hm:B (l+(r - l) / 2) with
    | true=>rw[hm]at hq;simp only[if_true]at hq ⊢;exact wpS_pure hq
    | false=>rw[hm]at hq;simp only[Bool.false_eq_true,if_false]at hq ⊢;exact wpS_pure hq
   rcases g4 with g4 | g4
   ·exact(Pb g4 hi).elim
   ·exact anti i _ (by exact Pa hi) g4
end
end Mine
set_option maxHeartbeats 2000000
namespace Mine


section
variable {L:Keyed→Keyed→Bool} {al bl:List Keyed} {out:Array Keyed}
noncomputable def Dn(L:Keyed→Keyed→Bool)(ab:List Keyed)(r:Array Keyed):Prop:=Srt L r.toList∧SEq L r.toList ab

structure MI (L:Keyed→Keyed→Bool) (ab out a b:List Keyed):Prop where
 so:Srt L out
 sa:Srt L a
 sb:Srt L b
 le:∀ x∈out,∀ y∈a++b,L y x=false
 eq:SEq L (out++(a++b)) ab
theorem MI.pushA{ab out a b c:List Keyed}(h:MI L ab out (c++a) b)(hc:∀ z∈c,∀ y∈b,L y z=false):MI L ab (out++c) a b:=by
 obtain⟨h1,h2,h3⟩:=Srt.append.mp h.sa
 refine⟨Srt.append.mpr ⟨h.so,h1,fun x hx y hy=>h.le x hx y (by simp[hy])⟩,h2,h.sb,fun x hx y hy=>?_,by have:=h.eq;simpa using this⟩
 rcases List.mem_append.mp hx with hx | hx
 ·exact h.le x hx y (by simp only[List.mem_append]at hy ⊢;exact hy.imp .inr id)
 ·rcases List.mem_append.mp hy with hy | hy
  ·exact h3 x hx y hy
  ·exact hc x hx y hy
theorem MI.pushB(o:SWO L){ab out a b c:List Keyed}(h:MI L ab out a (c++b))(hc:∀ z∈c,∀ x∈a,L z x=true):MI L ab (out++c) a b:=by
 obtain⟨h1,h2,h3⟩:=Srt.append.mp h.sb
 refine⟨Srt.append.mpr ⟨h.so,h1,fun x hx y hy=>h.le x hx y (by simp[hy])⟩,h.sa,h2,fun x hx y hy=>?_,SEq.trans ?_ h.eq⟩
 ·rcases List.mem_append.mp hx with hx | hx
  ·exact h.le x hx y (by simp only[List.mem_append]at hy ⊢;exact hy.imp id .inr)
  ·rcases List.mem_append.mp hy with hy | hy
   ·exact o.asym _ _ (hc x hx y hy)
   ·exact h3 x hx y hy
 ·rw[List.append_assoc,← List.append_assoc c a b,← List.append_assoc a c b]
  exact SEq.left _ ((SEq.swap (A:=a) (B:=c) o fun x hx z hz=>hc z hz x hx).symm.right b)
theorem MI.done{ab out a b:List Keyed}(h:MI L ab out a b)(he:a=[]∨b=[]):Srt L (out++(a++b))∧SEq L (out++(a++b)) ab:=by
 refine⟨Srt.append.mpr ⟨h.so,?_,h.le⟩,h.eq⟩
 rcases he with rfl | rfl
 ·exact h.sb
 ·rw[List.append_nil];exact h.sa
theorem MI.last(o:SWO L){ab out a b:List Keyed}(h:MI L ab out a b)(hx:∀ x∈a,∀ y∈b,L y x=true):Srt L (out++(b++a))∧SEq L (out++(b++a)) ab:=by
 refine⟨Srt.append.mpr ⟨h.so,Srt.append.mpr ⟨h.sb,h.sa,fun y hy x hx'=>o.asym _ _ (hx x hx' y hy)⟩,fun x hx y hy=>h.le x hx y (by simp only[List.mem_append]at hy ⊢;exact hy.symm)⟩,SEq.trans ?_ h.eq⟩
 exact SEq.left _ (SEq.swap (A:=a) (B:=b) o hx).symm

structure Lo (L:Keyed→Keyed→Bool) (al bl:List Keyed) (m:Nat) (out:Array Keyed) (ia ib:Nat):Prop where
 mi:MI L (al++bl) out.toList (al.drop ia) (bl.drop ib)
 ha:ia+1<al.length
 hb:ib<bl.length
 hm:m≤ia+ib
theorem Ap{α:Type}{l:List α}{i:Nat}{x:α}(h:l[i]?=some x):l.drop i=x::l.drop (i+1):=by
 obtain⟨h1,h2⟩:=List.getElem?_eq_some_iff.mp h
 rw[List.drop_eq_getElem_cons h1,h2]
theorem D8{α:Type}{l p q:List α}{i:Nat}(h:l.drop i=p++q):l.drop (i+p.length)=q:=by
 simp only[← List.drop_drop,h,List.drop_left]
theorem Cm{a:Array Keyed}(ha:a.toList=al)(i:Nat):(a.extract i).toList=al.drop i:=by
 rw[Array.toList_extract,ha,← Array.length_toList,ha];exact List.take_of_length_le (by simp)
theorem Cy(o:SWO L){x:Keyed}{l:List Keyed}(h:Srt L (x::l)):∀ z∈x::l,L z x=false:=fun z hz=>by
 rcases List.mem_cons.mp hz with rfl | hz
 ·exact o.irr _
 ·exact(List.pairwise_cons.mp h).1 z hz
theorem MI.takeA{ab a:List Keyed}{ib ia:Nat}{x:Keyed}(h:MI L ab out.toList (al.drop ia) a)(hx:al[ia]?=some x)(hc:∀ y∈a,L y x=false):MI L ab (out.push x).toList (al.drop (ia+1)) a:=by
 rw[Array.toList_push];rw[Ap hx]at h
 exact MI.pushA (c:=[x]) h fun z hz y hy=>by rw[List.mem_singleton.mp hz];exact hc y hy
theorem MI.takeB(o:SWO L){ab a:List Keyed}{ib:Nat}{y:Keyed}(h:MI L ab out.toList a (bl.drop ib))(hy:bl[ib]?=some y)(hc:∀ x∈a,L y x=true):MI L ab (out.push y).toList a (bl.drop (ib+1)):=by
 rw[Array.toList_push];rw[Ap hy]at h
 exact MI.pushB o (c:=[y]) h fun z hz x hx=>by rw[List.mem_singleton.mp hz];exact hc x hx
theorem Ew{a:Array Keyed}{p q:List Keyed}{i:Nat}(ha:a.toList=al)(h:al.drop i=p++q):(a.extract i (i+p.length)).toList=p:=by
 rw[Array.toList_extract,ha]
 show List.take (i+p.length - i) (List.drop i al)=p
 simp only[Nat.add_sub_cancel_left,h,List.take_left]
theorem MI.chunkA{ab b p q:List Keyed}{a:Array Keyed}{ia:Nat}(h:MI L ab out.toList (al.drop ia) b)(ea:a.toList=al)(e:al.drop ia=p++q)(hc:∀ z∈p,∀ y∈b,L y z=false):MI L ab (out++a.extract ia (ia+p.length)).toList (al.drop (ia+p.length)) b:=by
 simp only[Array.toList_append,Ew ea e,D8 e];rw[e]at h;exact h.pushA hc
theorem MI.chunkB(o:SWO L){ab a p q:List Keyed}{b:Array Keyed}{ib:Nat}(h:MI L ab out.toList a (bl.drop ib))(eb:b.toList=bl)(e:bl.drop ib=p++q)(hc:∀ z∈p,∀ x∈a,L z x=true):MI L ab (out++b.extract ib (ib+p.length)).toList a (bl.drop (ib+p.length)):=by
 simp only[Array.toList_append,Ew eb e,D8 e];rw[e]at h;exact h.pushB o hc

theorem QT{α:Type}{T:α→Prop}{G:Prop}(use:(∀ m,T m)→G)(key:∀ m,T m):G:=use key
theorem KB{α β:Type}{T:α→β→Prop}{G:Prop}(P:α→β→Prop)(use:(∀ x y,P x y→T x y)→G)(key:∀ x y,P x y→T x y):G:=use key
noncomputable abbrev Hm(st:SortSt)(g:Nat):SortSt:=SortSt.mk' (kindOf st) (arrOf st) (pendingOf st) g (failedOf st)
theorem Dm{M:Model}{A:Around}{E:Value→Shared→Prop}{s:Shared}{st:SortSt}{g:Nat}{Q:Unit→SortSt→Prop}(h:Q () (Hm st g)):wpS M A E s ((sortPriv% PySem.Builtin.setMinGallop) g) Q st:=wpS_modify h

variable {prog:Program} {w:World} {A:Around} {E:Value→Shared→Prop} {s:Shared} {κ:SortKind} {D:Keyed→Prop}
theorem AW{M:Model}{α:Type}{c:Prop}[inst:Decidable c]{t e:StateT SortSt Sem α}{Q:α→SortSt→Prop}{st:SortSt}(h1:c→wpS M A E s t Q st)(h2:¬ c→wpS M A E s e Q st):wpS M A E s (if c then t else e) Q st:=by
 by_cases h:c
 ·refine Df h ?_;exact h1 h
 ·refine C2 h ?_;exact h2 h
theorem KN{l p q:List Keyed}{i:Nat}(e:l.drop i=p++q)(h:i≤l.length):i+p.length≤l.length:=by have:=congrArg List.length e;simp at this;exact PZ this h
theorem Lo.full{m ia ib:Nat}(h:Lo L al bl m out ia ib)(hm:al.length+bl.length≤m):False:=by have:=h.hm;have:=h.ha;have:=h.hb;exact PY (by assumption) hm (by assumption) this
theorem Lo.weak{m m' ia ib:Nat}(h:Lo L al bl m out ia ib)(hm:m'≤m):Lo L al bl m' out ia ib:=⟨h.mi,h.ha,h.hb,Nat.le_trans hm h.hm⟩
theorem Lo.stepB{out':Array Keyed}{m ia ib:Nat}(h:Lo L al bl m out ia ib)(mi:MI L (al++bl) out'.toList (al.drop ia) (bl.drop (ib+1)))(hb:ib+1≠bl.length):Lo L al bl (m+1) out' ia (ib+1):=⟨mi,h.ha,Nat.lt_of_le_of_ne h.hb hb,Nat.succ_le_succ h.hm⟩
theorem Lo.stepA{out':Array Keyed}{m ia ib ia' ib':Nat}(h:m≤ia+ib)(h1:ia≤ia')(h2:ib≤ib')(hb:ib'<bl.length)(mi:MI L (al++bl) out'.toList (al.drop (ia'+1)) (bl.drop ib'))(la:ia'+1<al.length)(ha:ia'+1+1≠al.length):Lo L al bl (m+1) out' (ia'+1) ib':=⟨mi,Nat.lt_of_le_of_ne la ha,hb,by exact PX h h1 h2⟩
theorem HE(i x:Nat):i+2≤i+1+x+1:=by exact Nat.succ_le_succ (Nat.le_add_right _ _)
theorem JV(i x:Nat):i+2≤i+2+x+1:=by exact Nat.le_trans (Nat.le_add_right _ _) (Nat.le_succ _)

noncomputable def SG(st st':SortSt):Prop:=∃ g,st'=Hm st g
theorem SG.kind{st st':SortSt}(h:SG st st')(hk:kindOf st=κ):kindOf st'=κ:=by obtain⟨g,rfl⟩:=h;exact hk
theorem SG.set{st st':SortSt}(h:SG st st')(g:Nat):SG st (Hm st' g):=by obtain⟨g',rfl⟩:=h;exact⟨g,rfl⟩
theorem HZ{st:SortSt}{a b:Array Keyed}{Q:Array Keyed→SortSt→Prop}(o:SWO L)(C:DT prog w A s κ D L)(hk:kindOf st=κ)(ea:a.toList=al)(eb:b.toList=bl)(hD:∀ p∈al++bl,D p)(sa:Srt L al)(sb:Srt L bl)(na:al≠[])(nb:bl≠[])
  (hfirst:∀ y,bl[0]?=some y→∀ x∈al,L y x=true) (hlast:∀ i x,i+1=al.length→al[i]?=some x→∀ y∈bl,L y x=true)
  (h:∀ r st',Dn L (al++bl) r→SG st st'→Q r st'):wpS (model prog w) A E s (H7 a b) Q st:=by
 have za:a.size=al.length:=by rw[← ea];simp
 have zb:b.size=bl.length:=by rw[← eb];simp
 have pa:=List.length_pos_iff.mpr na
 have pb:=List.length_pos_iff.mpr nb
 have ga:∀ i (hi:i<al.length),al[i]?=some al[i]∧a.toList[i]?=some al[i]∧D al[i]:=fun i hi=>⟨List.getElem?_eq_getElem hi,by rw[ea];exact List.getElem?_eq_getElem hi,hD _ (by simp)⟩
 have gb:∀ i (hi:i<bl.length),bl[i]?=some bl[i]∧b.toList[i]?=some bl[i]∧D bl[i]:=fun i hi=>⟨List.getElem?_eq_getElem hi,by rw[eb];exact List.getElem?_eq_getElem hi,hD _ (by simp)⟩
 have dn:∀(out:Array Keyed) ia ib,MI L (al++bl) out.toList (al.drop ia) (bl.drop ib)→(al.length≤ia∨bl.length≤ib)→Dn L (al++bl) (out++a.extract ia++b.extract ib):=fun out ia ib hm he=>by
  unfold Dn;simp only[Array.toList_append,Array.toList_append,Cm ea,Cm eb,List.append_assoc]
  exact hm.done (he.imp List.drop_eq_nil_of_le List.drop_eq_nil_of_le)
 have dl:∀(out:Array Keyed) ia ib,MI L (al++bl) out.toList (al.drop ia) (bl.drop ib)→ia+1=al.length→Dn L (al++bl) (out++b.extract ib++a.extract ia):=fun out ia ib hm he=>by
  unfold Dn;simp only[Array.toList_append,Array.toList_append,Cm ea,Cm eb,List.append_assoc]
  refine hm.last o fun x hx y hy=>?_
  have h1:=(ga ia (he▸Nat.lt_succ_self ia)).1
  rw[Ap h1,List.drop_eq_nil_of_le (Nat.le_of_eq he.symm)]at hx
  rw[List.mem_singleton.mp hx]
  exact hlast ia _ he h1 y (List.mem_of_mem_drop hy)
 have som:∀{r r':Array Keyed},Dn L (al++bl) r→some r=some r'→Dn L (al++bl) r':=fun h e=>Option.some.inj e▸h
 have eqb:∀{i n m:Nat},(i==n)=true→n=m→i=m:=fun h e=>(beq_iff_eq.mp h).trans e
 have neb:∀{i n m:Nat},¬ (i==n)=true→n=m→i≠m:=fun h e e2=>h (beq_iff_eq.mpr (e2.trans e.symm))
 have y0:=gb 0 pb
 refine wpS_bind (wpS_lift (wpAny_rule ⟨rfl,?_⟩))
 refine wpS_bind (Ag y0.2.1 ?_)
 have m0:MI L (al++bl) [] al bl:=⟨List.Pairwise.nil,sa,sb,(fun x hx=>by cases hx),SEq.refl _⟩
 have e0:bl=[bl[0]]++bl.drop 1:=by have:=Ap y0.1;rwa [List.drop_zero]at this
 have m1:MI L (al++bl) (#[bl[0]]:Array Keyed).toList (al.drop 0) (bl.drop 1):=MI.pushB o (c:=[bl[0]]) (by rw[← e0];exact m0) fun z hz x hx=>by rw[List.mem_singleton.mp hz];exact hfirst _ y0.1 x hx
 refine AW (fun h1=>wpS_pure (h _ _ (dn _ 0 1 m1 (.inr (Nat.le_of_eq (eqb h1 zb).symm))) ⟨gallopOf st,rfl⟩)) fun h1=>?_
 refine AW (fun h2=>wpS_pure (h _ _ (dl _ 0 1 m1 (eqb h2 za)) ⟨gallopOf st,rfl⟩)) fun h2=>?_
 refine wpS_bind (wpS_get ?_)
 refine wpS_bind (wpS_mono (wpS_forRange (I:=fun i c st'=>SG st st'∧Lo L al bl (i+1) c.2.1 c.2.2.1 c.2.2.2.1)
  (Q:=fun c st'=>SG st st'∧∃ r,c.1=some r∧Dn L (al++bl) r) ?step ?fin ?init) ?post)
 case init=>exact⟨⟨gallopOf st,rfl⟩,m1,Nat.lt_of_le_of_ne pa (neb h2 za),Nat.lt_of_le_of_ne pb (neb h1 zb),Nat.le_refl _⟩
 case fin =>
  intro c st' hI
  exact(hI.2.full (by simp only[za,zb,Nat.zero_max];exact Nat.le_succ _)).elim
 case post =>
  rintro⟨r,c⟩ st' ⟨sg,r',hr,hd⟩
  dsimp only at hr;subst hr
  exact wpS_pure (h r' _ hd sg)
 case step =>
  intro i c st' _ hi hI
  refine wpS_bind (wpS_mono (wpS_forRange (I:=fun x c st'=>SG st st'∧Lo L al bl (i+1+x) c.2.1 c.2.2.1 c.2.2.2.1)
   (Q:=fun c st'=>SG st st'∧(∀ r,c.1=some r→Dn L (al++bl) r)∧(c.1=none→Lo L al bl (i+2) c.2.1 c.2.2.1 c.2.2.2.1)) ?step1 ?fin1 hI) ?post1)
  case fin1 =>
   intro c st' hI
   exact(hI.2.full (by simp only[za,zb,Nat.zero_max];exact Nat.le_add_left ..)).elim
  case step1 =>
   clear hI
   intro x c st' _ hx hI
   have mi:=hI.2.mi;have la:=hI.2.ha;have lb:=hI.2.hb
   have u:=ga c.2.2.1 (Nat.lt_of_succ_lt la)
   have v:=gb c.2.2.2.1 lb
   refine wpS_bind (Ag v.2.1 (wpS_bind (Ag u.2.1 (wpS_bind (Do C (hI.1.kind hk) v.2.2 u.2.2 (AW (fun hw=>?_) fun hw=>?_))))))
   ·have mi':=mi.takeB o v.1 fun z hz=>o.lt_le hw (Cy o (by rw[← Ap u.1];exact mi.sa) z (by rw[← Ap u.1];exact hz))
    refine wpS_bind (Ag v.2.1 (AW (fun hb=>wpS_pure ⟨hI.1,fun r e=>som (dn _ _ _ mi' (.inr (Nat.le_of_eq (eqb hb zb).symm))) e,fun e=>by cases e⟩) fun hb=>?_))
    have lo':=hI.2.stepB mi' (neb hb zb)
    exact AW (fun O=>wpS_pure ⟨hI.1,fun r e=>(by injection e),fun O=>lo'.weak (HE ..)⟩) fun O=>wpS_pure ⟨hI.1,lo'⟩
   ·have hw':L bl[c.2.2.2.1] al[c.2.2.1]=false:=by simpa using hw
    have mi':=mi.takeA (ib:=c.2.2.2.1) u.1 fun z hz=>o.ntr _ _ _ (Cy o (by rw[← Ap v.1];exact mi.sb) z (by rw[← Ap v.1];exact hz)) hw'
    refine wpS_bind (Ag u.2.1 (AW (fun hb=>wpS_pure ⟨hI.1,fun r e=>som (dl _ _ _ mi' (eqb hb za)) e,fun e=>by cases e⟩) fun hb=>?_))
    have lo':=Lo.stepA hI.2.hm (Nat.le_refl _) (Nat.le_refl _) lb mi' la (neb hb za)
    exact AW (fun O=>wpS_pure ⟨hI.1,fun r e=>(by injection e),fun O=>lo'.weak (HE ..)⟩) fun O=>wpS_pure ⟨hI.1,lo'⟩
  case post1 =>
   clear hI
   rintro⟨r,c⟩ st' hI
   cases r with
   | some r=>exact wpS_pure ⟨hI.1,r,rfl,hI.2.1 r rfl⟩
   | none =>
   refine wpS_bind (wpS_lift (wpAny_rule ⟨rfl,?_⟩))
   refine wpS_bind (wpS_mono (wpS_forRange (I:=fun x c st'=>SG st st'∧Lo L al bl (i+2+x) c.2.1 c.2.2.1 c.2.2.2.1)
    (Q:=fun c st'=>SG st st'∧(∀ r,c.1=some r→Dn L (al++bl) r)∧(c.1=none→Lo L al bl (i+2) c.2.1 c.2.2.1 c.2.2.2.1)) ?step2 ?fin2 ⟨hI.1,hI.2.2 rfl⟩) ?post2)
   case fin2 =>
    intro c st' hI
    exact(hI.2.full (by simp only[za,zb,Nat.zero_max];exact Nat.le_add_left ..)).elim
   case post2 =>
    clear hI
    rintro⟨r,c⟩ st' hI
    cases r with
    | some r=>exact wpS_pure ⟨hI.1,r,rfl,hI.2.1 r rfl⟩
    | none=>exact wpS_bind (Dm (wpS_pure ⟨hI.1.set _,hI.2.2 rfl⟩))
   case step2 =>
    clear hI
    intro x c st' _ hx hI
    have mi:=hI.2.mi;have la:=hI.2.ha;have lb:=hI.2.hb;have lm:=hI.2.hm;have sg:=hI.1
    clear hI
    dsimp only
    generalize c.2.1=out,c.2.2.1=ia,c.2.2.2.1=ib,c.2.2.2.2.1=mg2,c.2.2.2.2.2.1=ca,c.2.2.2.2.2.2=cb at mi la lb lm ⊢
    have v:=gb ib lb
    have hv:=Cy o (by rw[← Ap v.1];exact mi.sb)
    apply QT
    ·intro key
     exact AW (fun O=>by generalize mg2 - 1=m3;exact key m3) fun O=>key mg2
    intro m3
    refine wpS_bind (Dm (wpS_bind (Ag v.2.1 (wpS_bind (Br (t:=al.drop ia) o C (sg.kind hk) (fun i x hx=>by rw[ea];rwa [List.getElem?_drop]at hx) (by rw[List.length_drop,za]) (fun p hp=>hD p (List.mem_append_left _ (List.mem_of_mem_drop hp))) v.2.2 mi.sa (by rw[za];exact Nat.sub_pos_of_lt (Nat.lt_of_succ_lt la)) fun p q e hp hq=>?_)))))
    have sg:=sg.set m3
    generalize Hm st' m3=st2 at sg ⊢
    dsimp only
    apply KB (fun(out':Array Keyed) (ia':Nat)=>MI L (al++bl) out'.toList (al.drop ia') (bl.drop ib)∧ia'+1<al.length∧ia≤ia'∧∀ z∈al.drop ia',L bl[ib] z=true)
    ·intro key
     have mi':=mi.chunkA ea e fun z hz y hy=>o.ntr _ _ _ (hv y (by rw[← Ap v.1];exact hy)) (by have:=hp z hz;simpa[GH]using this)
     have hq':∀ z∈al.drop (ia+p.length),L bl[ib] z=true:=by rw[D8 e];intro z hz;have:=hq z hz;simpa[GH]using this
     refine AW (fun hp0=>AW (fun h3=>wpS_pure ⟨sg,fun r e=>som (dl _ _ _ mi' (eqb h3 za)) e,fun e=>by cases e⟩) fun h3=>AW (fun h4=>wpS_pure ⟨sg,fun r e=>som (dn _ _ _ mi' (.inl (Nat.le_of_eq (eqb h4 za).symm))) e,fun e=>by cases e⟩) fun h4=>?_) fun hp0=>?_
     ·have hlt:ia+p.length+1<al.length:=Nat.lt_of_le_of_ne (Nat.lt_of_le_of_ne (KN e (Nat.le_of_lt (Nat.lt_of_succ_lt la))) (neb h4 za)) (neb h3 za)
      generalize ho:out++a.extract ia (ia+p.length)=out'
      generalize hi':ia+p.length=ia'
      exact key out' ia' (by subst ho;subst hi';exact⟨mi',hlt,Nat.le_add_right ..,hq'⟩)
     ·have:p.length=0:=Nat.eq_zero_of_not_pos hp0
      rw[this]at hq'
      exact key out ia ⟨mi,la,Nat.le_refl _,hq'⟩
    intro out' ia' hP
    have mi2:=hP.1.takeB o v.1 hP.2.2.2
    refine wpS_bind (Ag v.2.1 (AW (fun h5=>wpS_pure ⟨sg,fun r e=>som (dn _ _ _ mi2 (.inr (Nat.le_of_eq (eqb h5 zb).symm))) e,fun e=>by cases e⟩) fun h5=>?_))
    have h5':=neb h5 zb
    have u:=ga ia' (Nat.lt_of_succ_lt hP.2.1)
    have hu:=Cy o (by rw[← Ap u.1];exact mi2.sa)
    refine wpS_bind (Ag u.2.1 (wpS_bind (Br (t:=bl.drop (ib+1)) o C (sg.kind hk) (fun i x hx=>by rw[eb];rwa [List.getElem?_drop]at hx) (by rw[List.length_drop,zb]) (fun p hp=>hD p (List.mem_append_right _ (List.mem_of_mem_drop hp))) u.2.2 mi2.sb (by rw[zb];exact Nat.sub_pos_of_lt (Nat.lt_of_le_of_ne lb h5')) fun p2 q2 e2 hp2 hq2=>?_)))
    dsimp only
    generalize out'.push bl[ib]=out2 at mi2 ⊢
    apply KB (fun(out':Array Keyed) (ib':Nat)=>MI L (al++bl) out'.toList (al.drop ia') (bl.drop ib')∧ib'<bl.length∧ib+1≤ib'∧∀ y∈bl.drop ib',L y al[ia']=false)
    ·intro key
     have mi3:=mi2.chunkB o eb e2 fun z hz y hy=>o.lt_le (by have:=hp2 z hz;simpa[GH]using this) (hu y (by rw[← Ap u.1];exact hy))
     have hq3:∀ z∈bl.drop (ib+1+p2.length),L z al[ia']=false:=by rw[D8 e2];intro z hz;have:=hq2 z hz;simpa[GH]using this
     refine AW (fun hp0=>AW (fun h3=>wpS_pure ⟨sg,fun r e=>som (dn _ _ _ mi3 (.inr (Nat.le_of_eq (eqb h3 zb).symm))) e,fun e=>by cases e⟩) fun h3=>?_) fun hp0=>?_
     ·have hlt:ib+1+p2.length<bl.length:=Nat.lt_of_le_of_ne (KN e2 lb) (neb h3 zb)
      generalize ho:out2++b.extract (ib+1) (ib+1+p2.length)=out'
      generalize hi':ib+1+p2.length=ib'
      exact key out' ib' (by subst ho;subst hi';exact⟨mi3,hlt,Nat.le_add_right ..,hq3⟩)
     ·have:p2.length=0:=Nat.eq_zero_of_not_pos hp0
      rw[this]at hq3
      exact key out2 (ib+1) ⟨mi2,Nat.lt_of_le_of_ne lb h5',Nat.le_refl _,hq3⟩
    intro out3 ib' hP2
    have mi4:=hP2.1.takeA (ib:=ib') u.1 hP2.2.2.2
    refine wpS_bind (Ag u.2.1 (AW (fun h6=>wpS_pure ⟨sg,fun r e=>som (dl _ _ _ mi4 (eqb h6 za)) e,fun e=>by cases e⟩) fun h6=>?_))
    have lo':=Lo.stepA lm hP.2.2.1 (Nat.le_of_succ_le hP2.2.2.1) hP2.2.1 mi4 hP.2.1 (neb h6 za)
    exact AW (fun O=>wpS_pure ⟨sg,fun r e=>(by injection e),fun O=>lo'.weak (JV ..)⟩) fun O=>wpS_pure ⟨sg,lo'⟩
end
end Mine
namespace Mine


section
variable {L:Keyed→Keyed→Bool} {al bl:List Keyed} {out:Array Keyed}
noncomputable abbrev flip'(L:Keyed→Keyed→Bool):Keyed→Keyed→Bool:=fun x y=>L y x
theorem SWO.flip(o:SWO L):SWO (flip' L):=⟨fun x y h=>o.asym y x h,fun x y z h1 h2=>o.ntr z y x h2 h1⟩
theorem Srt.flip{l:List Keyed}(h:Srt (flip' L) l):Srt L l.reverse:=List.pairwise_reverse.mpr h
theorem Srt.flip'{l:List Keyed}(h:Srt L l):Srt (flip' L) l.reverse:=List.pairwise_reverse.mpr h
theorem SEq.flip{l r:List Keyed}(h:SEq (Mine.flip' L) l r.reverse):SEq L l.reverse r:=fun x=>by
 have e:EZ L x=EZ (Mine.flip' L) x:=by funext y;unfold EZ;exact Bool.and_comm ..
 rw[e,List.filter_reverse,h x,← List.filter_reverse,List.reverse_reverse]
theorem FY{α:Type}{l:List α}{n:Nat}{x:α}(h:l[n - 1]?=some x)(hn:0<n):(l.take n).reverse=x::(l.take (n - 1)).reverse:=by
 obtain⟨m,rfl⟩:∃ m,n=m+1:=⟨n - 1,by exact(Nat.sub_add_cancel hn).symm⟩
 rw[Nat.add_sub_cancel]at h ⊢
 rw[Ay h];simp
theorem Dr{α:Type}{l p q:List α}{n:Nat}(h:l.take n=p++q):l.take p.length=p:=by
 have h2:=congrArg (List.take p.length) h
 rw[List.take_left,List.take_take]at h2
 have:p.length≤n:=by have:=congrArg List.length h;simp at this;exact K2 this
 rwa [Nat.min_eq_left this]at h2
theorem Eu{a:Array Keyed}{p q:List Keyed}{n:Nat}(ha:a.toList=al)(h:al.take n=p++q):(a.extract p.length n).reverse.toList=q.reverse:=by
 rw[Array.toList_reverse,Array.toList_extract,ha]
 show(List.take (n - p.length) (List.drop p.length al)).reverse=_
 simp only[← List.drop_take,h,List.drop_left]
theorem D7{a:Array Keyed}(ha:a.toList=al)(n:Nat):(a.extract 0 n).toList=al.take n:=by
 rw[Array.toList_extract,ha];rfl

noncomputable abbrev MH(L:Keyed→Keyed→Bool)(al bl:List Keyed)(out:Array Keyed)(na nb:Nat):Prop:=MI (flip' L) (al++bl).reverse out.toList (bl.take nb).reverse (al.take na).reverse
theorem MH.takeA(o:SWO L){na nb:Nat}{x:Keyed}(h:MH L al bl out na nb)(hx:al[na - 1]?=some x)(h0:0<na)(hc:∀ y∈bl.take nb,L y x=true):MH L al bl (out.push x) (na - 1) nb:=by
 unfold MH at h ⊢;rw[Array.toList_push];rw[FY hx h0]at h
 exact MI.pushB o.flip (c:=[x]) h fun z hz y hy=>by rw[List.mem_singleton.mp hz];exact hc y (List.mem_reverse.mp hy)
theorem MH.takeB{na nb:Nat}{y:Keyed}(h:MH L al bl out na nb)(hy:bl[nb - 1]?=some y)(h0:0<nb)(hc:∀ x∈al.take na,L y x=false):MH L al bl (out.push y) na (nb - 1):=by
 unfold MH at h ⊢;rw[Array.toList_push];rw[FY hy h0]at h
 exact MI.pushA (c:=[y]) h fun z hz x hx=>by rw[List.mem_singleton.mp hz];exact hc x (List.mem_reverse.mp hx)
theorem MH.chunkA(o:SWO L){a:Array Keyed}{p q:List Keyed}{na nb:Nat}(h:MH L al bl out na nb)(ea:a.toList=al)(e:al.take na=p++q)(hc:∀ z∈q,∀ y∈bl.take nb,L y z=true):MH L al bl (out++(a.extract p.length na).reverse) p.length nb:=by
 unfold MH at h ⊢;simp only[Array.toList_append,Eu ea e,Dr e];rw[e,show(p++q).reverse=q.reverse++p.reverse from List.reverse_append ..]at h
 exact h.pushB o.flip fun z hz y hy=>hc z (List.mem_reverse.mp hz) y (List.mem_reverse.mp hy)
theorem MH.chunkB{b:Array Keyed}{p q:List Keyed}{na nb:Nat}(h:MH L al bl out na nb)(eb:b.toList=bl)(e:bl.take nb=p++q)(hc:∀ z∈q,∀ x∈al.take na,L z x=false):MH L al bl (out++(b.extract p.length nb).reverse) na p.length:=by
 unfold MH at h ⊢;simp only[Array.toList_append,Eu eb e,Dr e];rw[e,show(p++q).reverse=q.reverse++p.reverse from List.reverse_append ..]at h
 exact h.pushA fun z hz x hx=>hc z (List.mem_reverse.mp hz) x (List.mem_reverse.mp hx)
structure Hi (L:Keyed→Keyed→Bool) (al bl:List Keyed) (m na nb:Nat) (out:Array Keyed):Prop where
 mi:MH L al bl out na nb
 ha:0<na
 ha':na≤al.length
 hb:1<nb
 hb':nb≤bl.length
 hm:na+nb+m≤al.length+bl.length
theorem Hi.full{m na nb:Nat}(h:Hi L al bl m na nb out)(hm:al.length+bl.length≤m):False:=by have:=h.hm;have:=h.ha;exact PW (by assumption) this hm
theorem Hi.weak{m m' na nb:Nat}(h:Hi L al bl m na nb out)(hm:m'≤m):Hi L al bl m' na nb out:=⟨h.mi,h.ha,h.ha',h.hb,h.hb',Nat.le_trans (Nat.add_le_add_left hm _) h.hm⟩
theorem Hi.stepA{out':Array Keyed}{m na nb na' nb':Nat}(la:na≤al.length)(lb:nb≤bl.length)(lm:na+nb+m≤al.length+bl.length)(h1:na'≤na)(h2:nb'≤nb)(h0:0<na')(hb:1<nb')(mi:MH L al bl out' (na' - 1) nb')(hn:na' - 1≠0):Hi L al bl (m+1) (na' - 1) nb' out' :=
 ⟨mi,Nat.pos_of_ne_zero hn,Nat.le_trans (Nat.sub_le ..) (Nat.le_trans h1 la),hb,Nat.le_trans h2 lb,by exact PU lm h0 h1 h2⟩
theorem Hi.stepB{out':Array Keyed}{m na nb:Nat}(h:Hi L al bl m na nb out)(mi:MH L al bl out' na (nb - 1))(hn:nb - 1≠1):Hi L al bl (m+1) na (nb - 1) out' :=
 ⟨mi,h.ha,h.ha',by have:=h.hb;exact K1 this hn,Nat.le_trans (Nat.sub_le ..) h.hb',by have:=h.hm;have:=h.hb;exact PT (by assumption) this⟩
theorem Ch{n m:Nat}(h:0<n)(hm:n≤m):n - 1<m:=by exact PS h hm
theorem NG{n:Nat}(h:0<n)(h1:n≠0)(h2:n≠1):1<n:=by exact Nat.lt_of_le_of_ne h (Ne.symm h2)
theorem Hr{n:Nat}(h:1<n)(h1:n - 1≠1):1<n - 1:=by exact K1 h h1
theorem JL{l p q:List Keyed}{n:Nat}(e:l.take n=p++q):p.length≤n:=by have:=congrArg List.length e;simp at this;exact K2 this
theorem GL{l p q:List Keyed}{n kk:Nat}(e:l.take n=p++q)(hn:n≤l.length)(hk:n - p.length=kk)(h:¬ kk>0):p.length=n:=by have:=congrArg List.length e;simp at this;exact PR this hk h
theorem He{l:List Keyed}{n:Nat}(h:n≤l.length):n=(l.take n).length:=by rw[List.length_take];exact(Nat.min_eq_left h).symm
theorem Ds(o:SWO L){l:List Keyed}{n:Nat}{x:Keyed}(h:Srt L l)(hx:l[n - 1]?=some x)(h0:0<n):∀ z∈l.take n,L x z=false:=fun z hz=>by
 obtain⟨i,hi⟩:=List.mem_iff_getElem?.mp hz
 rw[List.getElem?_take]at hi
 split at hi
 ·exact h.get o hi hx (by exact PQ h0 (by assumption))
 ·injection hi

variable {prog:Program} {w:World} {A:Around} {E:Value→Shared→Prop} {s:Shared} {κ:SortKind} {D:Keyed→Prop}
theorem Ha{st:SortSt}{a b:Array Keyed}{Q:Array Keyed→SortSt→Prop}(o:SWO L)(C:DT prog w A s κ D L)(hk:kindOf st=κ)(ea:a.toList=al)(eb:b.toList=bl)(hD:∀ p∈al++bl,D p)(sa:Srt L al)(sb:Srt L bl)(na:al≠[])(nb:bl≠[])
  (hfirst:∀ y,bl[0]?=some y→∀ x∈al,L y x=true) (hlast:∀ i x,i+1=al.length→al[i]?=some x→∀ y∈bl,L y x=true)
  (h:∀ r st',Dn L (al++bl) r→SG st st'→Q r st'):wpS (model prog w) A E s (H8 a b) Q st:=by
 have za:a.size=al.length:=by rw[← ea];simp
 have zb:b.size=bl.length:=by rw[← eb];simp
 have pa:=List.length_pos_iff.mpr na
 have pb:=List.length_pos_iff.mpr nb
 have ga:∀ i (hi:i<al.length),al[i]?=some al[i]∧a.toList[i]?=some al[i]∧D al[i]:=fun i hi=>⟨List.getElem?_eq_getElem hi,by rw[ea];exact List.getElem?_eq_getElem hi,hD _ (by simp)⟩
 have gb:∀ i (hi:i<bl.length),bl[i]?=some bl[i]∧b.toList[i]?=some bl[i]∧D bl[i]:=fun i hi=>⟨List.getElem?_eq_getElem hi,by rw[eb];exact List.getElem?_eq_getElem hi,hD _ (by simp)⟩
 have dn:∀(out:Array Keyed) na nb,MH L al bl out na nb→(na=0∨nb=0)→Dn L (al++bl) (a.extract 0 na++b.extract 0 nb++out.reverse):=fun out na nb hm he=>by
  unfold Dn;simp only[Array.toList_append,Array.toList_append,D7 ea,D7 eb,Array.toList_reverse]
  have:=MI.done hm (he.symm.imp (by rintro rfl;rfl) (by rintro rfl;rfl))
  have e:al.take na++bl.take nb++out.toList.reverse=(out.toList++((bl.take nb).reverse++(al.take na).reverse)).reverse:=by simp
  rw[e];exact⟨this.1.flip,this.2.flip⟩
 have df:∀(out:Array Keyed) na nb,MH L al bl out na nb→nb=1→Dn L (al++bl) (b.extract 0 nb++a.extract 0 na++out.reverse):=fun out na nb hm he=>by
  unfold Dn;simp only[Array.toList_append,Array.toList_append,D7 ea,D7 eb,Array.toList_reverse]
  have:=MI.last o.flip hm fun x hx y hy=>by
   have h1:=(gb 0 pb).1
   subst he
   rw[Ay h1]at hx
   have:x=bl[0]:=by simpa using hx
   subst this
   exact hfirst _ h1 y (List.mem_of_mem_take (List.mem_reverse.mp hy))
  have e:bl.take nb++al.take na++out.toList.reverse=(out.toList++((al.take na).reverse++(bl.take nb).reverse)).reverse:=by simp
  rw[e];exact⟨this.1.flip,this.2.flip⟩
 have som:∀{r r':Array Keyed},Dn L (al++bl) r→some r=some r'→Dn L (al++bl) r':=fun h e=>Option.some.inj e▸h
 have eqb:∀{i n:Nat},(i==n)=true→i=n:=fun h=>beq_iff_eq.mp h
 have neb:∀{i n:Nat},¬ (i==n)=true→i≠n:=fun h e=>h (beq_iff_eq.mpr e)
 have x0:=ga (a.size - 1) (Ch (by rw[za];exact pa) (Nat.le_of_eq za))
 refine wpS_bind (wpS_lift (wpAny_rule ⟨rfl,?_⟩))
 refine wpS_bind (Ag x0.2.1 ?_)
 have m0:MI (flip' L) (al++bl).reverse [] bl.reverse al.reverse:=⟨List.Pairwise.nil,sb.flip',sa.flip',(fun x hx=>by cases hx),SEq.of_eq (by simp)⟩
 have m1:MH L al bl #[al[a.size - 1]] (a.size - 1) b.size:=by
  have:=MH.takeA (out:=#[]) (na:=a.size) (nb:=b.size) o (by rw[MH,za,zb,List.take_length,List.take_length];exact m0) x0.1 (by rw[za];exact pa) fun y hy=>hlast (a.size - 1) _ (by rw[za];exact Nat.sub_add_cancel pa) x0.1 y (List.mem_of_mem_take hy)
  exact this
 refine AW (fun h1=>wpS_pure (h _ _ (dn _ _ _ m1 (.inl (eqb h1))) ⟨gallopOf st,rfl⟩)) fun h1=>?_
 refine AW (fun h2=>wpS_pure (h _ _ (df _ _ _ m1 (eqb h2)) ⟨gallopOf st,rfl⟩)) fun h2=>?_
 have h1':=neb h1;have h2':=neb h2
 refine wpS_bind (wpS_get ?_)
 refine wpS_bind (wpS_mono (wpS_forRange (I:=fun i c st'=>SG st st'∧Hi L al bl (i+1) c.2.1 c.2.2.1 c.2.2.2.1)
  (Q:=fun c st'=>SG st st'∧∃ r,c.1=some r∧Dn L (al++bl) r) ?step ?fin ?init) ?post)
 case init=>exact⟨⟨gallopOf st,rfl⟩,Hi.stepA (m:=0) (Nat.le_of_eq za) (Nat.le_of_eq zb) (by rw[za,zb];exact Nat.le_refl _) (Nat.le_refl _) (Nat.le_refl _) (by rw[za];exact pa) (show 1<b.size by(first | lia | omega)) m1 h1'⟩
 case fin =>
  intro c st' hI
  exact(hI.2.full (by simp only[za,zb,Nat.zero_max];exact Nat.le_succ _)).elim
 case post =>
  rintro⟨r,c⟩ st' ⟨sg,r',hr,hd⟩
  dsimp only at hr;subst hr
  exact wpS_pure (h r' _ hd sg)
 case step =>
  intro i c st' _ hi hI
  refine wpS_bind (wpS_mono (wpS_forRange (I:=fun x c st'=>SG st st'∧Hi L al bl (i+1+x) c.2.1 c.2.2.1 c.2.2.2.1)
   (Q:=fun c st'=>SG st st'∧(∀ r,c.1=some r→Dn L (al++bl) r)∧(c.1=none→Hi L al bl (i+2) c.2.1 c.2.2.1 c.2.2.2.1)) ?step1 ?fin1 hI) ?post1)
  case fin1 =>
   intro c st' hI
   exact(hI.2.full (by simp only[za,zb,Nat.zero_max];exact Nat.le_add_left ..)).elim
  case step1 =>
   clear hI
   intro x c st' _ hx hI
   have mi:=hI.2.mi;have la:=hI.2.ha;have la':=hI.2.ha';have lb:=hI.2.hb;have lb':=hI.2.hb'
   have u:=ga (c.2.1 - 1) (Ch la la')
   have v:=gb (c.2.2.1 - 1) (Ch (Nat.lt_of_succ_lt lb) lb')
   refine wpS_bind (Ag v.2.1 (wpS_bind (Ag u.2.1 (wpS_bind (Do C (hI.1.kind hk) v.2.2 u.2.2 (AW (fun hw=>?_) fun hw=>?_))))))
   ·have mi':=mi.takeA o u.1 la fun z hz=>o.le_lt (Ds o sb v.1 (Nat.lt_of_succ_lt lb) z hz) hw
    refine wpS_bind (Ag u.2.1 (AW (fun hb=>wpS_pure ⟨hI.1,fun r e=>som (dn _ _ _ mi' (.inl (eqb hb))) e,fun e=>by cases e⟩) fun hb=>?_))
    have lo':=Hi.stepA la' lb' hI.2.hm (Nat.le_refl _) (Nat.le_refl _) la lb mi' (neb hb)
    exact AW (fun O=>wpS_pure ⟨hI.1,fun r e=>(by injection e),fun O=>lo'.weak (HE ..)⟩) fun O=>wpS_pure ⟨hI.1,lo'⟩
   ·have hw':L bl[c.2.2.1 - 1] al[c.2.1 - 1]=false:=by simpa using hw
    have mi':=mi.takeB v.1 (Nat.lt_of_succ_lt lb) fun z hz=>o.ntr _ _ _ hw' (Ds o sa u.1 la z hz)
    refine wpS_bind (Ag v.2.1 (AW (fun hb=>wpS_pure ⟨hI.1,fun r e=>som (df _ _ _ mi' (eqb hb)) e,fun e=>by cases e⟩) fun hb=>?_))
    have lo':=hI.2.stepB mi' (neb hb)
    exact AW (fun O=>wpS_pure ⟨hI.1,fun r e=>(by injection e),fun O=>lo'.weak (HE ..)⟩) fun O=>wpS_pure ⟨hI.1,lo'⟩
  case post1 =>
   clear hI
   rintro⟨r,c⟩ st' hI
   cases r with
   | some r=>exact wpS_pure ⟨hI.1,r,rfl,hI.2.1 r rfl⟩
   | none =>
   refine wpS_bind (wpS_lift (wpAny_rule ⟨rfl,?_⟩))
   refine wpS_bind (wpS_mono (wpS_forRange (I:=fun x c st'=>SG st st'∧Hi L al bl (i+2+x) c.2.1 c.2.2.1 c.2.2.2.1)
    (Q:=fun c st'=>SG st st'∧(∀ r,c.1=some r→Dn L (al++bl) r)∧(c.1=none→Hi L al bl (i+2) c.2.1 c.2.2.1 c.2.2.2.1)) ?step2 ?fin2 ⟨hI.1,hI.2.2 rfl⟩) ?post2)
   case fin2 =>
    intro c st' hI
    exact(hI.2.full (by simp only[za,zb,Nat.zero_max];exact Nat.le_add_left ..)).elim
   case post2 =>
    clear hI
    rintro⟨r,c⟩ st' hI
    cases r with
    | some r=>exact wpS_pure ⟨hI.1,r,rfl,hI.2.1 r rfl⟩
    | none=>exact wpS_bind (Dm (wpS_pure ⟨hI.1.set _,hI.2.2 rfl⟩))
   case step2 =>
    clear hI
    intro x c st' _ hx hI
    have mi:=hI.2.mi;have la:=hI.2.ha;have la':=hI.2.ha';have lb:=hI.2.hb;have lb':=hI.2.hb';have lm:=hI.2.hm;have sg:=hI.1
    clear hI
    dsimp only
    generalize c.2.1=na,c.2.2.1=nb,c.2.2.2.1=out,c.2.2.2.2.1=mg2,c.2.2.2.2.2.1=ca,c.2.2.2.2.2.2=cb at mi la la' lb lb' lm ⊢
    have nb0:=Nat.lt_of_succ_lt lb
    have v:=gb (nb - 1) (Ch nb0 lb')
    have hv:=Ds o sb v.1 nb0
    apply QT
    ·intro key
     exact AW (fun O=>by generalize mg2 - 1=m3;exact key m3) fun O=>key mg2
    intro m3
    refine wpS_bind (Dm (wpS_bind (Ag v.2.1 (wpS_bind (Br (t:=al.take na) o C (sg.kind hk) (fun i x hx=>by rw[ea,Nat.zero_add];rw[List.getElem?_take]at hx;split at hx;exact hx;injection hx) (He la') (fun p hp=>hD p (List.mem_append_left _ (List.mem_of_mem_take hp))) v.2.2 (sa.sublist (List.take_sublist ..)) (Ch la (Nat.le_refl _)) fun p q e hp hq=>?_)))))
    have sg:=sg.set m3
    generalize Hm st' m3=st2 at sg ⊢
    dsimp only
    generalize hkk:na - p.length=kk
    apply KB (fun(na':Nat) (out':Array Keyed)=>MH L al bl out' na' nb∧0<na'∧na'≤na∧∀ z∈al.take na',L bl[nb - 1] z=false)
    ·intro key
     have mi':=mi.chunkA o ea e fun z hz y hy=>o.le_lt (hv y hy) (by have:=hq z hz;simpa[GH]using this)
     have hq':∀ z∈al.take p.length,L bl[nb - 1] z=false:=by rw[Dr e];intro z hz;have:=hp z hz;simpa[GH]using this
     refine AW (fun hp0=>AW (fun h3=>wpS_pure ⟨sg,fun r e=>som (dn _ _ _ mi' (.inl (eqb h3))) e,fun e=>by cases e⟩) fun h3=>?_) fun hp0=>?_
     ·generalize ho:out++(a.extract p.length na).reverse=out'
      generalize hi':p.length=na'
      exact key na' out' (by subst ho;rw[← hi'];exact⟨mi',Nat.pos_of_ne_zero (neb h3),JL e,hq'⟩)
     ·have:p.length=na:=GL e la' hkk hp0
      rw[this]at hq'
      exact key na out ⟨mi,la,Nat.le_refl _,hq'⟩
    intro na' out' hP
    have l1:=hP.2.1;have l2:=hP.2.2.1
    have mi2:=hP.1.takeB v.1 nb0 hP.2.2.2
    refine wpS_bind (Ag v.2.1 (AW (fun h5=>wpS_pure ⟨sg,fun r e=>som (df _ _ _ mi2 (eqb h5)) e,fun e=>by cases e⟩) fun h5=>?_))
    have h5':=neb h5
    have u:=ga (na' - 1) (Ch l1 (Nat.le_trans l2 la'))
    have hu:=Ds o sa u.1 l1
    refine wpS_bind (Ag u.2.1 (wpS_bind (Br (t:=bl.take (nb - 1)) o C (sg.kind hk) (fun i x hx=>by rw[eb,Nat.zero_add];rw[List.getElem?_take]at hx;split at hx;exact hx;injection hx) (He (Nat.le_trans (Nat.sub_le ..) lb')) (fun p hp=>hD p (List.mem_append_right _ (List.mem_of_mem_take hp))) u.2.2 (sb.sublist (List.take_sublist ..)) (Ch (Nat.lt_of_succ_lt (Hr lb h5')) (Nat.le_refl _)) fun p2 q2 e2 hp2 hq2=>?_)))
    dsimp only
    generalize out'.push bl[nb - 1]=out2 at mi2 ⊢
    generalize hkk2:nb - 1 - p2.length=kk2
    apply KB (fun(nb':Nat) (out':Array Keyed)=>MH L al bl out' na' nb'∧1<nb'∧nb'≤nb - 1∧∀ y∈bl.take nb',L y al[na' - 1]=true)
    ·intro key
     have mi3:=mi2.chunkB eb e2 fun z hz y hy=>o.ntr _ _ _ (by have:=hq2 z hz;simpa[GH]using this) (hu y hy)
     have hq3:∀ z∈bl.take p2.length,L z al[na' - 1]=true:=by rw[Dr e2];intro z hz;have:=hp2 z hz;simpa[GH]using this
     refine AW (fun hp0=>AW (fun h3=>wpS_pure ⟨sg,fun r e=>som (df _ _ _ mi3 (eqb h3)) e,fun e=>by cases e⟩) fun h3=>AW (fun h4=>wpS_pure ⟨sg,fun r e=>som (dn _ _ _ mi3 (.inr (eqb h4))) e,fun e=>by cases e⟩) fun h4=>?_) fun hp0=>?_
     ·generalize ho:out2++(b.extract p2.length (nb - 1)).reverse=out'
      generalize hi':p2.length=nb'
      exact key nb' out' (by subst ho;rw[← hi'];exact⟨mi3,NG (Nat.pos_of_ne_zero (neb h4)) (neb h4) (neb h3),JL e2,hq3⟩)
     ·have:p2.length=nb - 1:=GL e2 (Nat.le_trans (Nat.sub_le ..) lb') hkk2 hp0
      rw[this]at hq3
      exact key (nb - 1) out2 ⟨mi2,Hr lb h5',Nat.le_refl _,hq3⟩
    intro nb' out3 hP2
    have mi4:=hP2.1.takeA o u.1 l1 hP2.2.2.2
    refine wpS_bind (Ag u.2.1 (AW (fun h6=>wpS_pure ⟨sg,fun r e=>som (dn _ _ _ mi4 (.inl (eqb h6))) e,fun e=>by cases e⟩) fun h6=>?_))
    have lo':=Hi.stepA la' lb' lm l2 (Nat.le_trans hP2.2.2.1 (Nat.sub_le ..)) l1 hP2.2.1 mi4 (neb h6)
    exact AW (fun O=>wpS_pure ⟨sg,fun r e=>(by injection e),fun O=>lo'.weak (JV ..)⟩) fun O=>wpS_pure ⟨sg,lo'⟩
end
end Mine
namespace Mine


section
variable {L:Keyed→Keyed→Bool}
noncomputable def Pend:Nat→List (List Keyed)→List (Nat × Nat × Nat)→Prop
 | _,[],[]=>True
 | base,b::bs,p::ps=>p.1=base∧p.2.1=b.length∧b≠[]∧Pend (base+b.length) bs ps
 | _,_,_=>False
theorem Pend.length:∀{base bs ps},Pend base bs ps→bs.length=ps.length
 | _,[],[],_=>rfl
 | _,b::bs,p::ps,h=>by simp only[List.length_cons,List.length_cons,h.2.2.2.length]
theorem Pend.split:∀{base bs} {p1 p2:List (Nat × Nat × Nat)},Pend base bs (p1++p2)→∃ b1 b2,bs=b1++b2∧b1.length=p1.length∧Pend base b1 p1∧Pend (base+b1.flatten.length) b2 p2
 | base,bs,[],p2,h=>⟨[],bs,rfl,rfl,trivial,by simpa using h⟩
 | base,[],p::p1,p2,h=>h.elim
 | base,b::bs,p::p1,p2,h=>by
  obtain⟨b1,b2,e,e2,h1,h2⟩:=Pend.split (p1:=p1) h.2.2.2
  exact⟨b::b1,b2,by rw[e];rfl,by simp[e2],⟨h.1,h.2.1,h.2.2.1,h1⟩,by rwa [List.flatten_cons,List.length_append,← Nat.add_assoc]⟩
theorem Pend.join:∀{base b1 b2} {p1 p2:List (Nat × Nat × Nat)},Pend base b1 p1→Pend (base+b1.flatten.length) b2 p2→Pend base (b1++b2) (p1++p2)
 | base,[],b2,[],p2,_,h=>by simpa using h
 | base,b::b1,b2,p::p1,p2,h,h2=>⟨h.1,h.2.1,h.2.2.1,Pend.join h.2.2.2 (by rwa [List.flatten_cons,List.length_append,← Nat.add_assoc]at h2)⟩
theorem Pend.le:∀{base bs ps},Pend base bs ps→bs.length≤bs.flatten.length
 | _,[],[],_=>Nat.le_refl _
 | _,b::bs,p::ps,h=>by
  have:=h.2.2.2.le
  have:=List.length_pos_iff.mpr h.2.2.1
  simp only[List.flatten_cons,List.length_append,List.length_cons];exact PP this (by assumption)

theorem Pend.two{base:Nat}{p q:Nat × Nat × Nat}{ps:List (Nat × Nat × Nat)}:∀{bs},Pend base bs (p::q::ps)→∃ x y b,bs=x::y::b∧p.1=base∧p.2.1=x.length∧x≠[]∧q.1=base+x.length∧q.2.1=y.length∧y≠[]∧Pend (base+x.length+y.length) b ps
 | x::y::b,h=>⟨x,y,b,rfl,h.1,h.2.1,h.2.2.1,h.2.2.2.1,h.2.2.2.2.1,h.2.2.2.2.2.1,h.2.2.2.2.2.2⟩
 | [],h=>h.elim
 | [_],h=>h.2.2.2.elim

structure RI (L:Keyed→Keyed→Bool) (κ:SortKind) (a0:List Keyed) (lo:Nat) (rest:List Keyed) (st:SortSt):Prop where
 kind:kindOf st=κ
 failed:failedOf st=none
 runs:∃ bs,Pend 0 bs (pendingOf st).toList∧(∀ b∈bs,Srt L b)∧(arrOf st).toList=bs.flatten++rest∧bs.flatten.length=lo∧SEq L (bs.flatten++rest) a0

theorem Dl{base:Nat}{R:List Keyed}:∀(ms S P:List Keyed) (n:Nat) (arr:Array Keyed),arr.toList=P++S++R→S.length=ms.length→P.length=base+n →
  ((ms.zipIdx n).foldl (fun a (x:Keyed × Nat)=>match x with | (p,j)=>a.setIfInBounds (base+j) p) arr).toList=P++ms++R
 | [],S,P,n,arr,h,hl,_=>by
  have:S=[]:=List.length_eq_zero_iff.mp hl
  subst this;exact h
 | m::ms,[],P,n,arr,h,hl,_=>by simp at hl
 | m::ms,x::S,P,n,arr,h,hl,hp=>by
  rw[List.zipIdx_cons,List.foldl_cons]
  have:=Dl (base:=base) (R:=R) ms S (P++[m]) (n+1) (arr.setIfInBounds (base+n) m) (by
   rw[Array.toList_setIfInBounds,h,← hp,List.append_assoc,List.set_append_right _ _ (Nat.le_refl _),Nat.sub_self];simp) (by simpa using hl) (by simp;exact congrArg _ hp)
  rw[show P++m::ms=P++[m]++ms by simp];exact this

variable {prog:Program} {w:World} {A:Around} {E:Value→Shared→Prop} {s:Shared} {κ:SortKind} {D:Keyed→Prop}

theorem MJ{M:Model}{s':SortSt}{Q:PUnit→SortSt→Prop}{st:SortSt}(h:Q ⟨⟩ s'):wpS M A E s (set s':StateT SortSt Sem PUnit) Q st:=by
 unfold wpS;simp only[StateT.run_set];exact wpAny_pure ⟨rfl,h⟩
theorem Ih{α β:Type}{M:Model}{c:Prop}[Decidable c]{m1 m2:StateT SortSt Sem α}{f:α→StateT SortSt Sem β}{Q:β→SortSt→Prop}{st:SortSt}(h:wpS M A E s (if c then m1 else m2) (fun a st'=>wpS M A E s (f a) Q st') st) :
  wpS M A E s (if c then m1 >>= f else m2 >>= f) Q st:=by
 split at h
 ·refine Df (by assumption) ?_;exact wpS_bind h
 ·refine C2 (by assumption) ?_;exact wpS_bind h
theorem Jj{st:SortSt}{a b:Array Keyed}{al bl:List Keyed}{na nb:Nat}{Q:Array Keyed→SortSt→Prop}(o:SWO L)(C:DT prog w A s κ D L)(hk:kindOf st=κ)(ea:a.toList=al)(eb:b.toList=bl)(hD:∀ p∈al++bl,D p)(sa:Srt L al)(sb:Srt L bl)(hna:al≠[])(hnb:bl≠[])
  (hfirst:∀ y,bl[0]?=some y→∀ x∈al,L y x=true) (hlast:∀ i x,i+1=al.length→al[i]?=some x→∀ y∈bl,L y x=true)
  (h:∀ r g,Dn L (al++bl) r→Q r (Hm st g)):wpS (model prog w) A E s (if na≤nb then H7 a b else H8 a b) Q st:=by
 have h':∀ r st',Dn L (al++bl) r→SG st st'→Q r st':=fun r st' hd hg=>by obtain⟨g,rfl⟩:=hg;exact h r g hd
 exact AW (fun O=>HZ o C hk ea eb hD sa sb hna hnb hfirst hlast h') fun O=>Ha o C hk ea eb hD sa sb hna hnb hfirst hlast h'

theorem El{st:SortSt}{a0 rest:List Keyed}{lo i:Nat}{Q:Bool→SortSt→Prop}(o:SWO L)(C:DT prog w A s κ D L)(hD:∀ p∈a0,D p)(R:RI L κ a0 lo rest st)(hi:i+1<(pendingOf st).size)
  (h:∀ st',RI L κ a0 lo rest st'→(pendingOf st').size+1=(pendingOf st).size→Q true st'):wpS (model prog w) A E s (mergeAt' i) Q st:=by
 obtain⟨hk,hf,bs,hp,hs,ha,hlo,hse⟩:=R
 have hzl:(pendingOf st).toList.length=(pendingOf st).size:=Array.length_toList
 obtain⟨⟨sa,na,pw⟩,ht1⟩:∃ t,(pendingOf st).toList[i]?=some t:=⟨_,List.getElem?_eq_getElem (by exact PO hi hzl)⟩
 obtain⟨⟨sb,nb,pw2⟩,ht2⟩:∃ t,(pendingOf st).toList[i+1]?=some t:=⟨_,List.getElem?_eq_getElem (by(first | lia | omega))⟩
 have hpe:(pendingOf st).toList=(pendingOf st).toList.take i++(sa,na,pw)::(sb,nb,pw2)::(pendingOf st).toList.drop (i+2):=by
  simp only[← Ap ht2,← Ap ht1,List.take_append_drop]
 generalize hp1:(pendingOf st).toList.take i=p1 at hpe
 generalize hp2:(pendingOf st).toList.drop (i+2)=p2 at hpe
 have hl1:p1.length=i:=by rw[← hp1,List.length_take];exact PN hi hzl
 rw[hpe]at hp
 obtain⟨b1,b2,rfl,hb1,hP1,hP2⟩:=hp.split
 obtain⟨x,y,b4,rfl,e1,e2,hx,e3,e4,hy,hP3⟩:=hP2.two
 dsimp only at e1 e2 e3 e4
 rw[Nat.zero_add]at e1 e3 hP3
 have fl:(b1++x::y::b4).flatten=b1.flatten++(x++(y++b4.flatten)):=by simp
 rw[fl]at ha hlo hse
 have sx:=hs x (by simp)
 have sy:=hs y (by simp)
 have hDx:∀ p∈x++y,D p:=fun p hp=>hD p (hse.mem o (by simp only[List.mem_append]at hp ⊢;rcases hp with h | h<;>simp[h]))
 have px:=List.length_pos_iff.mpr hx
 have py:=List.length_pos_iff.mpr hy
 have gx:∀ j z,x[j]?=some z→(arrOf st).toList[sa+j]?=some z:=fun j z hz=>by
  have:=(List.getElem?_eq_some_iff.mp hz).1
  rw[ha,e1,List.append_assoc,List.getElem?_append_right (by exact Nat.le_add_right _ _),Nat.add_sub_cancel_left,List.append_assoc,List.getElem?_append_left this];exact hz
 have gy:∀ j z,y[j]?=some z→(arrOf st).toList[sb+j]?=some z:=fun j z hz=>by
  have:=(List.getElem?_eq_some_iff.mp hz).1
  rw[ha,e3,List.append_assoc,List.getElem?_append_right (by exact PM),List.append_assoc,List.getElem?_append_right (by exact PL),List.append_assoc,List.getElem?_append_left (by exact PK this),← hz];congr 1;exact PJ
 -- what stands at the end
 have fin:∀(st':SortSt) (z:List Keyed),kindOf st'=κ→failedOf st'=none→(pendingOf st').toList=p1++(sa,na+nb,pw)::p2→(arrOf st').toList=b1.flatten++(z++b4.flatten)++rest→Srt L z→SEq L z (x++y)→Q true st':=fun st' z h1 h2 h3 h4 h5 h6=>by
  have hz:=h6.length o
  rw[List.length_append]at hz
  refine h st' ⟨h1,h2,b1++z::b4,?_,?_,?_,?_,?_⟩ ?_
  ·rw[h3]
   refine Pend.join hP1 ⟨by simp only[e1,Nat.zero_add],by simp only[hz,e2,e4],?_,?_⟩
   ·rintro rfl;simp at hz;exact PI py hz
   ·simp only[hz,Nat.zero_add,← Nat.add_assoc];exact hP3
  ·intro b hb
   rcases List.mem_append.mp hb with hb | hb
   ·exact hs b (by simp[hb])
   ·rcases List.mem_cons.mp hb with rfl | hb
    ·exact h5
    ·exact hs b (by simp[hb])
  ·rw[h4];simp
  ·rw[← hlo];simp[hz];exact Nat.add_assoc _ _ _
  ·refine SEq.trans ?_ hse
   simp only[show(b1++z::b4).flatten++rest=b1.flatten++(z++(b4.flatten++rest))by simp,show b1.flatten++(x++(y++b4.flatten))++rest=b1.flatten++(x++y++(b4.flatten++rest))by simp]
   exact SEq.left _ (h6.right _)
  ·simp only[← hzl,← Array.length_toList,h3,hpe];simp;exact rfl
 have hkx:∀ p,kindOf (setPending st p)=κ:=fun O=>hk
 have hpd:((((pendingOf st).setIfInBounds i (sa,na+nb,pw)).eraseIdxIfInBounds (i+1))).toList=p1++(sa,na+nb,pw)::p2:=by
  rw[Array.eraseIdxIfInBounds_eq,dif_pos (by simpa using hi),Array.toList_eraseIdx,Array.toList_setIfInBounds,hpe,← hl1,List.set_append_right _ _ (Nat.le_refl _),Nat.sub_self,List.set_cons_zero,
   List.eraseIdx_append_of_length_le (by exact Nat.le_succ _),Nat.add_sub_cancel_left];rfl
 obtain⟨y0,hy0⟩:∃ z,y[0]?=some z:=⟨_,List.getElem?_eq_getElem py⟩
 obtain⟨xl,hxl⟩:∃ z,x[na - 1]?=some z:=⟨_,List.getElem?_eq_getElem (by exact PH px e2)⟩
 have dy0:=hDx y0 (List.mem_append_right _ (List.mem_of_getElem? hy0))
 have dxl:=hDx xl (List.mem_append_left _ (List.mem_of_getElem? hxl))
 have hle0:∀ z∈y,L z y0=false:=by
  have e:y=y0::y.drop 1:=by have:=Ap hy0;simpa using this
  rw[e];exact Cy o (by rw[← e];exact sy)
 have hlel:∀ z∈x,L xl z=false:=by have:=Ds o sx hxl (by exact Nat.lt_of_lt_of_eq px e2.symm);rwa [List.take_of_length_le (by exact Nat.le_of_eq e2.symm)]at this
 have same:∀(st':SortSt),kindOf st'=κ→failedOf st'=none→(pendingOf st').toList=p1++(sa,na+nb,pw)::p2→arrOf st'=arrOf st→(∀ z∈x,∀ u∈y,L u z=false)→Q true st':=fun st' h1 h2 h3 h4 h5 =>
  fin st' (x++y) h1 h2 h3 (by simp only[h4,ha];simp) (Srt.append.mpr ⟨sx,sy,h5⟩) (SEq.refl _)
 have r1:(pendingOf st)[i]?=some (sa,na,pw):=by rw[← Array.getElem?_toList];exact ht1
 have r2:(pendingOf st)[i+1]?=some (sb,nb,pw2):=by rw[← Array.getElem?_toList];exact ht2
 refine wpS_bind (wpS_get ?_)
 rw[r1,r2]
 refine wpS_bind (MJ (wpS_bind (Ag (x:=y0) (by have:=gy 0 y0 hy0;exact this) (wpS_bind (Br (t:=x) o C hk gx e2 (fun p hp=>hDx p (List.mem_append_left _ hp)) dy0 sx (by exact Nat.lt_of_lt_of_eq px e2.symm) fun x1 x2 ex hx1 hx2=>?_)))))
 dsimp only
 have lx:x1.length+x2.length=na:=by simp only[e2,ex,List.length_append]
 by_cases hn:na - x1.length=0
 ·refine Df (by rw[hn];rfl) ?_
  have:x2=[]:=List.length_eq_zero_iff.mp (by exact PG lx hn)
  rw[this,List.append_nil]at ex
  exact wpS_pure (same _ hk hf hpd rfl fun z hz u hu=>o.ntr _ _ _ (hle0 u hu) (by have:=hx1 z (by rw[← ex];exact hz);simpa[GH]using this))
 refine C2 (by rw[beq_iff_eq];exact hn) ?_
 have ei:sa+x1.length+(na - x1.length) - 1=sa+(na - 1):=by exact PE e2 px lx
 refine wpS_bind (Ag (x:=xl) (by rw[ei];exact gx _ _ hxl) (wpS_bind (Br (t:=y) o C hk gy e4 (fun p hp=>hDx p (List.mem_append_right _ hp)) dxl sy (by exact PD py e4) fun y1 y2 ey hy1 hy2=>?_)))
 dsimp only
 by_cases hm:y1.length=0
 ·refine Df (by rw[hm];rfl) ?_
  have:y1=[]:=List.length_eq_zero_iff.mp hm
  rw[this,List.nil_append]at ey
  exact wpS_pure (same _ hk hf hpd rfl fun z hz u hu=>o.ntr _ _ _ (by have:=hy2 u (by rw[← ey];exact hu);simpa[GH]using this) (hlel z hz))
 refine C2 (by rw[beq_iff_eq];exact hm) ?_
 have ea:((arrOf st).extract (sa+x1.length) sb).toList=x2:=by
  rw[Array.toList_extract,ha]
  show List.take (sb - (sa+x1.length)) (List.drop (sa+x1.length) _)=_
  rw[List.append_assoc,← List.drop_drop,e1,List.drop_left,ex,List.append_assoc,List.append_assoc,List.drop_left,show sb - (b1.flatten.length+x1.length)=x2.length by exact PC lx e3 e2,List.take_left]
 have eb:((arrOf st).extract sb (sb+y1.length)).toList=y1:=by
  rw[Array.toList_extract,ha]
  show List.take (sb+y1.length - sb) (List.drop sb _)=_
  simp only[List.append_assoc,e3,← List.drop_drop,List.drop_left,List.append_assoc,List.drop_left,ey,List.append_assoc,List.append_assoc,Nat.add_sub_cancel_left,List.take_left]
 obtain⟨s1,s2,s3⟩:=Srt.append.mp (show Srt L (x1++x2)by rw[← ex];exact sx)
 obtain⟨t1,t2,t3⟩:=Srt.append.mp (show Srt L (y1++y2)by rw[← ey];exact sy)
 have hy01:y1[0]?=some y0:=by rw[ey,List.getElem?_append_left (by exact Nat.pos_of_ne_zero hm)]at hy0;exact hy0
 have hx1':∀ z∈x1,∀ u∈y,L u z=false:=fun z hz u hu=>o.ntr _ _ _ (hle0 u hu) (by have:=hx1 z hz;simpa[GH]using this)
 have hy2':∀ u∈y2,∀ z∈x,L u z=false:=fun u hu z hz=>o.ntr _ _ _ (by have:=hy2 u hu;simpa[GH]using this) (hlel z hz)
 refine Ih (Jj (st:=setPending st _) o C hk ea eb (fun p hp=>hDx p (by rw[ex,ey];simp only[List.mem_append]at hp ⊢;rcases hp with h | h<;>simp[h])) s2 t1 (by intro e;rw[e]at lx;simp at lx;exact PB lx hn) (by intro e;rw[e]at hm;exact hm rfl) ?_ ?_ fun r g hd=>?_)
 ·intro u hu z hz;rw[hy01]at hu;(replace hu:=Option.some.inj hu;subst hu);have:=hx2 z hz;simpa[GH]using this
 ·intro j z hj hz u hu
  have:x[x1.length+j]?=some z:=by rw[ex,List.getElem?_append_right (by exact Nat.le_add_right _ _),Nat.add_sub_cancel_left];exact hz
  rw[show x1.length+j=na - 1 by exact PA lx hj,hxl]at this
  (replace this:=Option.some.inj this;subst this)
  have:=hy1 u hu;simpa[GH]using this
 ·obtain⟨d1,d2⟩:=hd
  refine wpS_bind (wpS_modify (wpS_bind (wpS_get (wpS_pure ?_))))
  have hmem:∀ v∈r.toList,v∈x2∨v∈y1:=fun v hv=>List.mem_append.mp (d2.mem o hv)
  have:=fin (setArr (Hm (setPending st ((((pendingOf st).setIfInBounds i (sa,na+nb,pw)).eraseIdxIfInBounds (i+1)))) g) (r.toList.zipIdx.foldl (fun a (x:Keyed × Nat)=>match x with | (p,j)=>a.setIfInBounds (sa+x1.length+j) p) (arrOf st))) (x1++r.toList++y2) hk hf hpd ?_ ?_ ?_
  ·rw[show(failedOf (setArr (Hm (setPending st ((((pendingOf st).setIfInBounds i (sa,na+nb,pw)).eraseIdxIfInBounds (i+1)))) g) (arrOf st))).isNone=true by show(failedOf st).isNone=true;rw[hf];rfl]
   exact this
  ·show(List.foldl _ (arrOf st) _).toList=_
   rw[Dl (base:=sa+x1.length) (R:=y2++b4.flatten++rest) r.toList (x2++y1) (b1.flatten++x1) 0 (arrOf st) (by simp only[ha,ex,ey];simp) (d2.length o).symm (by simp only[List.length_append,e1,Nat.add_zero])]
   simp
  ·refine Srt.append.mpr ⟨Srt.append.mpr ⟨s1,d1,fun z hz v hv=>?_⟩,t2,fun z hz v hv=>?_⟩
   ·rcases hmem v hv with h | h
    ·exact s3 z hz v h
    ·exact hx1' z hz v (by rw[ey];exact List.mem_append_left _ h)
   ·rcases List.mem_append.mp hz with hz | hz
    ·exact hx1' z hz v (by rw[ey];exact List.mem_append_right _ hv)
    ·rcases hmem z hz with h | h
     ·exact hy2' v hv z (by rw[ex];exact List.mem_append_right _ h)
     ·exact t3 z h v hv
  ·rw[ex,ey,List.append_assoc,show x1++x2++(y1++y2)=x1++(x2++y1++y2)by simp]
   exact SEq.left _ (d2.right _)
end
end Mine
namespace Mine


section
variable {L:Keyed→Keyed→Bool} {prog:Program} {w:World} {A:Around} {E:Value→Shared→Prop} {s:Shared} {κ:SortKind} {D:Keyed→Prop}
theorem Pend.modify:∀{base bs} {ps:List (Nat × Nat × Nat)} (i pw:Nat),Pend base bs ps→Pend base bs (ps.modify i fun(a,n,_)=>(a,n,pw))
 | _,[],[],i,pw,_=>by cases i<;>trivial
 | _,b::bs,p::ps,0,pw,h=>⟨h.1,h.2.1,h.2.2.1,h.2.2.2⟩
 | _,b::bs,p::ps,i+1,pw,h=>⟨h.1,h.2.1,h.2.2.1,Pend.modify i pw h.2.2.2⟩
theorem RI.power{a0 rest:List Keyed}{lo:Nat}{st:SortSt}(R:RI L κ a0 lo rest st)(i pw:Nat):RI L κ a0 lo rest (setPending st ((pendingOf st).modify i fun(a,n,_)=>(a,n,pw))):=by
 refine AJ fun WW9 hW9=>?_
 obtain⟨hk,hf,bs,hp,hs,ha,hlo,hse⟩:=R
 refine hW9 ?_
 clear hW9 WW9
 exact⟨hk,hf,bs,by show Pend 0 bs ((pendingOf st).modify i _).toList;rw[Array.toList_modify];exact hp.modify i pw,hs,ha,hlo,hse⟩
theorem RI.push{a0 u rest:List Keyed}{lo:Nat}{st:SortSt}(R:RI L κ a0 lo (u++rest) st)(hu:Srt L u)(hne:u≠[]):RI L κ a0 (lo+u.length) rest (setPending st ((pendingOf st).push (lo,u.length,0))):=by
 refine AJ fun WW9 hW9=>?_
 obtain⟨hk,hf,bs,hp,hs,ha,hlo,hse⟩:=R
 refine hW9 ?_
 clear hW9 WW9
 refine⟨hk,hf,bs++[u],?_,?_,?_,?_,?_⟩
 ·show Pend 0 _ ((pendingOf st).push _).toList
  rw[Array.toList_push]
  exact hp.join ⟨by simp only[hlo,Nat.zero_add],rfl,hne,trivial⟩
 ·intro b hb
  rcases List.mem_append.mp hb with hb | hb
  ·exact hs b hb
  ·rw[List.mem_singleton.mp hb];exact hu
 ·rw[ha];simp
 ·rw[← hlo];simp
 ·have e:(bs++[u]).flatten++rest=bs.flatten++(u++rest):=by simp
  rw[e];exact hse
theorem RI.arr(o:SWO L){a0 c u d:List Keyed}{lo:Nat}{st:SortSt}{xs:Array Keyed}(R:RI L κ a0 lo (c++d) st){pre:List Keyed}(hpre:(arrOf st).toList=pre++(c++d))(hx:xs.toList=pre++u++d)(hu:SEq L u c):RI L κ a0 lo (u++d) (setArr st xs):=by
 refine AJ fun WW9 hW9=>?_
 obtain⟨hk,hf,bs,hp,hs,ha,hlo,hse⟩:=R
 refine hW9 ?_
 clear hW9 WW9
 have:pre=bs.flatten:=List.append_cancel_right (hpre.symm.trans ha)
 subst this
 exact⟨hk,hf,bs,hp,hs,by show xs.toList=_;rw[hx,List.append_assoc],hlo,(SEq.left _ (hu.right d)).trans hse⟩
theorem RI.start{st:SortSt}(hk:kindOf st=κ)(hf:failedOf st=none)(hp:pendingOf st=#[]):RI L κ (arrOf st).toList 0 (arrOf st).toList st :=
 ⟨hk,hf,[],by rw[hp];trivial,fun b hb=>(by cases hb),rfl,rfl,SEq.refl _⟩
theorem RI.pre{a0 rest:List Keyed}{lo:Nat}{st:SortSt}(R:RI L κ a0 lo rest st):∃ pre,(arrOf st).toList=pre++rest∧pre.length=lo:=by
 obtain⟨hk,hf,bs,hp,hs,ha,hlo,hse⟩:=R
 exact⟨_,ha,hlo⟩
theorem RI.mem(o:SWO L){a0 rest:List Keyed}{lo:Nat}{st:SortSt}(R:RI L κ a0 lo rest st):∀ p∈rest,p∈a0:=by
 obtain⟨hk,hf,bs,hp,hs,ha,hlo,hse⟩:=R
 exact fun p hp=>hse.mem o (List.mem_append_right _ hp)
theorem RI.len(o:SWO L){a0 rest:List Keyed}{lo:Nat}{st:SortSt}(R:RI L κ a0 lo rest st):lo+rest.length=a0.length∧(pendingOf st).size≤lo:=by
 refine AJ fun WW9 hW9=>?_
 obtain⟨hk,hf,bs,hp,hs,ha,hlo,hse⟩:=R
 refine hW9 ?_
 clear hW9 WW9
 have:=hse.length o
 have h2:=hp.le
 rw[hp.length,Array.length_toList]at h2
 exact⟨by simp only[← this,List.length_append,hlo],by exact Nat.le_trans h2 (Nat.le_of_eq hlo)⟩

theorem QA{c:Prop}[Decidable c]{i m:Nat}(h:i+1<m):(if c then i - 1 else i)+1<m:=by split<;>(first | exact O9 h | exact h)
theorem F5{st:SortSt}{Q:Unit→SortSt→Prop}(o:SWO L)(C:DT prog w A s κ D L)(hk:kindOf st=κ)(hf:failedOf st=none)(hp:pendingOf st=#[])(hD:∀ p∈(arrOf st).toList,D p)
  (h:∀ st',failedOf st'=none→Srt L (arrOf st').toList→SEq L (arrOf st').toList (arrOf st).toList→Q () st'):wpS (model prog w) A E s sortRuns' Q st:=by
 rw[sortRuns'_eq]
 refine wpS_bind (wpS_get ?_)
 dsimp only
 have R0:=RI.start (L:=L) hk hf hp
 generalize ha0:(arrOf st).toList=a0 at R0 hD h
 have hlen:a0.length=(arrOf st).size:=by rw[← ha0];simp
 generalize (arrOf st).size=n at hlen ⊢
 generalize minRun' n n 0=mr
 clear ha0
 refine wpS_bind (wpS_mono (wpS_forRange (I:=fun x c st'=>∃ lo rest,c=(none,lo)∧RI L κ a0 lo rest st'∧min x n≤lo)
  (Q:=fun c st'=>c=(none,n)∧RI L κ a0 n [] st') ?step ?fin ⟨0,a0,rfl,R0,by exact Nat.le_refl _⟩) ?post)
 case fin =>
  intro c st' zq9
  refine AJ fun WW9 hW9=>?_
  obtain⟨lo,rest,eq9_0,R,hx⟩:=zq9
  refine hW9 ?_
  clear hW9 WW9
  subst eq9_0
  have:=(R.len o).1
  obtain rfl:rest=[]:=List.length_eq_zero_iff.mp (by exact O8 hx this hlen)
  simp only[List.length_nil]at this
  obtain rfl:lo=n:=by exact this.trans hlen
  exact⟨rfl,R⟩
 case post =>
  rintro c st' ⟨rfl,R⟩
  dsimp only
  refine wpS_bind (wpS_mono (wpS_forRange (I:=fun x c st''=>c=(none,())∧RI L κ a0 n [] st''∧(pendingOf st'').size+x≤n+1) (Q:=fun c st''=>c=(none,())∧RI L κ a0 n [] st''∧(pendingOf st'').size≤1) ?_ (fun c st'' zz2=>by obtain⟨h1,h2,h3⟩:=zz2;exact⟨h1,h2,by exact O7 h3⟩) ⟨rfl,R,by have:=(R.len o).2;exact Nat.le_succ_of_le this⟩) ?_)
  ·intro x c st'' _ hx zq9
   refine AJ fun WW9 hW9=>?_
   obtain⟨eq9_0,R,hm⟩:=zq9
   refine hW9 ?_
   clear hW9 WW9
   subst eq9_0
   refine wpS_bind (wpS_get ?_)
   by_cases h1:(pendingOf st'').size≤1
   ·refine Df h1 ?_;exact wpS_pure ⟨rfl,R,h1⟩
   refine C2 h1 ?_
   refine wpS_bind (El o C hD R (QA (by exact O6 h1)) fun st3 R3 h3=>?_)
   simp only[Bool.not_true,Bool.false_eq_true,if_false]
   exact wpS_pure ⟨rfl,R3,by exact O5 h3 hm⟩
  ·intro c st'' zq9
   refine AJ fun WW9 hW9=>?_
   obtain⟨eq9_0,⟨hk,hf,bs,hp,hs,ha,hlo,hse⟩,h1⟩:=zq9
   refine hW9 ?_
   clear hW9 WW9
   subst eq9_0
   refine wpS_pure (h st'' hf ?_ ?_)
   ·rw[ha,List.append_nil]
    have hl:=hp.length
    rw[Array.length_toList]at hl
    match bs,hs with
    | [],_=>exact List.Pairwise.nil
    | [b],hs=>have:=hs b (by simp);simpa using this
    | _::_::_,_=>simp at hl;exact(O4 hl h1).elim
   ·rw[ha];exact hse
 case step =>
  intro x c st' _ hx zq9
  refine AJ fun WW9 hW9=>?_
  obtain⟨lo,rest,eq9_0,R,hxl⟩:=zq9
  refine hW9 ?_
  clear hW9 WW9
  subst eq9_0
  dsimp only
  obtain⟨hl1,_⟩:=R.len o
  by_cases hge:lo≥n
  ·refine Df hge ?_
   obtain rfl:rest=[]:=List.length_eq_zero_iff.mp (by exact O3 hl1 hlen hge)
   simp only[List.length_nil]at hl1
   obtain rfl:lo=n:=by exact hl1.trans hlen
   exact wpS_pure ⟨rfl,R⟩
  refine C2 hge ?_
  refine AJ fun WW9 hW9=>?_
  obtain⟨pre,ha,hpl⟩:=R.pre
  refine hW9 ?_
  clear hW9 WW9
  have hDr:∀ p∈rest,D p:=fun p hp=>hD p (R.mem o p hp)
  have hrne:rest≠[]:=by rintro rfl;simp at hl1;exact O2 hl1 hlen hge
  have hrun:=F6 (E:=E) (pre:=pre) (seg:=rest) (st:=st') (Q:=fun r st2=>∃ xs t c d,r=some t.length∧st2=setArr st' xs∧rest=c++d∧xs.toList=pre++t++d∧Srt L t∧SEq L t c∧t≠[]) o C R.kind ha hDr hrne
   (fun xs t c d h1 h2 h3 h4 h5=>⟨xs,t,c,d,rfl,rfl,h1,h2,h3,h4,h5⟩)
  rw[hpl,show rest.length=n - lo by exact O1 hl1 hlen]at hrun
  refine wpS_bind (wpS_mono hrun ?_)
  intro r st2 zq9
  refine AJ fun WW9 hW9=>?_
  obtain⟨xs,t,c,d,eq9_0,eq9_1,hcd,hx,ht,hte,htn⟩:=zq9
  refine hW9 ?_
  clear hW9 WW9
  subst eq9_0 eq9_1
  dsimp only
  have htl:=hte.length o
  rw[hcd]at R ha hDr
  have R2:=R.arr o ha hx hte
  have hln:lo+(t.length+d.length)=n:=by rw[htl,← List.length_append,← hcd];exact hl1.trans hlen
  apply KB (fun(m:Nat) (st2:SortSt)=>∃ u d,m=u.length∧RI L κ a0 lo (u++d) st2∧Srt L u∧u≠[])
  ·intro key
   by_cases hlt:t.length<mr
   ·refine Df hlt ?_
    refine wpS_bind (wpS_lift (wpAny_rule ⟨rfl,?_⟩))
    have hfl:t.length+(d.take (min (n - lo) mr - t.length)).length=min (n - lo) mr:=by rw[List.length_take];exact O0 hlen hl1 hge htl hln hlt
    have hins:=E5 (E:=E) (st:=setArr st' xs) (pre:=pre) (a:=t) (b:=d.take (min (n - lo) mr - t.length)) (post:=d.drop (min (n - lo) mr - t.length))
     (Q:=fun r st3=>∃ ys u,r=true∧st3=setArr st' ys∧ys.toList=pre++u++d.drop (min (n - lo) mr - t.length)∧Srt L u∧SEq L u (t++d.take (min (n - lo) mr - t.length))) o C R.kind
     (by show xs.toList=_;rw[hx];simp[List.take_append_drop])
     (fun p hp=>hDr p (by
      rcases List.mem_append.mp hp with hp | hp
      ·exact List.mem_append_left _ (hte.mem o hp)
      ·exact List.mem_append_right _ (List.mem_of_mem_take hp))) ht htn (fun ys u e1 e2 e3=>⟨ys,u,rfl,rfl,e1,e2,e3⟩)
    simp only[hpl,hfl]at hins
    refine wpS_bind (wpS_mono hins ?_)
    intro r st3 zq9
    refine AJ fun WW9 hW9=>?_
    obtain⟨ys,u,eq9_0,eq9_1,f1,f2,f3⟩:=zq9
    refine hW9 ?_
    clear hW9 WW9
    subst eq9_0 eq9_1
    simp only[Bool.not_true,Bool.false_eq_true,if_false]
    have hul:=f3.length o
    rw[List.length_append,hfl]at hul
    have hP:∃ u d,min (n - lo) mr=u.length∧RI L κ a0 lo (u++d) (setArr st' ys)∧Srt L u∧u≠[]:=by
     refine⟨u,d.drop (min (n - lo) mr - t.length),hul.symm,?_,f2,?_⟩
     ·have:=RI.arr (L:=L) (κ:=κ) (a0:=a0) (lo:=lo) o (c:=t++d.take (min (n - lo) mr - t.length)) (d:=d.drop (min (n - lo) mr - t.length)) (u:=u) (xs:=ys) (st:=setArr st' xs) (pre:=pre) (by rw[List.append_assoc,List.take_append_drop];exact R2) (by show xs.toList=_;rw[hx];simp[List.take_append_drop]) f1 f3
      exact this
     ·intro e;rw[e]at hul;have:=List.length_pos_iff.mpr htn;simp at hul;exact Oz this hul hfl
    generalize min (n - lo) mr=m,setArr st' ys=st3 at hP ⊢
    exact key m st3 hP
   ·refine C2 hlt ?_
    exact key t.length (setArr st' xs) ⟨t,d,rfl,R2,ht,htn⟩
  intro m st2 zq9
  refine AJ fun WW9 hW9=>?_
  obtain⟨u,d',eq9_0,R3,hu,hun⟩:=zq9
  refine hW9 ?_
  clear hW9 WW9
  subst eq9_0
  have hup:=List.length_pos_iff.mpr hun
  have last:∀ st3:SortSt,RI L κ a0 lo (u++d') st3→∃ lo' rest',((none,lo+u.length):Option Unit × Nat)=(none,lo')∧RI L κ a0 lo' rest' (setPending st3 ((pendingOf st3).push (lo,u.length,0)))∧min (x+1) n≤lo':=fun st3 R4=>⟨_,_,rfl,R4.push hu hun,by exact Oy hlen (by assumption) hxl hl1 hpl htl hln hup⟩
  refine wpS_bind (wpS_get ?_)
  cases hb:(pendingOf st2).back? with
  | none =>
   dsimp only
   exact wpS_bind (wpS_modify (wpS_pure (last st2 R3)))
  | some p =>
   refine AJ fun WW9 hW9=>?_
   obtain⟨s1,n1,p1⟩:=p
   refine hW9 ?_
   clear hW9 WW9
   dsimp only
   generalize power' n (2*s1+n1) (2*s1+n1+n1+u.length) n=pw
   refine wpS_bind (wpS_mono (wpS_forRange (I:=fun x c st''=>c=(none,())∧RI L κ a0 lo (u++d') st'') (Q:=fun c st''=>c=(none,())∧RI L κ a0 lo (u++d') st'') ?_ (fun O O h=>h) ⟨rfl,R3⟩) ?_)
   ·rintro y c st4 _ _ ⟨rfl,R4⟩
    refine wpS_bind (wpS_get ?_)
    cases hq:(if (pendingOf st4).size>1 then(pendingOf st4)[(pendingOf st4).size - 2]? else none) with
    | none=>exact wpS_pure ⟨rfl,R4⟩
    | some q =>
     refine AJ fun WW9 hW9=>?_
     obtain⟨q1,q2,older⟩:=q
     refine hW9 ?_
     clear hW9 WW9
     dsimp only
     by_cases ho:older≤pw
     ·refine Df ho ?_;exact wpS_pure ⟨rfl,R4⟩
     refine C2 ho ?_
     have hsz:(pendingOf st4).size>1:=by
      by_cases hs:(pendingOf st4).size>1
      ·exact hs
      ·rw[if_neg hs]at hq;injection hq
     refine wpS_bind (El o C hD R4 (by exact Ox hsz) fun st5 R5 O=>?_)
     simp only[Bool.not_true,Bool.false_eq_true,if_false]
     exact wpS_pure ⟨rfl,R5⟩
   ·rintro c st4 ⟨rfl,R4⟩
    dsimp only
    exact wpS_bind (wpS_modify (wpS_bind (wpS_modify (wpS_pure (last _ (R4.power _ pw))))))
end
theorem CY(n:Nat):CP n:=fun o C hk hf hp hD O O hq=>F5 o C hk hf hp hD hq
end Mine
namespace Mine
variable [zz:Zz]
section
variable {G:Cx} {A:Around} {F:Fx} {σ:Loc} {H:AH} {X:AH→Prop}


end
end Mine
namespace Mine
variable [zz:Zz]


section
variable {prog:Program} {w:World} {A:Around} {E:Value→Shared→Prop} {s:Shared}
omit [Zz] in
theorem E6:isSubtype (.type "range_iterator") (.type "reversed")=pure false:=by rw[isSubtype_type];kernel_rfl
noncomputable def Im(x n c:Int):Obj:={ cls:=.type "range_iterator", data:=.fields #[rawInt x,rawInt n,rawInt c] }
omit [Zz] in
theorem Ft{r:Addr}{a b c:Int}{t u v:Tok}{Q:Value→Shared→Prop}(hr:IsRange s.heap r a b c t u v)
  (hsm:(Builtin.Range.rangeFitsLong a&&Builtin.Range.rangeFitsLong b&&Builtin.Range.rangeFitsLong c&&Builtin.Range.rangeFitsLong (-c)&&Builtin.Range.rangeFitsLong (a - c)&&Builtin.Range.rangeFitsLong (Builtin.Range.rangeSize a b c))=true)
  (h:Q (.ref s.heap.objs.size) { s with heap:=s.heap.push (Im (a+(Builtin.Range.rangeSize a b c - 1)*c) (Builtin.Range.rangeSize a b c) (-c)) }):wpAny (model prog w) A (call (.builtin "range.__reversed__") [.ref r]) Q E s:=by
 have hT:s.TypeIs (.ref r) "range" := ⟨_,hr,rfl⟩
 refine wpAny_call_entry F.slot_range_reversed hT F.entry_range_reversed ?_ (F.args_range_reversed_1 _)
 obtain⟨hp,g,d,tk,os⟩:=s
 wp_walk using wpAny_loadPart' hr
 rw[if_pos hsm]
 exact⟨_,rfl,h⟩
omit [Zz] in
theorem DR{r:Addr}{a b c:Int}{t u v:Tok}{Q:Value→Shared→Prop}(hr:IsRange s.heap r a b c t u v)
  (hsm:(Builtin.Range.rangeFitsLong a&&Builtin.Range.rangeFitsLong b&&Builtin.Range.rangeFitsLong c&&Builtin.Range.rangeFitsLong (-c)&&Builtin.Range.rangeFitsLong (a - c)&&Builtin.Range.rangeFitsLong (Builtin.Range.rangeSize a b c))=true)
  (h:Q (.ref s.heap.objs.size) { s with heap:=s.heap.push (Im (a+(Builtin.Range.rangeSize a b c - 1)*c) (Builtin.Range.rangeSize a b c) (-c)) }):wpAny (model prog w) A (call (.type "reversed") [.ref r]) Q E s:=by
 have hT:s.TypeIs (.ref r) "range" := ⟨_,hr,rfl⟩
 refine callType_other (U := "range_iterator") (Q₁:=fun obj s₁=>obj=.ref s.heap.objs.size∧s₁={ s with heap:=s.heap.push (Im (a+(Builtin.Range.rangeSize a b c - 1)*c) (Builtin.Range.rangeSize a b c) (-c)) }) (by decide +kernel) F.create_reversed ⟨_,_,F.mro_reversed⟩ F.made_reversed E6 (F.typeCall_reversed_1 _) (codeAny_of_tree ?_) ?_
 ·show wpAny _ _ (do checkBuiltinCall "reversed.__new__" ⟨[.type "reversed", .ref r],[]⟩;again (.builtin "reversed.__new__" ⟨[.type "reversed", .ref r],[]⟩)) _ _ s
  refine wpAny_bind (wpAny_of_eq (F.newCall_reversed_1 _) (wpAny_pure ⟨plainId_quiet F.plain_reversed_new _,codeAny_builtin F.entry_reversed_new ?_⟩))
  simp only[Around.under_plainId F.plain_reversed_new _]
  unfold Builtin.«reversed.__new__»
  refine wpAny_bind (wpAny_of_eq (newClass_reversed _) ?_)
  refine wpAny_bind (wpAny_of_eq (a:=()) (by first | rfl | kernel_rfl) ?_)
  refine wpAny_bind (wpAny_of_eq (a:=()) (by first | rfl | kernel_rfl) ?_)
  refine wpAny_bind (wpAny_specialOf hT F.slot_range_reversed.lookup ?_)
  refine wpAny_bind (wpAny_of_eq (F.slot_range_reversed.bind _) ?_)
  show wpAny _ _ (if (Value.builtin "range.__reversed__" == Value.none)=true then _ else _) _ _ _
  rw[if_neg (show ¬ ((Value.builtin "range.__reversed__" == Value.none)=true)from Bool.false_ne_true)]
  refine wpAny_bind (wpAny_rule ?_)
  refine wpAny_bind (m:=runValue (.call (.builtin "range.__reversed__") ⟨[.ref r],[]⟩)) (show wpAny _ _ (call (.builtin "range.__reversed__") [.ref r]) _ _ _ from Ft hr hsm ?_)
  first
  | exact wpAny_pure ⟨rfl,rfl⟩
  | exact wpAny_bind (wpAny_pure (wpAny_pure ⟨rfl,rfl⟩))
 ·rintro obj s₁ ⟨rfl,rfl⟩
  exact⟨⟨_,Heap.get?_push_size _ rfl,rfl⟩,h⟩
end

section
variable {G:Cx} {A:Around} {F:Fx} {σ:Loc} {H:AH} {X:AH→Prop} {Q:PV→AH→Prop}

theorem Gg{K:Frag}{target e:Expr}{np cpos pos:Pos}{body:List Stmt}{n:Nat}{inv:Nat→AH→Prop}{Q:PF→Loc→AH→Prop}(hK:G.K=K)(hA:F.A.handled=none)(hk:F.env.kindOf "reversed" = some .globalImplicit)(hf:nsIn K mainGlobals "reversed" = some none)(hn:n<1073741824)
  (h:Ev G F e σ H (fun p H1=>p=.rng 0 n 1∧H1=H)) (h0:inv n H)
  (step:∀ i H',i<n→inv (i+1) H'→As G F target (.int i) σ H' (fun σ2 H2=>Exs G F body σ2 H2 (fun f σ3 H3=>f=.next∧Loc.le σ σ3∧inv i H3)))
  (fin:∀ H',inv 0 H'→Q .next σ H') (hs:∀ x,foldedSetIterable (.Call (.Name "reversed" np) [e] [] cpos) F.env x=pure x:=by intro _;rfl)
  (he:starEach [e] F.env=(false,eval e F.env)::starEach [] F.env:=by rfl) :
  Ex G F (.For target (.Call (.Name "reversed" np) [e] [] cpos) body [] pos) σ H Q:=by
 subst hK
 intro s ok lr
 have hz:Builtin.Range.rangeSize 0 (n:Int) 1=n:=by rw[rangeSize_one];split<;>(first | exact rfl | exact Ow hn (by assumption))
 refine wpAny_For ?_ hs
 refine wpAny_Call_NameR (wpAny_mono (BX (Q:=fun p H1=>p=.val (.type "reversed")∧H1=H) hk (G.mg_of hf) (by decide +kernel) (by decide) ⟨rfl,rfl⟩ s ok lr) (fun v s1 zz2=>zz2.on fun p H1 hv ok1 k1 zz2_5=>zz2_5.elim fun hp hH=>?_) fun O O x=>x)
 subst hp;subst hH
 simp only[show v=.type "reversed" from hv]
 have lr1:=lr.kp ok k1
 refine PySem.Pv.callWith_type1 (wpAny_mono (AM (Q:=fun ps H2=>ps=[.rng 0 n 1]∧H2=H1) (h.mono fun p H2 zz2=>by obtain⟨hp,hH⟩:=zz2;exact AP ⟨by rw[hp],hH⟩) he s1 cpos ok1 lr1) (fun vs s2 zz2=>zz2.on fun ps H2 hvs ok2 k2 zz2_5=>zz2_5.elim fun hps hH2=>?_) fun O O x=>x) he rfl
 subst hps;subst hH2
 refine AJ fun WW9 hW9=>?_
 obtain⟨_,eq9_0,r,t,u,w,eq9_1,hr⟩:=hvs.one_inv
 refine hW9 ?_
 clear hW9 WW9
 subst eq9_0 eq9_1
 refine DR hr ?_ ?_
 ·rw[hz]
  have e1:∀ z:Int,-1073741824≤z→z≤1073741824→Builtin.Range.rangeFitsLong z=true:=fun z h1 h2=>by unfold Builtin.Range.rangeFitsLong;simp;exact Ov h1 h2
  rw[e1 0 (by exact Int.natCast_nonneg _) (by exact Int.natCast_nonneg _),e1 n (by exact Int.natCast_nonneg _) (by exact Ou hn),e1 1 (by exact Int.natCast_nonneg _) (by exact Int.natCast_nonneg _),e1 (-1) (by exact Int.natCast_nonneg _) (by exact Int.natCast_nonneg _),e1 (0 - 1) (by exact Int.natCast_nonneg _) (by exact Int.natCast_nonneg _)];rfl
 simp only[hz]
 refine AJ fun WW9 hW9=>?_
 obtain⟨fp,wr,P,Md,St,ok3,k3,hw,S,_⟩:=EO (target:=target) (x:=0+((n:Int) - 1)*1) (c := -1) (n:=n) hA ok2
 refine hW9 ?_
 clear hW9 WW9
 have lr2:=lr1.kp ok1 k2
 refine wpAny_mono (S.self _ (fun it s'=>it=.ref s2.heap.objs.size∧s'=_) Bb S.st ⟨rfl,rfl⟩) (fun it s3 zz2=>zz2.elim fun h1 h2=>?_) fun O O x=>x
 subst h1;subst h2
 refine codeAny_mono (HK (E:=fun e s'=>cameBackBy (model G.prog G.w) F.A F.env Bb e s') (Q:=fun f σ' H'=>∃ σ'',Loc.le σ'' σ'∧Q f σ'' H') S (fun b hb=>BP ok2 (hw b hb)) ok3 (lr2.kp ok2 k3) (fun i σ' H'=>i≤n∧Loc.le σ σ'∧inv (n - i) H') ⟨Nat.zero_le _,Loc.le_refl _,h0⟩ ?_ ?_) fun r s' hr=>?_
 ·intro i x σ' H' hx zq9
  refine AJ fun WW9 hW9=>?_
  obtain⟨hi,hle,hinv⟩:=zq9
  refine hW9 ?_
  clear hW9 WW9
  have hil:i<n:=by have:=(List.getElem?_eq_some_iff.mp hx).1;simpa[Bm]using this
  have hxe:x=.int ((n - 1 - i:Nat):Int):=by
   simp only[Bm,List.getElem?_map,List.getElem?_range hil,Option.map_some,Option.some.injEq]at hx
   rw[← hx];congr 1;exact Ot hil
  subst hxe
  have hst:=step (n - 1 - i) H' (by exact Os hil) (by rw[show n - 1 - i+1=n - i by exact Oq hil];exact hinv)
  refine fun s v ok lr hv=>wpAny_mono (hst.le hle s v ok lr hv) (fun O s1 zz2=>zz2.on fun σ2 H2 ok2 lr2 k2 hq=>⟨σ2,H2,ok2,lr2,k2,hq.mono fun f σ3 H3 zz3=>zz3.elim fun e1 zz3=>zz3.elim fun e2 e3=>?_⟩) fun O O x=>x
  subst e1
  exact⟨hil,e2,by rw[show n - (i+1)=n - 1 - i by exact Op];exact e3⟩
 ·intro σ' H' zq9
  refine AJ fun WW9 hW9=>?_
  obtain⟨_,hle,hinv⟩:=zq9
  refine hW9 ?_
  clear hW9 WW9
  rw[show(Bm (0+((n:Int) - 1)*1) (-1) n).length=n by simp[Bm],Nat.sub_self]at hinv
  exact⟨σ,hle,fin H' hinv⟩
 ·cases r with
  | error e=>exact hr
  | ok f =>
   refine AJ fun WW9 hW9=>?_
   obtain⟨pf,σ',H',hf,ok',lr',k',σ'',hle,hq⟩:=hr
   refine hW9 ?_
   clear hW9 WW9
   exact⟨pf,σ'',H',hf,ok',lr'.weak hle,(k1.trans k2).toF.trans (KpI.after k3 k' hw),hq⟩



end
end Mine
namespace Mine
variable [zz:Zz]
section
variable {G:Cx} {A:Around} {F:Fx} {σ:Loc} {H:AH} {Q:PV→AH→Prop}

omit [Zz] in
theorem called_object:TypeCalled "object" "object.__new__" "object.__init__" :=
 ⟨by decide +kernel,by decide +kernel,⟨_,_,(by rw[mroOf_type];kernel_rfl:mroOf (.type "object")=pure [.type "object"])⟩,madeBy_type (by rw[mroOf_type];kernel_rfl:mroOf (.type "object")=pure [.type "object"]) (by rw[typeLookup_type,builtinLookup_eq_fast];kernel_rfl) (by decide +kernel),by decide +kernel,by rw[isSubtype_type];kernel_rfl,
  .of (owner := "object") (n := "__init__") (by rw[typeLookup_type,builtinLookup_eq_fast];kernel_rfl) (by decide +kernel) (by decide +kernel) (by decide +kernel) (by first | exact .inl (by decide +kernel) | exact .inr (by decide +kernel)) (by rw[isSubtype_type];kernel_rfl)⟩
omit [Zz] in
theorem EU:Meets (Builtin.«object.__new__» ⟨[.type "object"],[]⟩) (fun O R s=>R (.ok (.ret (.ref s.heap.objs.size))) { s with heap:=s.heap.push { cls:=.type "object", data:=.plain } }) :=
 .of_wp fun prog w A R s h=>by
  obtain⟨hp,g,d,tk,os⟩:=s
  have h2:=called_object.made
  have h3:=called_object.sub
  unfold Builtin.«object.__new__»
  wp_walk
  exact⟨_,rfl,h⟩
omit [Zz] in
theorem Da{self:Value}:Meets (Builtin.«object.__init__» ⟨[self],[]⟩) (fun O R s=>R (.ok (.ret .none)) s) :=
 .of_wp fun prog w A R s h=>by
  unfold Builtin.«object.__init__»
  exact wpAny_pure ⟨_,rfl,h⟩
theorem GP(h:∀ a,Q (.obj a) H):OpL G A (fun vs=>call (.type "object") vs) [] H Q:=by
 rintro s vs ok hvs
 obtain rfl:vs=[]:=hvs
 refine callType_meets called_object (by kernel_rfl) (by kernel_rfl) PySem.F.entry_object_new PySem.F.entry_object_init EU
  (Q₁:=fun v s'=>v=.ref s.heap.objs.size∧s'={ s with heap:=s.heap.push { cls:=.type "object", data:=.plain } }) ⟨rfl,rfl⟩ ?_
 refine Rf ?_
 obtain⟨ok',k'⟩:=Bn ok { cls:=.type "object", data:=.plain }
 refine⟨⟨_,Heap.get?_push_size _ rfl,rfl⟩,by unfold argsOk;kernel_rfl,_,Da,?_⟩
 refine⟨rfl,.obj s.heap.objs.size,H,⟨rfl,_,Heap.get?_push_size _ rfl,rfl,rfl⟩,ok',k',h _⟩
theorem Ly{K:Frag}{f:Str}{np pos:Pos}(T:String)(hK:G.K=K)(hk:F.env.kindOf f=some .globalImplicit)(hf:nsIn K mainGlobals f=some none)(hb:bootBuiltins f=some (.type T))(hn:f ≠ "__name__")
  (h:OpL G F.A (fun vs=>call (.type T) vs) [] H Q):Ev G F (.Call (.Name f np) [] [] pos) σ H Q:=by
 subst hK
 intro s ok lr
 refine wpAny_Call_NameR (wpAny_mono (BX (Q:=fun p H1=>p=.val (.type T)∧H1=H) hk (G.mg_of hf) hb hn ⟨rfl,rfl⟩ s ok lr) (fun v s1 zz2=>zz2.on fun p H1 hv ok1 k1 zz2_5=>zz2_5.elim fun hp hH=>?_) fun O O x=>x)
 subst hp;subst hH
 rw[show v=.type T from hv]
 exact PyProof.Rows.callWith_type0 (env:=F.env) (wpAny_mono (h s1 [] ok1 rfl) (fun O O x=>x.trans k1) fun O O x=>x)
theorem GQ{a:Addr}(h:Q (.bool true) H):Cv G A (compareOp .Is) (.obj a) (.obj a) H Q:=by
 rintro s _ _ ok ⟨rfl,_⟩ ⟨rfl,_⟩
 exact wpAny_bind (wpAny_isSame_ref_self (wpAny_pure (AV (p:=.bool true) ok rfl h)))
theorem Fd{a:Addr}{i:Int}(h:Q (.bool false) H):Cv G A (compareOp .Is) (.int i) (.obj a) H Q:=by
 rintro s _ _ ok ⟨t,rfl⟩ ⟨rfl,_⟩
 exact wpAny_bind (wpAny_pure (wpAny_pure (AV (p:=.bool false) ok rfl h)))
theorem Fc{a:Addr}{ps:List PV}(h:Q (.bool false) H):Cv G A (compareOp .Is) (.tup ps) (.obj a) H Q:=by
 rintro s _ _ ok ⟨b,vs,n,rfl,hT,_⟩ ⟨rfl,o,ho,hc,_⟩
 refine wpAny_bind (PySem.SeqAt.wpAny_isSame_ref_other' (ox:=_) (oy:=o) ?_ hT ho (by rw[hc];simp) (wpAny_pure (AV (p:=.bool false) ok rfl h)))
 rintro rfl
 have hT':s.heap.get? b=some _:=hT
 rw[hT']at ho;(replace ho:=Option.some.inj ho;subst ho);simp at hc


noncomputable def JH(G:Cx)(F:Fx)(I l:Addr)(i:Nat)(sts:List Stmt)(σ:Loc)(H:AH)(Q:PF→Loc→AH→Prop):Prop :=
 ∀ s,OkH G H s→LR G F σ s.heap→s.heap.IsListIter I l i→G.base.get? I=none→wpAny (model G.prog G.w) F.A (execs sts F.env) (PostFX G F [I] (fun O=>True) H s Q) Bb s
theorem PostF.toX{X:List Addr}{s s':Shared}{R:PF→Loc→AH→Prop}{f:Flow}(x:PostF G F H s R f s'):PostFX G F X (fun O=>True) H s R f s':=by
 obtain⟨pf,σ',H',h1,h2,h3,h4,h5⟩:=x;exact⟨pf,σ',H',h1,h2,h3,h4.toI,trivial,h5⟩
theorem PostFX.trans{X:List Addr}{Dn Dn':Heap→Prop}{H1:AH}{s s1 s2:Shared}{R:PF→Loc→AH→Prop}{f:Flow}(k:KpI F.W X H s H1 s1)(x:PostFX G F X Dn H1 s1 R f s2)(hd:∀ h,Dn h→Dn' h):PostFX G F X Dn' H s R f s2:=by
 obtain⟨pf,σ',H',h1,h2,h3,h4,h5,h6⟩:=x;exact⟨pf,σ',H',h1,h2,h3,k.trans h4,hd _ h5,h6⟩
theorem Bw{I l:Addr}{i:Nat}{H':AH}{s s':Shared}(ok:OkH G H s)(lr:LR G F σ s.heap)(k:KpF F.W H s H' s')(hit:s.heap.IsListIter I l i):s'.heap.IsListIter I l i:=by
 obtain⟨o,ho,hod⟩:=Ai hit
 exact hit.at fun o' e=>k.odd_kept lr e (Aw ok.hr ho hod.2.1) (by rw[ho]at e;(replace e:=Option.some.inj e;subst e);exact hod.2.2.1)
set_option tactic.hygienic true in
theorem Aa{R:PF→Loc→AH→Prop}{I l:Addr}{i:Nat}{st:Stmt}{rest:List Stmt}(h:Ex G F st σ H (fun f σ1 H1=>match f with | .next=>JH G F I l i rest σ1 H1 R | f=>R f σ1 H1)):JH G F I l i (st::rest) σ H R:=by
 intro s ok lr hit hb
 refine wpAny_execs_cons (wpAny_mono (h s ok lr) (fun f s1 zz2=>zz2.on fun pf σ1 H1 hf ok1 lr1 k1 hq=>?_) fun O O x=>x)
 cases pf with
 | next=>rw[show f=.next from hf];exact wpAny_mono (hq s1 ok1 lr1 (Bw ok lr k1 hit) hb) (fun O O x=>x.trans k1.toI fun O h=>h) fun O O x=>x
 | brk=>rw[show f=.brk from hf];exact⟨.brk,σ1,H1,rfl,ok1,lr1,k1.toI,trivial,hq⟩
 | cont=>rw[show f=.cont from hf];exact⟨.cont,σ1,H1,rfl,ok1,lr1,k1.toI,trivial,hq⟩
 | ret p=>obtain⟨v,rfl,hv⟩:=id hf;exact⟨.ret p,σ1,H1,hf,ok1,lr1,k1.toI,trivial,hq⟩
theorem Ce{K:Frag}{x y:Str}{fp np tp cpos pos:Pos}{l:Addr}{ho:HO}{rest:List Stmt}{R:PF→Loc→AH→Prop}(hK:G.K=K)(hk:F.env.kindOf "iter" = some .globalImplicit)(hf:nsIn K mainGlobals "iter" = some none)(hy:σ y=some (.ref l))(hH:H l=some ho)(hx:F.env.kindOf x=some .local)
  (h:∀ I,JH G F I l 0 rest (σ.set x (.val (.ref I))) H R):Exs G F (.Assign [.Name x tp] (.Call (.Name "iter" fp) [.Name y np] [] cpos) pos::rest) σ H R:=by
 subst hK
 intro s ok lr
 refine wpAny_execs_cons (wpAny_Assign_Name ?_ (by rfl))
 refine wpAny_Call_NameR (wpAny_mono (BX (Q:=fun p H1=>p=.val (.builtin "iter")∧H1=H) hk (G.mg_of hf) (by decide +kernel) (by decide) ⟨rfl,rfl⟩ s ok lr) (fun v s1 zz2=>zz2.on fun p H1 hv ok1 k1 zz2_5=>zz2_5.elim fun hp hH1=>?_) fun O O x=>x)
 subst hp;subst hH1
 rw[show v=.builtin "iter" from hv]
 have lr1:=lr.kp ok k1
 refine PyProof.Rows.callWith_builtin1 (wpAny_mono (AM (Q:=fun ps H2=>ps=[.ref l]∧H2=H1) (BT hy (AP ⟨rfl,rfl⟩)) (by rfl) s1 cpos ok1 lr1) (fun vs s2 zz2=>zz2.on fun ps H2 hvs ok2 k2 zz2_5=>zz2_5.elim fun hps hH2=>?_) fun O O x=>x) (by rfl) (by rfl)
 subst hps;subst hH2
 obtain⟨_,rfl,rfl⟩:=hvs.one_inv
 have lr2:=lr1.kp ok1 k2
 obtain⟨⟨us,n,hl,_⟩,_⟩:=id (ok2.hr l ho hH)
 refine Calls.call_function_entry (by decide +kernel) (by decide +kernel) kdk_entry_iter (kdk_args_iter _) ?_
 unfold Builtin.«iter»
 refine wpAny_bind (m:=someArgs "iter" 1 2 _) (wpAny_of_eq (a:=[Value.ref l]) (by first | rfl | kernel_rfl!) ?_)
 show wpAny _ _ (pyIter (.ref l) >>= _) _ _ _
 refine wpAny_bind (wpAny_pyIter_list hl.isList (wpAny_pure ⟨_,rfl,?_⟩))
 obtain⟨ok3,k3⟩:=Bn ok2 { cls:=.type "list_iterator", data:=.fields #[.ref l,.int 0 0] }
 have lr3:=lr2.kp ok2 k3
 have hit:(s2.heap.push { cls:=.type "list_iterator", data:=.fields #[.ref l,.int 0 0] }).IsListIter s2.heap.objs.size l 0:=⟨_,Heap.get?_push_size _ rfl,rfl,rfl⟩
 have hfr:s2.heap.get? s2.heap.objs.size=none:=Bx (Nat.le_refl _)
 have hbase:G.base.get? s2.heap.objs.size=none:=by
  cases e:G.base.get? s2.heap.objs.size with
  | none=>rfl
  | some o=>rw[ok2.keep _ _ e]at hfr;injection hfr
 refine wpAny_mono (BY (Q:=fun σ' H'=>σ'=σ.set x (.val (.ref s2.heap.objs.size))∧H'=H2) (p:=.val (.ref s2.heap.objs.size)) (.inl hx) ok3 lr3 rfl ⟨rfl,rfl⟩) (fun O s4 zz2=>zz2.on fun σ' H4 ok4 lr4 k4 zz2_5=>zz2_5.elim fun hσ hH4=>?_) fun O O x=>x
 subst hσ;subst hH4
 have k12:=k1.trans k2
 have hs:s.heap.get? s2.heap.objs.size=none:=by
  cases e:s.heap.get? s2.heap.objs.size with
  | none=>rfl
  | some o =>
   have hHn:H4 s2.heap.objs.size=none:=Co ok2
   exact((k12.kept _ o e (Ah hHn)).ne hfr).elim
 refine wpAny_mono (h _ s4 ok4 lr4 (Bw ok3 lr3 k4 hit) hbase) (fun f s5 zz2=>zz2.on fun pf σ5 H5 hf5 ok5 lr5 k5 O hq=>?_) fun O O x=>x
 refine⟨pf,σ5,H5,hf5,ok5,lr5,?_,hq⟩
 exact KpI.after (Kp.refl _ _) ((k12.trans k3).toF.toI.trans (k4.toI.trans k5)) fun b hb=>by rw[List.mem_singleton.mp hb];exact hs

omit [Zz] in

theorem HG{prog:Program}{w:World}{target:Expr}{I:Addr}{fp wr:List Addr}{n m i:Nat}{P Md:Nat→Value→Heap→Prop}{St:Nat→Heap→Prop}(T:KTurns prog w A target I fp wr n P Md St)(hm:i+m=n) :
  KTurns prog w A target I fp wr m (fun j=>P (i+j)) (fun j=>Md (i+j)) (fun j=>St (i+j)) :=
 ⟨T.sub,fun j=>T.frame (i+j),fun j s Q E hj=>T.item (i+j) s Q E (by exact Oo hm hj),fun j=>T.go (i+j),fun s Q E st=>T.done s Q E (by rw[← hm];exact st)⟩
set_option tactic.hygienic true in
theorem EE{R:PF→Loc→AH→Prop}{target:Expr}{x:Str}{np pos:Pos}{body:List Stmt}{rest:List Stmt}{I l:Addr}{i:Nat}{xs:List PV}(inv:Nat→Loc→AH→Prop)(hA:F.A.handled=none)(hx:σ x=some (.val (.ref I)))(hH:H l=some (.fro xs))(hi:i≤xs.length)
  (h0:∃ σ'',Loc.le σ'' σ∧inv 0 σ'' H)
  (step:∀ j p σ' H',xs[i+j]?=some p→inv j σ' H'→As G F target p σ' H' (fun σ2 H2=>Exs G F body σ2 H2 (fun f σ3 H3=>match f with
   | .next | .cont=>∃ σ'',Loc.le σ'' σ3∧inv (j+1) σ'' H3
   | .brk=>False
   | .ret p=>R (.ret p) σ3 H3)))
  (fin:∀ σ' H',inv (xs.length - i) σ' H'→Exs G F rest σ' H' R) :
  JH G F I l i (.For target (.Name x np) body [] pos::rest) σ H R:=by
 intro s ok lr hit hb
 refine AJ fun WW9 hW9=>?_
 obtain⟨σ0,hσ0,h0⟩:=h0
 refine hW9 ?_
 clear hW9 WW9
 refine wpAny_execs_cons (wpAny_For (wpAny_mono (BT (Q:=fun p H1=>p=.val (.ref I)∧H1=H) hx ⟨rfl,rfl⟩ s ok lr) (fun v s1 zz2=>zz2.on fun p H1 hv ok1 k1 zz2_5=>zz2_5.elim fun hp hH1=>?_) fun O O x=>x) (by intro _;rfl))
 subst hp;subst hH1
 simp only[show v=.ref I from hv]
 have lr1:=lr.kp ok k1
 have hit1:=Bw ok lr k1.toF hit
 refine wpAny_pyIter_listiter hit1 ?_
 refine AJ fun WW9 hW9=>?_
 obtain⟨⟨vs,n,hl,hvs,hz⟩,_⟩:=id (ok1.hr l _ hH)
 refine hW9 ?_
 clear hW9 WW9
 have hvl:=hvs.length
 have hne:l≠I:=by
  rintro rfl
  refine AJ fun WW9 hW9=>?_
  obtain⟨o,ho,hc,_⟩:=hit1
  refine hW9 ?_
  clear hW9 WW9
  have hl':s1.heap.get? l=some _:=hl
  rw[hl']at ho;(replace ho:=Option.some.inj ho;subst ho);simp at hc
 have hnz:¬ Zz.z I:=Hy ok1 (Ai hit1)
 have T:KTurns G.prog G.w F.A target I [I,l] [I] (xs.drop i).length (fun j v O=>vs.toArray[i+j]?=some v) (fun j v h=>vs.toArray[i+j]?=some v∧(h.IsListIter I l (i+j+1)∧h.IsList l vs.toArray)) (fun j h=>h.IsListIter I l (i+j)∧h.IsList l vs.toArray):=by
  have:=KTurns.ofWalks (target:=target) (Walks.list (prog:=G.prog) (w:=G.w) (A:=F.A) hA I l hne vs.toArray) (fun i v s Q E st hq=>by
   refine AJ fun WW9 hW9=>?_
   obtain⟨⟨o,ho,hc,hd⟩,_⟩:=st
   refine hW9 ?_
   clear hW9 WW9
   exact CM ho hc (by decide) hq)
  exact HG this (by simp only[List.length_drop,List.size_toArray,hvl];exact Nat.add_sub_cancel' hi)
 have SR:J7 G F.A target H1 s1.heap I (xs.drop i) [I,l] [I] (fun j v O=>vs.toArray[i+j]?=some v) (fun j v h=>vs.toArray[i+j]?=some v∧(h.IsListIter I l (i+j+1)∧h.IsList l vs.toArray)) (fun j h=>h.IsListIter I l (i+j)∧h.IsList l vs.toArray) :=
  {K:=T
   st:=⟨hit1,hl.isList⟩
   self:=fun s' Q E st hq=>wpAny_pyIter_listiter st.1 hq
   odd:=fun i h st b hb=>by simp only[List.mem_singleton]at hb;subst hb;exact OddZ.of hnz (Ai st.1)
   oddM:=fun i v h st b hb=>by simp only[List.mem_singleton]at hb;subst hb;exact OddZ.of hnz (Ai st.2.1)
   base:=fun b hm=>by simp only[List.mem_singleton]at hm;subst hm;exact hb
   src:=fun b hb=>by
    simp only[List.mem_cons,List.not_mem_nil,or_false]at hb
    rcases hb with rfl | rfl
    ·exact .inl (by simp)
    ·exact .inr ⟨_,hl,AS hH,fun hd=>hd.not_solid (.inr (Ab _ _))⟩
   val:=fun j v h' hk hj hP=>by
    have hvs':VRs h' xs vs:=VRs.monoZ hk _ _ hvs
    rw[List.length_drop]at hj
    obtain⟨p,hp⟩:∃ p,xs[i+j]?=some p:=⟨_,List.getElem?_eq_getElem (by exact On hj)⟩
    refine AJ fun WW9 hW9=>?_
    obtain⟨u,hu,hr⟩:=hvs'.get hp
    refine hW9 ?_
    clear hW9 WW9
    refine⟨p,by rw[List.getElem?_drop];exact hp,?_⟩
    have:vs[i+j]?=some v:=by simpa using hP
    rw[hu]at this;(replace this:=Option.some.inj this;subst this);exact hr }
 refine codeAny_mono (HK (σ:=σ) (Q:=fun f σ' H'=>match f with | .next=>Exs G F rest σ' H' R | .ret p=>R (.ret p) σ' H' | _=>False) (E:=fun e s'=>cameBackBy (model G.prog G.w) F.A F.env Bb e s') SR (fun b hm=>by rw[List.mem_singleton.mp hm];exact hnz) ok1 lr1 (fun j σ' H'=>∃ σ'',Loc.le σ'' σ'∧inv j σ'' H') ⟨σ0,hσ0,h0⟩
  (fun j p σ' H' hp zz5=>zz5.elim fun σ'' zz5=>zz5.elim fun hle hinv=>?_) (fun σ' H' zz2=>zz2.elim fun σ'' zz2=>zz2.elim fun hle hinv=>?_)) fun r s' hr=>?_
 ·rw[List.getElem?_drop]at hp
  refine As.le ?_ hle
  intro s v ok lr hv
  refine wpAny_mono (step j p σ'' H' hp hinv s v ok lr hv) (fun O s2 zz2=>zz2.on fun σ2 H2 ok2 lr2 k2 hq=>⟨σ2,H2,ok2,lr2,k2,hq.mono fun f σ3 H3 hf=>?_⟩) fun O O x=>x
  cases f with
  | next=>exact hf
  | cont=>exact hf
  | brk=>exact hf.elim
  | ret p=>exact hf
 ·rw[List.length_drop]at hinv
  exact(fin σ'' H' hinv).le hle
 ·cases r with
  | error e=>exact hr
  | ok f =>
   refine AJ fun WW9 hW9=>?_
   obtain⟨pf,σ',H',hf,ok',lr',k',hq⟩:=hr
   refine hW9 ?_
   clear hW9 WW9
   have kk:=(k1.toF (W:=F.W)).toI.trans k'
   cases pf with
   | next=>rw[show f=.next from hf];exact wpAny_mono (hq s' ok' lr') (fun O O x=>x.toX.trans kk fun O h=>h) fun O O x=>x
   | brk=>exact hq.elim
   | cont=>exact hq.elim
   | ret p=>obtain⟨v,rfl,hv⟩:=id hf;exact⟨.ret p,σ',H',hf,ok',lr',kk,trivial,hq⟩
end
end Mine
namespace Mine

section
variable {prog:Program} {w:World} {A:Around} {E:Value→Shared→Prop} {s:Shared}
noncomputable abbrev FZ(b:Bool)(x left c:Int):Obj:={ cls:=.type (if b then "range_iterator" else "longrange_iterator"),dict:=none,data:=.fields #[rawInt x,rawInt left,rawInt c],slots:=#[] }
noncomputable abbrev C8(h:Heap)(R:Addr)(b:Bool)(x left c:Int):Prop:=h.get? R=some (FZ b x left c)
theorem Jo{r:Addr}{a b c:Int}{t u v:Tok}{Q:Value→Shared→Prop}(hr:IsRange s.heap r a b c t u v)
  (hQ:Q (.ref s.heap.objs.size) { s with heap:=s.heap.push (FZ (Builtin.Range.small a b c) a (Builtin.Range.rangeSize a b c) c) }):wpAny (model prog w) A (pyIter (.ref r)) Q E s:=by
 cases hs:Builtin.Range.small a b c with
 | true=>rw[hs]at hQ;exact wpAny_pyIter_range hr hs hQ
 | false=>rw[hs]at hQ;exact wpAny_pyIter_longrange hr hs hQ
theorem Fh{R:Addr}{x left c:Int}{Q:Value→Shared→Prop}(hit:C8 s.heap R true x left c)(hl:0<left)
  (hQ:∀ h',C8 h' R true (x+c) (left - 1) c→Heap.SameBut R s.heap h'→Q (.int x s.toks) { s with heap:=h',toks:=s.toks+1 }):wpAny (model prog w) A (Builtin.SmallTypes.nextOf (.ref R)) Q E s:=by
 have hT:s.TypeIs (.ref R) "range_iterator" := ⟨_,hit,rfl⟩
 unfold Builtin.SmallTypes.nextOf
 refine wpAny_bind (wpAny_callSpecial?_slot (name:=Str.ofString "__next__") hT F.slot_range_iterator_next
  (call_meets F.slot_range_iterator_next hT F.entry_range_iterator_next (F.args_range_iterator_next_1 _) (AutoRange.range_iterator___next___range_iterator_1 R x left c (by exact Int.not_le.mpr hl)) ⟨hit,?_⟩))
 exact wpAny_pure (hQ _ (Heap.get?_update_self _ (Heap.get?_update_self _ hit rfl) rfl) ((Heap.SameBut.update ..).trans (Heap.SameBut.update ..)))
theorem GA{R:Addr}{sm:Bool}{x left c:Int}{Q:Value→Shared→Prop}(hh:A.handled=none)(hit:C8 s.heap R sm x left c)(hl:left≤0)
  (hE:∀ h' e,(∀ b o,s.heap.get? b=some o→h'.get? b=some o)→(∃ o,h'.get? e=some o∧o.cls=.type "StopIteration")→E (.ref e) { s with heap:=h' }):wpAny (model prog w) A (Builtin.SmallTypes.nextOf (.ref R)) Q E s:=by
 unfold Builtin.SmallTypes.nextOf
 cases sm with
 | true =>
  have hT:s.TypeIs (.ref R) "range_iterator" := ⟨_,hit,rfl⟩
  refine wpAny_bind (wpAny_callSpecial?_slot (name:=Str.ofString "__next__") hT F.slot_range_iterator_next
   (wpAny_call_entry F.slot_range_iterator_next hT F.entry_range_iterator_next ?_ (F.args_range_iterator_next_1 _)))
  show wpAny _ _ (field (.ref R) 0 >>= _) _ _ s
  refine wpAny_bind (wpAny_field hit rfl (x:=rawInt x) rfl ?_)
  show wpAny _ _ (field (.ref R) 1 >>= _) _ _ s
  refine wpAny_bind (wpAny_field hit rfl (x:=rawInt left) rfl ?_)
  show wpAny _ _ (field (.ref R) 2 >>= _) _ _ s
  refine wpAny_bind (wpAny_field hit rfl (x:=rawInt c) rfl ?_)
  show wpAny _ _ (if left≤0 then _ else _) _ _ s
  rw[if_pos hl]
  refine wpAny_bind (wpAny_rule ?_)
  refine wpAny_bind ?_
  show wpAny _ _ (newExc (.type "StopIteration") [] >>= _) _ _ _
  refine wpAny_bind ?_
  simp only[newExc,newTuple]
  refine wpAny_bind (wpAny_newObj_type ?_ (by size_fits))
  refine wpAny_bind (m:=firstArgMember _ _) (wpAny_of_eq (a:=Value.none) (by first | rfl | (simp only[firstArgMember];rfl)) ?_)
  refine wpAny_newObj_type ?_ (by size_fits)
  dsimp only[raiseNew]
  refine wpAny_bind (wpAny_handled ?_)
  first | rw[show A.in1.handled=none from hh] | rw[hh]
  refine wpAny_bind (wpAny_pure (wpAny_throw ?_))
  exact hE _ _ (fun b o e=>Heap.get?_push_of_some _ (Heap.get?_push_of_some _ e)) ⟨_,Heap.get?_push_size _ rfl,rfl⟩
 | false =>
  have hT:s.TypeIs (.ref R) "longrange_iterator" := ⟨_,hit,rfl⟩
  refine wpAny_bind (wpAny_callSpecial?_slot (name:=Str.ofString "__next__") hT F.slot_longrange_iterator_next
   (wpAny_call_entry F.slot_longrange_iterator_next hT F.entry_longrange_iterator_next ?_ (F.args_longrange_iterator_next_1 _)))
  show wpAny _ _ (bound "longrange_iterator.__next__" ⟨[.ref R],[]⟩ >>= _) _ _ s
  rw[bound_longnext]
  refine wpAny_bind (wpAny_pure ?_)
  show wpAny _ _ (Builtin.Iterators_pickling.intField _ (.ref R) 0 >>= _) _ _ s
  refine wpAny_bind (wpAny_intField hit rfl rfl ?_)
  show wpAny _ _ (Builtin.Iterators_pickling.intField _ (.ref R) 1 >>= _) _ _ s
  refine wpAny_bind (wpAny_intField hit rfl rfl ?_)
  show wpAny _ _ (Builtin.Iterators_pickling.intField _ (.ref R) 2 >>= _) _ _ s
  refine wpAny_bind (wpAny_intField hit rfl rfl ?_)
  show wpAny _ _ (if left≤0 then _ else _) _ _ s
  rw[if_pos hl]
  refine wpAny_bind (wpAny_rule ?_)
  refine wpAny_bind ?_
  show wpAny _ _ (newExc (.type "StopIteration") [] >>= _) _ _ _
  refine wpAny_bind ?_
  simp only[newExc,newTuple]
  refine wpAny_bind (wpAny_newObj_type ?_ (by size_fits))
  refine wpAny_bind (m:=firstArgMember _ _) (wpAny_of_eq (a:=Value.none) (by first | rfl | (simp only[firstArgMember];rfl)) ?_)
  refine wpAny_newObj_type ?_ (by size_fits)
  dsimp only[raiseNew]
  refine wpAny_pure ?_
  refine wpAny_bind (wpAny_bind (wpAny_handled ?_))
  first | rw[show A.in1.handled=none from hh] | rw[hh]
  first | refine wpAny_throw ?_ | refine wpAny_bind (wpAny_pure (wpAny_throw ?_)) | refine wpAny_bind (wpAny_throw ?_)
  exact hE _ _ (fun b o e=>Heap.get?_push_of_some _ (Heap.get?_push_of_some _ e)) ⟨_,Heap.get?_push_size _ rfl,rfl⟩

theorem Jh{z TI TO R I l:Addr}{k:Nat}{x left c:Int}{ys:Array Value}{y a b:Value}{Q:Value→Shared→Prop}(D:ZipApart z TI TO R I l l)
  (hz:IsZip s.heap z TI TO .none) (hTI:IsPair s.heap TI (.ref R) (.ref I)) (hTO:IsPair s.heap TO a b)
  (h1:C8 s.heap R true x left c) (hl:0<left) (h2:s.heap.IsListIter I l k) (hl2:s.heap.IsList l ys) (hy:ys[k]?=some y)
  (hQ:∀ h',IsZip h' z TI TO (rawInt s.heap.objs.size)→(∃ u v,IsPair h' TO u v)→C8 h' R true (x+c) (left - 1) c→h'.IsListIter I l (k+1)→IsPair h' s.heap.objs.size (.int x s.toks) y →
   (∀ c o,c≠z→c≠TO→c≠R→c≠I→s.heap.get? c=some o→h'.get? c=some o)→Q (.ref s.heap.objs.size) { s with heap:=h',toks:=s.toks+1 }) :
  wpAny (model prog w) A (Builtin.«zip.__next__» ⟨[.ref z],[]⟩) (fun fin s'=>∃ v,fin=.done (.ret v)∧Q v s') E s:=by
 show wpAny _ _ (field (.ref z) 2 >>= _) _ _ _
 refine wpAny_bind (wpAny_field hz rfl (x:=.bool false) rfl ?_)
 show wpAny _ _ (field (.ref z) 3 >>= _) _ _ _
 refine wpAny_bind (wpAny_field hz rfl (x:=.ref TI) rfl ?_)
 refine wpAny_bind (wpAny_seqItems hTI rfl ?_)
 show wpAny _ _ (Builtin.SmallTypes.ownedTupleIsFree (.ref z) >>= _) _ _ _
 refine wpAny_bind ?_
 unfold Builtin.SmallTypes.ownedTupleIsFree
 refine wpAny_bind (wpAny_field hz rfl (x:=.none) rfl (wpAny_pure ?_))
 simp only[if_true]
 refine wpAny_bind (wpAny_rule ?_)
 refine wpAny_bind (wpAny_field hz rfl (x:=.ref TO) rfl ?_)
 refine wpAny_bind (wpAny_setField_rec hz (by simp) fun h₁ hz₁ hs₁=>?_)
 replace hz₁:IsZip h₁ z TI TO .ellipsis:=hz₁
 refine wpAny_bind ?_
 simp only[List.zipIdx_cons,List.zipIdx_nil,List.forIn_cons,List.forIn_nil]
 refine wpAny_bind (wpAny_bind (wpAny_onRaise ?_))
 show wpAny _ _ (Builtin.SmallTypes.nextOf (.ref R) >>= _) _ _ _
 refine wpAny_bind (Fh (hs₁.extBut _ _ D.i1z h1) hl fun h₂ h1₂ hs₂=>wpAny_pure ?_)
 have hTO₂:IsPair h₂ TO a b:=hs₂.extBut _ _ D.TOi1 (hs₁.extBut _ _ D.TOz hTO)
 refine wpAny_bind (wpAny_seqItems hTO₂ rfl ?_)
 refine wpAny_bind (wpAny_updateSeq_pair hTO₂ fun h₃ hTO₃ hs₃=>?_)
 replace hTO₃:IsPair h₃ TO (.int x s.toks) b:=hTO₃
 refine wpAny_bind (wpAny_letGo (wpAny_pure ?_))
 refine wpAny_bind (wpAny_bind (wpAny_onRaise ?_))
 show wpAny _ _ (Builtin.SmallTypes.nextOf (.ref I) >>= _) _ _ _
 refine wpAny_bind (wpAny_nextOf_list_item (((h2.extBut hs₁.extBut D.i2z).extBut hs₂.extBut D.i12.symm).extBut hs₃.extBut D.TOi2.symm)
  (((hl2.extBut hs₁.extBut D.l2z).extBut hs₂.extBut D.l2i1).extBut hs₃.extBut D.l2TO) hy fun h₄ h2₄ hs₄=>wpAny_pure ?_)
 have hTO₄:IsPair h₄ TO (.int x s.toks) b:=hs₄.extBut _ _ D.TOi2 hTO₃
 refine wpAny_bind (wpAny_seqItems hTO₄ rfl ?_)
 refine wpAny_bind (wpAny_updateSeq_pair hTO₄ fun h₅ hTO₅ hs₅=>?_)
 replace hTO₅:IsPair h₅ TO (.int x s.toks) y:=hTO₅
 refine wpAny_bind (wpAny_letGo (wpAny_pure (wpAny_pure ?_)))
 refine wpAny_bind (wpAny_seqItems hTO₅ rfl ?_)
 refine wpAny_bind (wpAny_newTuple ?_)
 have hsz:h₅.objs.size=s.heap.objs.size:=by simp only[hs₅.1,hs₄.1,hs₃.1,hs₂.1,hs₁.1]
 have hz₅:IsZip h₅ z TI TO .ellipsis:=hs₅.extBut _ _ D.TOz.symm (hs₄.extBut _ _ D.i2z.symm (hs₃.extBut _ _ D.TOz.symm (hs₂.extBut _ _ D.i1z.symm hz₁)))
 have hk₅:∀ c o,c≠z→c≠TO→c≠R→c≠I→s.heap.get? c=some o→h₅.get? c=some o:=fun c o c1 c2 c3 c4 e =>
  hs₅.extBut _ _ c2 (hs₄.extBut _ _ c4 (hs₃.extBut _ _ c2 (hs₂.extBut _ _ c3 (hs₁.extBut _ _ c1 e))))
 have h1₅:C8 h₅ R true (x+c) (left - 1) c:=hs₅.extBut _ _ D.TOi1.symm (hs₄.extBut _ _ D.i12 (hs₃.extBut _ _ D.TOi1.symm h1₂))
 have h2₅:h₅.IsListIter I l (k+1):=h2₄.extBut hs₅.extBut D.TOi2.symm
 have hzlt:z<h₅.objs.size:=Heap.lt_size hz₅
 show wpAny _ _ (Builtin.SmallTypes.ownedTupleHandOut (.ref z) (.ref h₅.objs.size) >>= _) _ _ _
 refine wpAny_bind ?_
 unfold Builtin.SmallTypes.ownedTupleHandOut
 have hz₆:IsZip (h₅.push { cls:=.type "tuple", data:=.seq #[.int x s.toks,y] }) z TI TO .ellipsis:=Heap.get?_push_of_some _ hz₅
 refine wpAny_bind (wpAny_setField_rec hz₆ (by simp) fun h₇ hz₇ hs₇=>?_)
 replace hz₇:IsZip h₇ z TI TO (rawInt h₅.objs.size):=hz₇
 refine wpAny_setField_rec hz₇ (by simp) fun h₈ hz₈ hs₈=>?_
 replace hz₈:IsZip h₈ z TI TO (rawInt h₅.objs.size):=hz₈
 have up:∀ c o,c≠z→h₅.get? c=some o→h₈.get? c=some o:=fun c o c1 e=>hs₈.extBut _ _ c1 (hs₇.extBut _ _ c1 (Heap.get?_push_of_some _ e))
 have hT₈:IsPair h₈ h₅.objs.size (.int x s.toks) y:=hs₈.extBut _ _ (Nat.ne_of_gt hzlt) (hs₇.extBut _ _ (Nat.ne_of_gt hzlt) (Heap.get?_push_size _ rfl))
 rw[hsz]at hz₈ hT₈
 refine wpAny_pure ⟨_,rfl,?_⟩
 show Q (.ref h₅.objs.size) _
 rw[hsz]
 exact hQ h₈ hz₈ ⟨_,_,up _ _ D.TOz hTO₅⟩ (up _ _ D.i1z h1₅) (h2₅.at fun o e=>up _ o D.i2z e) hT₈ fun c o c1 c2 c3 c4 e=>up c o c1 (hk₅ c o c1 c2 c3 c4 e)
theorem J9{z TI TO R I:Addr}{sm:Bool}{x left c:Int}{Q:Fin→Shared→Prop}(hh:A.handled=none)(hRz:R≠z)
  (hz:IsZip s.heap z TI TO .none) (hTI:IsPair s.heap TI (.ref R) (.ref I)) (h1:C8 s.heap R sm x left c) (hl:left≤0)
  (hE:∀ h' e,(∀ c o,c≠z→s.heap.get? c=some o→h'.get? c=some o)→IsZip h' z TI TO .none→(∃ o,h'.get? e=some o∧o.cls=.type "StopIteration")→E (.ref e) { s with heap:=h' }) :
  wpAny (model prog w) A (Builtin.«zip.__next__» ⟨[.ref z],[]⟩) Q E s:=by
 show wpAny _ _ (field (.ref z) 2 >>= _) _ _ _
 refine wpAny_bind (wpAny_field hz rfl (x:=.bool false) rfl ?_)
 show wpAny _ _ (field (.ref z) 3 >>= _) _ _ _
 refine wpAny_bind (wpAny_field hz rfl (x:=.ref TI) rfl ?_)
 refine wpAny_bind (wpAny_seqItems hTI rfl ?_)
 show wpAny _ _ (Builtin.SmallTypes.ownedTupleIsFree (.ref z) >>= _) _ _ _
 refine wpAny_bind ?_
 unfold Builtin.SmallTypes.ownedTupleIsFree
 refine wpAny_bind (wpAny_field hz rfl (x:=.none) rfl (wpAny_pure ?_))
 simp only[if_true]
 refine wpAny_bind (wpAny_rule ?_)
 refine wpAny_bind (wpAny_field hz rfl (x:=.ref TO) rfl ?_)
 refine wpAny_bind (wpAny_setField_rec hz (by simp) fun h₁ hz₁ hs₁=>?_)
 replace hz₁:IsZip h₁ z TI TO .ellipsis:=hz₁
 refine wpAny_bind ?_
 simp only[List.zipIdx_cons,List.zipIdx_nil,List.forIn_cons,List.forIn_nil]
 refine wpAny_bind (wpAny_bind (wpAny_onRaise ?_))
 show wpAny _ _ (Builtin.SmallTypes.nextOf (.ref R) >>= _) _ _ _
 refine wpAny_bind (GA hh (hs₁.extBut _ _ hRz h1) hl fun h₂ e hs₂ he=>?_)
 obtain⟨oe,hoe,hce⟩:=he
 have hz₂:IsZip h₂ z TI TO .ellipsis:=hs₂ _ _ hz₁
 have hez:e≠z:=fun x=>by subst x;rw[hz₂]at hoe;(replace hoe:=Option.some.inj hoe;subst hoe);simp at hce
 refine wpAny_setField_rec hz₂ (by simp) fun h₃ hz₃ hs₃=>hE h₃ e (fun c o c1 x=>hs₃.extBut _ _ c1 (hs₂ _ _ (hs₁.extBut _ _ c1 x))) hz₃ ⟨oe,hs₃.extBut _ _ hez hoe,hce⟩

noncomputable def SD(z TI TO R I l:Addr)(a c:Int)(sm:Bool)(n:Nat)(ys:Array Value)(i:Nat)(h:Heap):Prop :=
 IsZip h z TI TO .none∧IsPair h TI (.ref R) (.ref I)∧(∃ x y,IsPair h TO x y)∧C8 h R sm (a+(i:Int)*c) ((n:Int) - i) c∧h.IsListIter I l i∧h.IsList l ys
noncomputable def ZP(a c:Int)(ys:Array Value)(i:Nat)(T:Addr)(h:Heap):Prop:=∃ t y,ys[i]?=some y∧IsPair h T (.int (a+(i:Int)*c) t) y
noncomputable def SV(z TI TO R I l:Addr)(a c:Int)(sm:Bool)(n:Nat)(ys:Array Value)(i:Nat)(T:Addr)(h:Heap):Prop :=
 IsZip h z TI TO (rawInt T)∧IsPair h TI (.ref R) (.ref I)∧(∃ x y,IsPair h TO x y)∧C8 h R sm (a+((i+1:Nat):Int)*c) ((n:Int) - ((i+1:Nat):Int)) c∧h.IsListIter I l (i+1)∧h.IsList l ys∧T≠z∧T≠TO
theorem Cq{z TI TO R I l:Addr}{a c:Int}{sm:Bool}{n:Nat}{ys:Array Value}{Q:Option Value→Shared→Prop}(hh:A.handled=none)(D:ZipApart z TI TO R I l l)(st:SD z TI TO R I l a c sm n ys n s.heap)
  (hQ:∀ h',(∀ c o,c≠z→s.heap.get? c=some o→h'.get? c=some o)→IsZip h' z TI TO .none→Q none { s with heap:=h' }):wpAny (model prog w) A (pyNext (.ref z)) Q E s:=by
 refine AJ fun WW9 hW9=>?_
 obtain⟨hz,hTI,hTO,h1,h2,hl⟩:=st
 refine hW9 ?_
 clear hW9 WW9
 have hT:s.TypeIs (.ref z) "zip" := ⟨_,hz,rfl⟩
 unfold pyNext
 refine wpAny_bind (wpAny_attempt (wpAny_callSpecial?_slot (name:=Str.ofString "__next__") hT F.slot_zip_next
  (wpAny_call_entry F.slot_zip_next hT F.entry_zip_next (J9 hh D.i1z hz hTI h1 (by exact Om) fun h' e hk hz' he=>?_) (F.args_zip_next_1 _))))
 refine AJ fun WW9 hW9=>?_
 obtain⟨o,ho,hc⟩:=he
 refine hW9 ?_
 clear hW9 WW9
 refine wpAny_bind (wpAny_isInstance (T := "StopIteration") (b:=true) ⟨o,ho,hc⟩ isSubtype_stop ?_)
 exact wpAny_pure (hQ _ hk hz')
theorem IF{elts:List Expr}{k:Nat}{pos:Pos}{z TI TO R I l:Addr}{a c:Int}{sm:Bool}{n:Nat}{ys:Array Value}(hh:A.handled=none)(D:ZipApart z TI TO R I l l)(hsm:n≠0→sm=true)(hn:n≤ys.size) :
  KTurns prog w A (.Tuple elts k pos) z [z,TI,TO,R,I,l] [z,TO,R,I] n (fun i v h=>∃ T,v=.ref T∧ZP a c ys i T h∧z<T) (fun i v h=>∃ T,v=.ref T∧ZP a c ys i T h∧z<T∧SV z TI TO R I l a c sm n ys i T h) (SD z TI TO R I l a c sm n ys) where
 sub:=fun c hc=>by simp at hc ⊢;rcases hc with rfl | rfl | rfl | rfl<;>simp
 frame:=fun i h h' hst hk=>by
  refine AJ fun WW9 hW9=>?_
  obtain⟨hz,hTI,⟨a,b,hTO⟩,h1,h2,hl⟩:=hst
  refine hW9 ?_
  clear hW9 WW9
  exact⟨hk z (by simp) _ hz,hk TI (by simp) _ hTI,⟨a,b,hk TO (by simp) _ hTO⟩,hk R (by simp) _ h1,h2.at fun o e=>hk I (by simp) o e,hl.at fun o e=>hk l (by simp) o e⟩
 item:=fun i s Q E hi hst hQ=>by
  refine AJ fun WW9 hW9=>?_
  obtain⟨hz,hTI,⟨a',b,hTO⟩,h1,h2,hl⟩:=hst
  refine hW9 ?_
  clear hW9 WW9
  obtain rfl:=hsm (by exact Nat.ne_of_gt (Nat.zero_lt_of_lt hi))
  have hiy:i<ys.size:=Nat.lt_of_lt_of_le hi hn
  have hT:s.TypeIs (.ref z) "zip" := ⟨_,hz,rfl⟩
  unfold pyNext
  refine wpAny_bind (wpAny_attempt (wpAny_callSpecial?_slot (name:=Str.ofString "__next__") hT F.slot_zip_next
   (wpAny_call_entry F.slot_zip_next hT F.entry_zip_next
    (Jh D hz hTI hTO h1 (by exact Ol hi) h2 hl (Array.getElem?_eq_getElem hiy) fun h' a1 a2 a3 a4 a5 hk=>wpAny_pure ?_) (F.args_zip_next_1 _))))
  have lt:∀{c o},s.heap.get? c=some o→s.heap.objs.size≠c:=fun e=>Nat.ne_of_gt (Heap.lt_size e)
  have e1:a+((i+1:Nat):Int)*c=a+(i:Int)*c+c:=by push_cast;simp only[Int.add_mul,Int.one_mul,Int.add_assoc]
  have e2:(n:Int) - ((i+1:Nat):Int)=(n:Int) - (i:Int) - 1:=by push_cast;exact Oj
  refine hQ (.ref s.heap.objs.size) h' (s.toks+1) ⟨_,rfl,⟨_,_,Array.getElem?_eq_getElem hiy,a5⟩,Heap.lt_size hz,a1,hk _ _ D.TIz D.TITO D.TIi1 D.TIi2 hTI,a2,by simp only[e1,e2];exact a3,a4,hl.at fun o e=>hk _ o D.l1z D.l1TO D.l1i1 D.l1i2 e,lt hz,lt hTO⟩
   fun c o hc e=>hk c o (fun x=>hc (by simp[x])) (fun x=>hc (by simp[x])) (fun x=>hc (by simp[x])) (fun x=>hc (by simp[x])) e
 go:=fun i v s Q E hm hQ=>by
  refine AJ fun WW9 hW9=>?_
  obtain⟨T,eq9_0,⟨t,y,hy,hT⟩,hzT,hz,hTI,⟨a,b,hTO⟩,h1,h2,hl,t1,t2⟩:=hm
  refine hW9 ?_
  clear hW9 WW9
  subst eq9_0
  refine wpAny_letOwnedTupleGo_zip hz fun h' hz' hs'=>hQ h' ⟨T,rfl,⟨t,y,hy,hs'.extBut _ _ t1 hT⟩,hzT⟩ ⟨hz',hs'.extBut _ _ D.TIz hTI,⟨a,b,hs'.extBut _ _ D.TOz hTO⟩,hs'.extBut _ _ D.i1z h1,h2.extBut hs'.extBut D.i2z,
   hl.extBut hs'.extBut D.l1z⟩ fun c o hc e=>hs'.extBut _ _ (fun x=>hc (by simp[x])) e
 done:=fun s Q E hst hQ=>Cq hh D hst fun h' hk O=>hQ h' s.toks fun c o hc e=>hk c o (fun x=>hc (by simp[x])) e
end
end Mine
namespace Mine

section
variable {prog:Program} {w:World} {A:Around} {E:Value→Shared→Prop} {s:Shared}
noncomputable abbrev Ro(h:Heap)(o:Obj):Heap:=h.push o
noncomputable abbrev Rn(h:Heap)(o:Obj)(I:Addr):Heap:=(Ro h o).push { cls:=.type "tuple", data:=.seq #[.ref h.objs.size,.ref I] }
noncomputable abbrev Rm(h:Heap)(o:Obj)(I:Addr):Heap:=(Rn h o I).push { cls:=.type "tuple", data:=.seq #[.none,.none] }
noncomputable abbrev QR(h:Heap)(o:Obj)(I:Addr):Heap:=(Rm h o I).push { cls:=.type "zip", data:=.fields #[.none,.bool false,.bool false,.ref (Ro h o).objs.size,.ref (Rn h o I).objs.size] }
theorem Iw(r I l:Addr)(a b c:Int)(t u v:Tok):Meets (Builtin.«zip.__new__» ⟨[.type "zip", .ref r,.ref I],[]⟩) (fun O R s=>IsRange s.heap r a b c t u v∧s.heap.IsListIter I l 0 ∧
   R (.ok (.ret (.ref (Rm s.heap (FZ (Builtin.Range.small a b c) a (Builtin.Range.rangeSize a b c) c) I).objs.size))) { s with heap:=QR s.heap (FZ (Builtin.Range.small a b c) a (Builtin.Range.rangeSize a b c) c) I }) :=
 .of_wp fun prog w A R s h=>by
  obtain⟨hp,g,d,tk,os⟩:=s;obtain⟨hr,hit,h⟩:=h
  have hsub:=sub_zip
  have hR:IsRange (Shared.heap ⟨hp,g,d,tk,os⟩) r a b c t u v:=hr
  have hI:Heap.IsListIter (Shared.heap ⟨hp.push (FZ (Builtin.Range.small a b c) a (Builtin.Range.rangeSize a b c) c),g,d,tk,os⟩) I l 0:=hit.at fun o e=>Heap.get?_push_of_some _ e
  wp_walk using Jo hR,wpAny_pyIter_listiter hI
  exact⟨_,rfl,h⟩
theorem J0{r I l:Addr}{a b c:Int}{t u v:Tok}{Q:Value→Shared→Prop}(hr:IsRange s.heap r a b c t u v)(hit:s.heap.IsListIter I l 0)
  (h:∀ h',IsZip h' (s.heap.objs.size+3) (s.heap.objs.size+1) (s.heap.objs.size+2) .none→IsPair h' (s.heap.objs.size+1) (.ref s.heap.objs.size) (.ref I)→IsPair h' (s.heap.objs.size+2) .none .none →
   C8 h' s.heap.objs.size (Builtin.Range.small a b c) a (Builtin.Range.rangeSize a b c) c→(∀ c o,s.heap.get? c=some o→h'.get? c=some o)→Q (.ref (s.heap.objs.size+3)) { s with heap:=h' }) :
  wpAny (model prog w) A (call (.type "zip") [.ref r,.ref I]) Q E s:=by
 refine callType_new F.called_zip (by decide) (F.typeCall_zip_2 _ _) (F.newCall_zip_2 _ _) (fun obj=>F.args_object_init_3 obj _ _) F.entry_zip_new (Iw r I l a b c t u v) ⟨hr,hit,?_⟩
 unfold C8 at h
 have hf:(FZ (Builtin.Range.small a b c) a (Builtin.Range.rangeSize a b c) c).isFreed=false:=rfl
 generalize FZ (Builtin.Range.small a b c) a (Builtin.Range.rangeSize a b c) c=ob at h hf ⊢
 have z1:(Ro s.heap ob).objs.size=s.heap.objs.size+1:=Heap.size_push ..
 have z2:(Rn s.heap ob I).objs.size=s.heap.objs.size+2:=by rw[Heap.size_push,z1]
 have z3:(Rm s.heap ob I).objs.size=s.heap.objs.size+3:=by rw[Heap.size_push,z2]
 have g4:(QR s.heap ob I).get? (Rm s.heap ob I).objs.size=some _:=Heap.get?_push_size _ rfl
 have g3:(QR s.heap ob I).get? (Rn s.heap ob I).objs.size=some _:=Heap.get?_push_of_some _ (Heap.get?_push_size _ rfl)
 have g2:(QR s.heap ob I).get? (Ro s.heap ob).objs.size=some _:=Heap.get?_push_of_some _ (Heap.get?_push_of_some _ (Heap.get?_push_size _ rfl))
 have g1:(QR s.heap ob I).get? s.heap.objs.size=some ob:=Heap.get?_push_of_some _ (Heap.get?_push_of_some _ (Heap.get?_push_of_some _ (Heap.get?_push_size _ hf)))
 show _∧_
 rw[z1,z2,z3]at g4
 rw[z2]at g3
 rw[z1]at g2
 rw[z3]
 exact⟨⟨_,g4,rfl⟩,h _ g4 g2 g3 g1 fun c o x=>Heap.get?_push_of_some _ (Heap.get?_push_of_some _ (Heap.get?_push_of_some _ (Heap.get?_push_of_some _ x)))⟩
end

noncomputable def Zz.add(Z:Zz)(T:Addr):Zz:=⟨fun b=>Z.z b∨b=T⟩
mutual
theorem VR.add{Z:Zz}{T:Addr}{h h':Heap}(hT:h.get? T=none)(k:∀ b o,h.get? b=some o→h'.get? b=some o):∀(p:PV) (v:Value),VR h p v→@VR (Z.add T) h' p v
 | .none,_,e=>e
 | .bool _,_,e=>e
 | .int _,_,e=>e
 | .str _,_,e=>e
 | .ref _,_,e=>e
 | .val _,_,e=>e
 | .obj _,_,zp2=>by obtain⟨e,o,ho,hc,hd⟩:=zp2;exact⟨e,o,k _ _ ho,hc,hd⟩
 | .fnc _,_,zp2=>by obtain⟨a,fd,c,oc,vs,t,e,ha,hc,hd,h1,h2,h4,h5⟩:=zp2;exact⟨a,fd,c,oc,vs,t,e,k _ _ ha,hc,hd,h1,k _ _ h2,h4,h5⟩
 | .rng _ _ _,_,zp2=>by obtain⟨r,t,u,w,e,hr⟩:=zp2;exact⟨r,t,u,w,e,k _ _ hr⟩
 | .tup xs,v,zp2=>by obtain⟨a,vs,n,e,ht,hs,hz⟩:=zp2;exact⟨a,vs,n,e,k _ _ ht,VRs.add hT k xs vs hs,fun hzz=>hzz.elim hz fun e=>by subst e;have ht':h.get? a=some _:=ht;rw[hT]at ht';cases ht'⟩
theorem VRs.add{Z:Zz}{T:Addr}{h h':Heap}(hT:h.get? T=none)(k:∀ b o,h.get? b=some o→h'.get? b=some o):∀(ps:List PV) (vs:List Value),VRs h ps vs→@VRs (Z.add T) h' ps vs
 | [],_,e=>e
 | p::ps,vs,zp2=>by obtain⟨v,r,e,h1,h2⟩:=zp2;exact⟨v,r,e,VR.add hT k p v h1,VRs.add hT k ps r h2⟩
end
mutual
theorem VR.less{Z:Zz}{T:Addr}{h:Heap}:∀(p:PV) (v:Value),@VR (Z.add T) h p v→VR h p v
 | .none,_,e=>e
 | .bool _,_,e=>e
 | .int _,_,e=>e
 | .str _,_,e=>e
 | .ref _,_,e=>e
 | .val _,_,e=>e
 | .obj _,_,e=>e
 | .fnc _,_,e=>e
 | .rng _ _ _,_,e=>e
 | .tup xs,v,zp2=>by obtain⟨a,vs,n,e,ht,hs,hz⟩:=zp2;exact⟨a,vs,n,e,ht,VRs.less xs vs hs,fun h=>hz (.inl h)⟩
theorem VRs.less{Z:Zz}{T:Addr}{h:Heap}:∀(ps:List PV) (vs:List Value),@VRs (Z.add T) h ps vs→VRs h ps vs
 | [],_,e=>e
 | p::ps,vs,zp2=>by obtain⟨v,r,e,h1,h2⟩:=zp2;exact⟨v,r,e,VR.less p v h1,VRs.less ps r h2⟩
end
section
variable [Z:Zz] {G:Cx} {A:Around} {F:Fx} {σ:Loc} {H:AH} {T:Addr}
theorem OkH.add{s:Shared}{h':Heap}{tk:Nat}(ok:OkH G H s)(hT:s.heap.get? T=none)(k:∀ b o,s.heap.get? b=some o→h'.get? b=some o)(ht:∃ o,h'.get? T=some o∧Tup o):@OkH (Z.add T) G H { s with heap:=h',toks:=tk }:=by
 refine @OkH.mk (Z.add T) _ _ _ (fun b o e=>k b o (ok.keep b o e)) (fun a o e=>?_) ok.gens (ok.dat.all k) ⟨fun b hb=>?_,(ok.tab.keep fun b o O e=>k b o e).2⟩
 ·obtain⟨⟨vs,n,hl,hv,hz⟩,hb⟩:=ok.hr a o e
  exact⟨@LOk.mk (Z.add T) _ _ _ vs n (k _ _ hl) (VRs.add hT k _ _ hv) hz,hb⟩
 ·rcases hb with hb | rfl
  ·obtain⟨o,h1,h2⟩:=ok.tab.1 b hb;exact⟨o,k _ _ h1,h2⟩
  ·exact ht
theorem OkH.less{s:Shared}(ok:@OkH (Z.add T) G H s):OkH G H s:=by
 obtain⟨h1,h2,h3,h4,h5⟩:=ok
 refine⟨h1,fun a o e=>?_,h3,h4,fun b hb=>h5.1 b (.inl hb),h5.2⟩
 obtain⟨⟨vs,n,hl,hv,hz⟩,hb⟩:=h2 a o e
 exact⟨⟨vs,n,hl,VRs.less _ _ hv,hz⟩,hb⟩
theorem LR.add{h h':Heap}(lr:LR G F σ h)(hT:h.get? T=none)(k:∀ b o,h.get? b=some o→h'.get? b=some o):@LR (Z.add T) G F σ h':=by
 obtain⟨m,hn,hm⟩:=lr.ns
 refine @LR.mk (Z.add T) _ _ _ _ lr.own (fun b hb=>?_) lr.wloc lr.fn lr.nok lr.glob lr.blt ⟨m,hn.keeps k,fun x p e hk=>?_⟩ lr.kinds (fun x hx=>?_) lr.apart
 ·obtain⟨o,h1,h2⟩:=lr.odd b hb;exact⟨o,k _ _ h1,h2⟩
 ·obtain⟨v,h1,h2⟩:=hm x p e hk;exact⟨v,h1,VR.add hT k _ _ h2⟩
 ·obtain⟨c,v₀,h1,h2,h3⟩:=lr.cell x hx
  exact⟨c,v₀,h1,h2.keeps k,fun p e=>let ⟨v,g1,g2⟩:=h3 p e;⟨v,g1,VR.add hT k _ _ g2⟩⟩
theorem LR.less{h:Heap}(lr:@LR (Z.add T) G F σ h):LR G F σ h:=by
 obtain⟨h1,h2,h3,h4,h5,h6,h7,⟨m,hn,hm⟩,h9,h10,h11⟩:=lr
 refine⟨h1,h2,h3,h4,h5,h6,h7,⟨m,hn,fun x p e hk=>let ⟨v,g1,g2⟩:=hm x p e hk;⟨v,g1,VR.less _ _ g2⟩⟩,h9,fun x hx=>?_,h11⟩
 obtain⟨c,v₀,g1,g2,g3⟩:=h10 x hx
 exact⟨c,v₀,g1,g2,fun p e=>let ⟨v,f1,f2⟩:=g3 p e;⟨v,f1,VR.less _ _ f2⟩⟩
theorem KpI.drop{W:Addr→Prop}{X Y:List Addr}{H':AH}{s0 s s':Shared}(k:Kp H s0 H s)(x:KpI W X H s H' s')(hX:∀ b∈X,b∈Y∨s0.heap.get? b=none):KpI W Y H s0 H' s':=by
 have nw:∀ b o,s0.heap.get? b=some o→b∉Y→b∉X:=fun b o e hY hb=>by
  rcases hX b hb with h | h
  ·exact hY h
  ·rw[h]at e;injection e
 refine⟨x.os.trans k.os,fun b o e hm hno hY=>(k.kept b o e hm).step fun o' e'=>x.kept b o' e' hm hno (nw b o e hY),fun b o hb=>?_,fun b o e hm hno hY=>by
  obtain⟨o',e',_⟩:=k.kept b o e hm;exact x.live b o' e' hm hno (nw b o e hY)⟩
 rcases x.dom b o hb with h | h | h
 ·cases hb:H b with
  | none=>exact .inl (k.back (Ah hb) h)
  | some o' =>
   cases o' with
   | lst ys=>exact .inr (.inr ⟨_,rfl,fun O=>rfl⟩)
   | fro ys=>exact .inl (k.back (AS hb) h)
 ·exact(hX b h).elim (fun h=>.inr (.inl h)) .inl
 ·exact .inr (.inr h)
noncomputable def SW(z TI TO R I l:Addr)(c:Int)(sm:Bool)(n:Nat)(h:Heap):Prop:=(∃ f0,IsZip h z TI TO f0)∧(∃ x y,IsPair h TO x y)∧(∃ x left,C8 h R sm x left c)∧h.IsListIter I l n
omit Z in
theorem MG{h:Heap}{z TI TO:Addr}{f:Value}(x:IsZip h z TI TO f):∃ o,h.get? z=some o∧Mq o:=⟨_,x,DZ (by decide) (by intro q t h;simp at h)⟩
omit Z in
theorem NJ{h:Heap}{R:Addr}{sm:Bool}{x left c:Int}(hh:C8 h R sm x left c):∃ o,h.get? R=some o∧Mq o:=⟨_,hh,DZ (by cases sm<;>decide) (by intro q t h;simp[rawInt]at h)⟩
omit Z in
theorem Hu{h:Heap}{T:Addr}{x y:Value}(hh:IsPair h T x y):∃ o,h.get? T=some o∧Tup o:=⟨_,hh,rfl,_,_,rfl⟩
theorem J8{h:Heap}{z TI TO Rg I l:Addr}{c:Int}{sm:Bool}(hzTO:Zz.z TO)(hzz:¬ Zz.z z)(hzR:¬ Zz.z Rg)(hzI:¬ Zz.z I):(∃ f0,IsZip h z TI TO f0)→(∃ x y,IsPair h TO x y)→(∃ x left,C8 h Rg sm x left c)→(∃ k,h.IsListIter I l k)→DY [z,TO,Rg,I] h:=by
 rintro⟨f0,h1⟩ ⟨x,y,h2⟩ ⟨x',left,h3⟩ ⟨k,h4⟩ b hb
 simp only[List.mem_cons,List.not_mem_nil,or_false]at hb
 rcases hb with rfl | rfl | rfl | rfl
 ·exact OddZ.of hzz (MG h1)
 ·obtain⟨o,g1,g2⟩:=Hu h2;exact⟨o,g1,fun O=>g2,fun h=>absurd hzTO h⟩
 ·exact OddZ.of hzR (NJ h3)
 ·exact OddZ.of hzI (Ai h4)
omit Z in
theorem Ji(N I l:Nat)(h1:I<N)(h2:l<N)(h3:l≠I):ZipApart (N+3) (N+1) (N+2) N I l l:=by
 constructor<;>(refine neN ?_;(first | exact Nat.ne_of_lt (Nat.lt_succ_of_lt (Nat.lt_succ_self _)) | exact Nat.ne_of_lt (Nat.lt_succ_self _) | exact Nat.ne_of_lt (Nat.lt_add_of_pos_right (by decide)) | exact Nat.ne_of_lt (Nat.lt_succ_of_lt (Nat.lt_succ_of_lt (Nat.lt_succ_of_lt h1))) | exact Nat.ne_of_lt (Nat.lt_succ_self _) | exact Nat.ne_of_gt (Nat.lt_succ_self _) | exact Nat.ne_of_gt (Nat.lt_succ_of_lt h1) | exact Nat.ne_of_gt (Nat.lt_succ_of_lt (Nat.lt_succ_self _)) | exact Nat.ne_of_gt (Nat.lt_succ_of_lt (Nat.lt_succ_of_lt h1)) | exact Nat.ne_of_gt h1 | exact Nat.ne_of_lt (Nat.lt_succ_of_lt (Nat.lt_succ_of_lt (Nat.lt_succ_of_lt h2))) | exact Nat.ne_of_lt (Nat.lt_succ_of_lt (Nat.lt_succ_of_lt h2)) | exact Nat.ne_of_lt h2 | exact h3))
omit Z in
theorem N3(N:Nat):N+2<N+3∧(∀ T:Nat,N+3<T→T<N→False)∧¬ (N+3<N+2)∧N+3≠N+2∧N≠N+2∧¬ N+2<N:=by
 refine⟨?_,fun T=>?_,?_,?_,?_,?_⟩<;>(first | exact Nat.le_refl _ | exact Oi | exact Nat.not_lt_of_le (Nat.le_succ _) | exact Nat.ne_of_gt (Nat.lt_succ_self _) | exact Nat.ne_of_lt (Nat.lt_succ_of_lt (Nat.lt_succ_self _)) | exact Nat.not_lt_of_le (Nat.le_add_right _ _))

theorem MF{elts:List Expr}{tk n:Nat}{tpos:Pos}{s:Shared}{z TI TO Rg I l:Addr}{xs:List PV}{us:List Value}{nn:Nat}{a c:Int}{sm:Bool}(hA:A.handled=none)(ok:OkH G H s)(D:ZipApart z TI TO Rg I l l)(hTOz:TO<z)
  (hz:IsZip s.heap z TI TO .none) (hTI:IsPair s.heap TI (.ref Rg) (.ref I)) (hTO:IsPair s.heap TO .none .none) (hRg:C8 s.heap Rg sm a n c) (hit:s.heap.IsListIter I l 0) (hl:IsL s.heap l us.toArray nn) (hvs:VRs s.heap xs us) (hH:H l=some (.fro xs)) (hHT:H TI=none)
  (hzT:∀ T,z<T→¬ Zz.z T) (hzTO:Zz.z TO) (hzz:¬ Zz.z z) (hzR:¬ Zz.z Rg) (hzI:¬ Zz.z I) (hb:∀ b∈[z,TO,Rg,I],G.base.get? b=none) (hsm:n≠0→sm=true) (hlen:n≤xs.length) :
  wpAny (model G.prog G.w) A (pyIter (.ref z)) (PostIX G A (.Tuple elts tk tpos) H s ((List.range n).map fun(i:Nat)=>.tup [.int (a+(i:Int)*c),xs.getD i .none]) [z,TO,Rg,I] (SW z TI TO Rg I l c sm n)) Bb s:=by
 have hlx:=hvs.length
 have hodd:∀(h:Heap),(∃ f0,IsZip h z TI TO f0)→(∃ x y,IsPair h TO x y)→(∃ x left,C8 h Rg sm x left c)→(∃ k,h.IsListIter I l k)→DY [z,TO,Rg,I] h:=fun h=>J8 hzTO hzz hzR hzI
 refine wpAny_pyIter_zip hz ⟨z,[z,TI,TO,Rg,I,l],[z,TO,Rg,I],_,_,SD z TI TO Rg I l a c sm n us.toArray,rfl,ok,Kp.refl _ _,fun b hb=>.inr hb,
  {K:=by
    have:=IF (prog:=G.prog) (w:=G.w) (A:=A) (elts:=elts) (k:=tk) (pos:=tpos) (a:=a) (c:=c) (ys:=us.toArray) hA D hsm (by rw[List.size_toArray,hlx];exact hlen)
    simp only[List.length_map,List.length_range];exact this
   st:=⟨hz,hTI,⟨_,_,hTO⟩,by simpa using hRg,hit,hl.isList⟩
   self:=fun s' Q E st hq=>wpAny_pyIter_zip st.1 hq
   odd:=fun i h st=>hodd h ⟨_,st.1⟩ st.2.2.1 ⟨_,_,st.2.2.2.1⟩ ⟨_,st.2.2.2.2.1⟩
   oddM:=fun i v h st=>by
    refine AJ fun WW9 hW9=>?_
    obtain⟨T,_,_,_,h1,_,h2,h3,h4,_⟩:=st
    refine hW9 ?_
    clear hW9 WW9
    exact hodd h ⟨_,h1⟩ h2 ⟨_,_,h3⟩ ⟨_,h4⟩
   base:=hb
   src:=fun b hb=>by
    simp only[List.mem_cons,List.not_mem_nil,or_false]at hb
    rcases hb with rfl | rfl | rfl | rfl | rfl | rfl
    ·exact .inl (by simp)
    ·exact .inr ⟨_,hTI,Ah hHT,Tup.not_soft ⟨rfl,_,_,rfl⟩⟩
    ·exact .inl (by simp)
    ·exact .inl (by simp)
    ·exact .inl (by simp)
    ·exact .inr ⟨_,hl,AS hH,fun hd=>hd.not_solid (.inr (Ab _ _))⟩
   val:=fun i v h' hk hi hP=>by
    rw[List.length_map,List.length_range]at hi
    refine AJ fun WW9 hW9=>?_
    obtain⟨T,eq9_0,⟨t,y,hy,hT⟩,hzt⟩:=hP
    refine hW9 ?_
    clear hW9 WW9
    subst eq9_0
    have hvs':VRs h' xs us:=VRs.monoZ hk _ _ hvs
    obtain⟨p,hp⟩:∃ p,xs[i]?=some p:=⟨_,List.getElem?_eq_getElem (by exact Nat.le_trans hi hlen)⟩
    refine AJ fun WW9 hW9=>?_
    obtain⟨u,hu,hr⟩:=hvs'.get hp
    refine hW9 ?_
    clear hW9 WW9
    have hyu:u=y:=by
     have:us[i]?=some y:=by simpa using hy
     rw[hu]at this;exact Option.some.inj this
    rw[hyu]at hr
    refine⟨.tup [.int (a+(i:Int)*c),xs.getD i .none],by simp only[List.getElem?_map,List.getElem?_range hi];rfl,T,[.int (a+(i:Int)*c) t,y],0,rfl,hT,?_,hzT T hzt⟩
    rw[List.getD_eq_getElem?_getD,hp]
    exact VRs.two ⟨t,rfl⟩ hr },
  fun s' Q E st hQ=>?_⟩
 rw[List.length_map,List.length_range]at st
 refine Cq hA D st fun h' hk hz'=>?_
 refine AJ fun WW9 hW9=>?_
 obtain⟨_,_,⟨x,y,g2⟩,g3,g4,_⟩:=st
 refine hW9 ?_
 clear hW9 WW9
 have g2':=hk _ _ D.TOz g2
 have g3':=hk _ _ D.i1z g3
 have g4':h'.IsListIter I l n:=g4.at fun o e=>hk _ _ D.i2z e
 refine hQ h' s'.toks (fun b o hb e=>hk b o (fun e=>hb (by simp[e])) e) (Hw (hodd h' ⟨_,hz'⟩ ⟨_,_,g2'⟩ ⟨_,_,g3'⟩ ⟨_,g4'⟩)) ⟨⟨_,hz'⟩,⟨_,_,g2'⟩,⟨_,_,g3'⟩,g4'⟩
theorem ED{K:Frag}{elt e1:Expr}{elts:List Expr}{tk n:Nat}{tpos zp np ccpos cpos npos pos:Pos}{scope:Scope}{x y:Str}{rest:List Stmt}{I l:Addr}{xs:List PV}{a b c:Int}{R:PF→Loc→AH→Prop}(τ:Loc)(fy:Nat→PV)(hK:G.K=K)(hA:F.A.handled=none)(hkz:F.env.kindOf "zip" = some .globalImplicit)(hf:nsIn K mainGlobals "zip" = some none)
  (hsc:Ao scope=true) (hfree:By F scope) (hle:Loc.le τ (σ.fr scope)) (hk:F.env.kindOf y=some .local) (hline:(npos.line==cpos.line)=true) (hny:scope.names.any (fun x=>x.1==y&&(x.2==.local||x.2==.cell))=false)
  (hx:σ x=some (.val (.ref I))) (hH:H l=some (.fro xs)) (he1:Ev G F e1 σ H (fun p H1=>p=.rng a b c∧H1=H)) (hn:Builtin.Range.rangeSize a b c=n) (hsm:n≠0→Builtin.Range.small a b c=true) (hlen:n≤xs.length)
  (step:∀[Zz],F4 G F scope (.Tuple elts tk tpos) elt [] τ H (List.range n) (fun(i:Nat)=>.tup [.int (a+(i:Int)*c),xs.getD i .none]) (fun O=>true) fy)
  (h:∀ r,H r=none→JH G F I l n rest (σ.set y (.ref r)) (H.set r (.lst ((List.range n).map fy))) R)
  (hs:∀ v,foldedSetIterable (.Call (.Name "zip" zp) [e1,.Name x np] [] ccpos) F.env v=pure v:=by intro _;rfl)
  (he:starEach [e1,.Name x np] F.env=(false,eval e1 F.env)::starEach [.Name x np] F.env:=by rfl) :
  JH G F I l 0 (.Assign [.Name y npos] (.ListComp elt [⟨.Tuple elts tk tpos,.Call (.Name "zip" zp) [e1,.Name x np] [] ccpos,[],0⟩] scope cpos) pos::rest) σ H R:=by
 subst hK
 intro s ok lr hit hb
 refine wpAny_execs_cons (Bs lr.fn hk hline hny ?_)
 refine wpAny_comprehension_free (g:=⟨.Tuple elts tk tpos,.Call (.Name "zip" zp) [e1,.Name x np] [] ccpos,[],0⟩) (gs:=[]) rfl (by intro _;rfl) (D9 hsc hfree lr) (CH hsc) (BS hsc) ?_
 refine wpAny_Call_NameR (wpAny_mono (BX (Q:=fun p H1=>p=.val (.type "zip")∧H1=H) hkz (G.mg_of hf) (by decide +kernel) (by decide) ⟨rfl,rfl⟩ s ok lr) (fun v s1 zz2=>zz2.on fun p H1 hv ok1 k1 zz2_5=>zz2_5.elim fun hp hH1=>?_) fun O O x=>x)
 subst hp;subst hH1
 rw[show v=.type "zip" from hv]
 have lr1:=lr.kp ok k1
 refine PySem.Pv.callWith_type1 (wpAny_mono (AM (Q:=fun ps H2=>ps=[.rng a b c,.val (.ref I)]∧H2=H1) (he1.mono fun p H2 zz2=>by obtain⟨hp,hH2⟩:=zz2;subst hp;subst hH2;exact AM (BT hx (AP ⟨rfl,rfl⟩)) (by rfl)) he s1 ccpos ok1 lr1) (fun vs s2 zz2=>zz2.on fun ps H2 hvs ok2 k2 zz2_5=>zz2_5.elim fun hps hH2=>?_) fun O O x=>x) he rfl
 subst hps;subst hH2
 refine AJ fun WW9 hW9=>?_
 obtain⟨_,_,eq9_0,⟨r,t,u,w,eq9_1,hr⟩,hvI⟩:=hvs.two_inv
 refine hW9 ?_
 clear hW9 WW9
 subst eq9_0 eq9_1
 rw[show _=Value.ref I from hvI]
 have lr2:=lr1.kp ok1 k2
 have k12:=k1.trans k2
 have hit2:=Bw ok lr k12.toF hit
 have hfr:∀ j,s2.heap.get? (s2.heap.objs.size+j)=none:=fun j=>Bx (Nat.le_add_right _ _)
 have hfr0:s2.heap.get? s2.heap.objs.size=none:=Bx (Nat.le_refl _)
 refine AJ fun WW9 hW9=>?_
 obtain⟨⟨us,nn,hl,hvs2,hz2⟩,_⟩:=id (ok2.hr l _ hH)
 refine hW9 ?_
 clear hW9 WW9
 refine J0 hr hit2 fun h' hz hTI hTO hRg hkeep=>?_
 have hIlt:I<s2.heap.objs.size:=by obtain⟨_,e,_⟩:=hit2;exact Heap.lt_size e
 have hllt:l<s2.heap.objs.size:=Heap.lt_size hl
 have hlI:l≠I:=by
  rintro rfl
  refine AJ fun WW9 hW9=>?_
  obtain⟨o,ho,hc,_⟩:=hit2
  refine hW9 ?_
  clear hW9 WW9
  have hl':s2.heap.get? l=some _:=hl
  rw[hl']at ho;(replace ho:=Option.some.inj ho;subst ho);simp at hc
 have D:ZipApart (s2.heap.objs.size+3) (s2.heap.objs.size+1) (s2.heap.objs.size+2) s2.heap.objs.size I l l:=Ji _ _ _ hIlt hllt hlI
 have hIz:¬ Z.z I:=Hy ok2 (Ai hit2)
 have hn0:∀ j,¬ Z.z (s2.heap.objs.size+j):=fun j=>BP ok2 (hfr j)
 have hbase:∀ j,G.base.get? (s2.heap.objs.size+j)=none:=fun j=>by
  cases e:G.base.get? (s2.heap.objs.size+j) with
  | none=>rfl
  | some o=>have:=ok2.keep _ _ e;rw[hfr j]at this;injection this
 have hHn:∀ j,H2 (s2.heap.objs.size+j)=none:=fun j=>by
  cases e:H2 (s2.heap.objs.size+j) with
  | none=>rfl
  | some o=>obtain⟨⟨vs',n',h1,_⟩,_⟩:=ok2.hr _ _ e;have h1':s2.heap.get? (s2.heap.objs.size+j)=some _:=h1;rw[hfr j]at h1';injection h1'
 have ok3:=ok2.add (T:=s2.heap.objs.size+2) (tk:=s2.toks) (hfr 2) hkeep (Hu hTO)
 have lr3:=lr2.add (T:=s2.heap.objs.size+2) (hfr 2) hkeep
 rw[hn]at hRg
 have hit3:h'.IsListIter I l 0:=hit2.at fun o e=>hkeep _ _ e
 have src:=MF (Z:=Z.add (s2.heap.objs.size+2)) (A:=F.A) (elts:=elts) (tk:=tk) (tpos:=tpos) hA ok3 D (N3 _).1 hz hTI hTO hRg hit3 (hkeep _ _ hl) (VRs.add (hfr 2) hkeep _ _ hvs2) hH (hHn 1)
  (fun T hT h=>h.elim (fun h=>by obtain⟨o,h1,_⟩:=ok2.tab.1 T h;exact(N3 _).2.1 T hT (Heap.lt_size h1)) fun e=>by rw[e]at hT;exact(N3 _).2.2.1 hT)
  (.inr rfl) (fun h=>h.elim (hn0 3) (N3 _).2.2.2.1) (fun h=>h.elim (hn0 0) (N3 _).2.2.2.2.1) (fun h=>h.elim hIz fun e=>by rw[e]at hIlt;exact(N3 _).2.2.2.2.2 hIlt)
  (fun b hb'=>by
   simp only[List.mem_cons,List.not_mem_nil,or_false]at hb'
   rcases hb' with rfl | rfl | rfl | rfl
   ·exact hbase 3
   ·exact hbase 2
   ·exact hbase 0
   ·exact hb) hsm hlen
 have hodd:∀(h:Heap),(∃ f0,IsZip h (s2.heap.objs.size+3) (s2.heap.objs.size+1) (s2.heap.objs.size+2) f0)→(∃ x y,IsPair h (s2.heap.objs.size+2) x y)→(∃ x left,C8 h s2.heap.objs.size (Builtin.Range.small a b c) x left c)→(∃ k,h.IsListIter I l k)→@DY (Z.add (s2.heap.objs.size+2)) [s2.heap.objs.size+3,s2.heap.objs.size+2,s2.heap.objs.size,I] h:=fun h =>
  J8 (Z:=Z.add (s2.heap.objs.size+2)) (.inr rfl) (fun h=>h.elim (hn0 3) (N3 _).2.2.2.1) (fun h=>h.elim (hn0 0) (N3 _).2.2.2.2.1) (fun h=>h.elim hIz fun e=>by rw[e]at hIlt;exact(N3 _).2.2.2.2.2 hIlt)
 have hX0:=hodd h' ⟨_,hz⟩ ⟨_,_,hTO⟩ ⟨_,_,hRg⟩ ⟨_,hit3⟩
 obtain⟨_,k3⟩:=Fk (tk:=s2.toks) ok2 hkeep
 refine B8 (Z:=Z.add (s2.heap.objs.size+2)) (G:=G) (F:=F) (σ:=σ) (H:=H2) (Q:=fun f σ' H'=>f=.next∧∃ r,H2 r=none∧σ'=σ.set y (.ref r)∧AH.le (H2.set r (.lst ((List.range n).map fy))) H') (inv:=fun i acc H'=>acc=(((List.range n).take i).filter fun O=>true).map fy∧AH.le H2 H') hsc hfree hk ok3 lr3 hX0 src (LH (Z:=Z.add (s2.heap.objs.size+2)) (by rw[List.length_map,List.length_range];exact Nat.le_trans hlen hz2) ⟨rfl,AH.le_refl _⟩ (CompStep.toE (Z:=Z.add (s2.heap.objs.size+2)) (Eb (Z:=Z.add (s2.heap.objs.size+2)) hle (@step (Z.add (s2.heap.objs.size+2)))))) (fun h hd=>hodd h hd.1 hd.2.1 hd.2.2.1 ⟨_,hd.2.2.2⟩) ?_ ?_ fun s' h'=>?_
 ·rintro h h' ⟨⟨f0,h1⟩,⟨x,y,h2⟩,⟨x',left,h3⟩,h4⟩ hk
  exact⟨⟨f0,hk _ (by simp) _ h1⟩,⟨x,y,hk _ (by simp) _ h2⟩,⟨x',left,hk _ (by simp) _ h3⟩,h4.at fun o e=>hk _ (by simp) o e⟩
 ·rintro acc H' ⟨hacc,hle'⟩ r hr
  refine⟨rfl,r,?_,rfl,?_⟩
  ·cases e:H2 r with
   | none=>rfl
   | some o=>rw[hle' r o e]at hr;injection hr
  ·simp only[hacc,List.length_map,List.length_range,A2,show(List.range n).take n=List.range n from List.take_of_length_le (by simp)]
   exact AH.le_set _ _ hle'
 ·refine AJ fun WW9 hW9=>?_
  obtain⟨pf,σ',H',hf,ok',lr',k',dn,eq9_0,r,hr,eq9_1,hle'⟩:=h'
  refine hW9 ?_
  clear hW9 WW9
  subst eq9_0 eq9_1
  refine wpAny_mono (h r hr s' (ok'.less.weak hle') lr'.less dn.2.2.2 hb) (fun f s4 h4=>h4.trans ?_ fun O h=>h) fun O O x=>x
  refine KpI.drop (k12.trans k3) ⟨k'.os,k'.kept,fun b o e=>k'.dom b o (hle' _ _ e),k'.live⟩ fun b hb'=>?_
  have fr:∀ j,s.heap.get? (s2.heap.objs.size+j)=none:=fun j=>k12.back (Ah (hHn j)) (hfr j)
  simp only[List.mem_cons,List.not_mem_nil,or_false]at hb'
  rcases hb' with rfl | rfl | rfl | rfl
  ·exact .inr (fr 3)
  ·exact .inr (fr 2)
  ·exact .inr (fr 0)
  ·exact .inl (by simp)
end
end Mine
namespace Mine

noncomputable def Rv(S:Addr)(h:Heap):Prop:=∃(ws:List Value) (n:Nat),IsL h S ws.toArray n∧ws.toArray.size≤2
theorem KJ{n:Nat}(h:n≤2):n≤sizeLine:=by rw[sizeLine_eq];exact Nat.le_add_left_of_le h

noncomputable def NC(M:Model)(A:Around)(E:Value→Shared→Prop)(id:String)(op:CmpOp)(it key:Value)(S:Addr)(kw:List (Str × Value))(Q:Fin→Shared→Prop)(item val:Value)(s2:Shared):List Value→Prop
 | [oi,ov]=>wpAny M A (richCompare op val ov) (fun b s3=>∃ c,b=.bool c∧if c then Rv S s3.heap∧Q (.again (.builtin id ⟨[it,key,.ref S],kw⟩)) { s3 with heap:=s3.heap.update S (Obj.mapSeq fun O=>#[item,val]) } else Q (.again (.builtin id ⟨[it,key,.ref S],kw⟩)) s3) E s2
 | _=>Rv S s2.heap∧Q (.again (.builtin id ⟨[it,key,.ref S],kw⟩)) { s2 with heap:=s2.heap.update S (Obj.mapSeq fun O=>#[item,val]) }
noncomputable def Ri(S:Addr)(kw:List (Str × Value))(Q:Fin→Shared→Prop)(s1:Shared):List Value→Prop
 | [item,val]=>Rv S s1.heap∧Q (.done (.ret item)) { s1 with heap:=s1.heap.update S (Obj.mapSeq fun O=>#[]) }
 | _=>match kw with
  | (_,d)::_=>Q (.done (.ret d)) s1
  | []=>False
noncomputable def JF(M:Model)(A:Around)(E:Value→Shared→Prop)(key item:Value)(R:Value→Shared→Prop)(s:Shared):Prop:=match key with
 | .none=>R item s
 | _=>wpAny M A (call key [item]) R E s
noncomputable def Rh(M:Model)(A:Around)(E:Value→Shared→Prop)(id:String)(op:CmpOp)(it key:Value)(S:Addr)(kw:List (Str × Value))(olds:List Value)(Q:Fin→Shared→Prop):Option Value→Shared→Prop
 | none,s1=>Ri S kw Q s1 olds
 | some item,s1=>JF M A E key item (fun val s2=>NC M A E id op it key S kw Q item val s2 olds) s1
noncomputable def JC(G:Cx)(A:Around)(id:String)(op:CmpOp)(B:Builtin):Prop:=∀(s:Shared) (it key:Value) (S:Addr) (kw:List (Str × Value)) (olds:List Value) (n:Nat) (Q:Fin→Shared→Prop),(olds=[]∨∃ x y,olds=[x,y])→(key=.none∨∃ q,key=.ref q)→IsL s.heap S olds.toArray n →
 wpAny (model G.prog G.w) A (pyNext it) (Rh (model G.prog G.w) A Bb id op it key S kw olds Q) Bb s→wpAny (model G.prog G.w) A (B ⟨[it,key,.ref S],kw⟩) Q Bb s
theorem LC(G:Cx)(A:Around):JC G A "min.loop" .Lt Builtin.«min.loop»:=by
 intro s it key S kw olds n Q ho hkey hS h
 have hname:(toString "min" ++ toString ".loop" : String) = "min.loop" := by decide
 show wpAny _ A (seqItems? (.ref S) >>= _) _ _ _
 refine wpAny_bind (wpAny_seqItems hS rfl ?_)
 show wpAny _ A (tryCatch (pyNext it) _ >>= _) _ _ _
 refine wpAny_bind (wpAny_tryCatch (wpAny_mono h (fun r s1 h1=>?_) fun O O e=>e.elim))
 cases r with
 | none =>
  rcases ho with rfl | ⟨x,y,rfl⟩
  ·cases kw with
   | nil=>exact h1.elim
   | cons p kw=>exact wpAny_bind (wpAny_rule (wpAny_pure h1))
  ·refine AJ fun WW9 hW9=>?_
   obtain⟨⟨ws,m,hm,hz⟩,h1⟩:=h1
   refine hW9 ?_
   clear hW9 WW9
   refine wpAny_bind (wpAny_updateSeq (hz:=KJ hz) hm rfl (wpAny_bind (wpAny_letGo (wpAny_pure h1))))
 | some item =>
  rcases hkey with rfl | ⟨q,rfl⟩<;>rcases ho with rfl | ⟨x,y,rfl⟩
  ·refine wpAny_bind (wpAny_pure ?_)
   refine AJ fun WW9 hW9=>?_
   obtain⟨⟨ws,m,hm,hz⟩,h1⟩:=h1
   refine hW9 ?_
   clear hW9 WW9
   refine wpAny_bind (wpAny_updateSeq (hz:=KJ hz) hm rfl ?_)
   rw[hname]
   exact wpAny_pure h1
  ·refine wpAny_bind (wpAny_pure ?_)
   refine wpAny_bind (wpAny_tryCatch (wpAny_holding (wpAny_bind (wpAny_mono h1 (fun b s3 hb=>?_) fun O O e=>e.elim))))
   refine AJ fun WW9 hW9=>?_
   obtain⟨c,eq9_0,hc⟩:=hb
   refine hW9 ?_
   clear hW9 WW9
   subst eq9_0
   refine wpAny_bind (wpAny_holding (wpAny_truthy_bool (wpAny_bind (wpAny_letGo (wpAny_pure ?_)))))
   cases c with
   | true =>
    refine AJ fun WW9 hW9=>?_
    obtain⟨⟨ws,m,hm,hz⟩,h1⟩:=hc
    refine hW9 ?_
    clear hW9 WW9
    refine wpAny_bind (wpAny_updateSeq (hz:=KJ hz) hm rfl (wpAny_bind (wpAny_letGo ?_)))
    rw[hname];exact wpAny_pure h1
   | false =>
    refine wpAny_bind (wpAny_letGo ?_)
    rw[hname];exact wpAny_pure hc
  ·refine wpAny_bind (wpAny_tryCatch (wpAny_holding (wpAny_mono h1 (fun val s2 h1=>?_) fun O O e=>e.elim)))
   refine AJ fun WW9 hW9=>?_
   obtain⟨⟨ws,m,hm,hz⟩,h1⟩:=h1
   refine hW9 ?_
   clear hW9 WW9
   refine wpAny_bind (wpAny_updateSeq (hz:=KJ hz) hm rfl ?_)
   rw[hname]
   exact wpAny_pure h1
  ·refine wpAny_bind (wpAny_tryCatch (wpAny_holding (wpAny_mono h1 (fun val s2 h1=>?_) fun O O e=>e.elim)))
   refine wpAny_bind (wpAny_tryCatch (wpAny_holding (wpAny_bind (wpAny_mono h1 (fun b s3 hb=>?_) fun O O e=>e.elim))))
   refine AJ fun WW9 hW9=>?_
   obtain⟨c,eq9_0,hc⟩:=hb
   refine hW9 ?_
   clear hW9 WW9
   subst eq9_0
   refine wpAny_bind (wpAny_holding (wpAny_truthy_bool (wpAny_bind (wpAny_letGo (wpAny_pure ?_)))))
   cases c with
   | true =>
    refine AJ fun WW9 hW9=>?_
    obtain⟨⟨ws,m,hm,hz⟩,h1⟩:=hc
    refine hW9 ?_
    clear hW9 WW9
    refine wpAny_bind (wpAny_updateSeq (hz:=KJ hz) hm rfl (wpAny_bind (wpAny_letGo ?_)))
    rw[hname];exact wpAny_pure h1
   | false =>
    refine wpAny_bind (wpAny_letGo ?_)
    rw[hname];exact wpAny_pure hc
theorem LE(G:Cx)(A:Around):JC G A "max.loop" .Gt Builtin.«max.loop»:=by
 intro s it key S kw olds n Q ho hkey hS h
 have hname:(toString "max" ++ toString ".loop" : String) = "max.loop" := by decide
 show wpAny _ A (seqItems? (.ref S) >>= _) _ _ _
 refine wpAny_bind (wpAny_seqItems hS rfl ?_)
 show wpAny _ A (tryCatch (pyNext it) _ >>= _) _ _ _
 refine wpAny_bind (wpAny_tryCatch (wpAny_mono h (fun r s1 h1=>?_) fun O O e=>e.elim))
 cases r with
 | none =>
  rcases ho with rfl | ⟨x,y,rfl⟩
  ·cases kw with
   | nil=>exact h1.elim
   | cons p kw=>exact wpAny_bind (wpAny_rule (wpAny_pure h1))
  ·refine AJ fun WW9 hW9=>?_
   obtain⟨⟨ws,m,hm,hz⟩,h1⟩:=h1
   refine hW9 ?_
   clear hW9 WW9
   refine wpAny_bind (wpAny_updateSeq (hz:=KJ hz) hm rfl (wpAny_bind (wpAny_letGo (wpAny_pure h1))))
 | some item =>
  rcases hkey with rfl | ⟨q,rfl⟩<;>rcases ho with rfl | ⟨x,y,rfl⟩
  ·refine wpAny_bind (wpAny_pure ?_)
   refine AJ fun WW9 hW9=>?_
   obtain⟨⟨ws,m,hm,hz⟩,h1⟩:=h1
   refine hW9 ?_
   clear hW9 WW9
   refine wpAny_bind (wpAny_updateSeq (hz:=KJ hz) hm rfl ?_)
   rw[hname]
   exact wpAny_pure h1
  ·refine wpAny_bind (wpAny_pure ?_)
   refine wpAny_bind (wpAny_tryCatch (wpAny_holding (wpAny_bind (wpAny_mono h1 (fun b s3 hb=>?_) fun O O e=>e.elim))))
   refine AJ fun WW9 hW9=>?_
   obtain⟨c,eq9_0,hc⟩:=hb
   refine hW9 ?_
   clear hW9 WW9
   subst eq9_0
   refine wpAny_bind (wpAny_holding (wpAny_truthy_bool (wpAny_bind (wpAny_letGo (wpAny_pure ?_)))))
   cases c with
   | true =>
    refine AJ fun WW9 hW9=>?_
    obtain⟨⟨ws,m,hm,hz⟩,h1⟩:=hc
    refine hW9 ?_
    clear hW9 WW9
    refine wpAny_bind (wpAny_updateSeq (hz:=KJ hz) hm rfl (wpAny_bind (wpAny_letGo ?_)))
    rw[hname];exact wpAny_pure h1
   | false =>
    refine wpAny_bind (wpAny_letGo ?_)
    rw[hname];exact wpAny_pure hc
  ·refine wpAny_bind (wpAny_tryCatch (wpAny_holding (wpAny_mono h1 (fun val s2 h1=>?_) fun O O e=>e.elim)))
   refine AJ fun WW9 hW9=>?_
   obtain⟨⟨ws,m,hm,hz⟩,h1⟩:=h1
   refine hW9 ?_
   clear hW9 WW9
   refine wpAny_bind (wpAny_updateSeq (hz:=KJ hz) hm rfl ?_)
   rw[hname]
   exact wpAny_pure h1
  ·refine wpAny_bind (wpAny_tryCatch (wpAny_holding (wpAny_mono h1 (fun val s2 h1=>?_) fun O O e=>e.elim)))
   refine wpAny_bind (wpAny_tryCatch (wpAny_holding (wpAny_bind (wpAny_mono h1 (fun b s3 hb=>?_) fun O O e=>e.elim))))
   refine AJ fun WW9 hW9=>?_
   obtain⟨c,eq9_0,hc⟩:=hb
   refine hW9 ?_
   clear hW9 WW9
   subst eq9_0
   refine wpAny_bind (wpAny_holding (wpAny_truthy_bool (wpAny_bind (wpAny_letGo (wpAny_pure ?_)))))
   cases c with
   | true =>
    refine AJ fun WW9 hW9=>?_
    obtain⟨⟨ws,m,hm,hz⟩,h1⟩:=hc
    refine hW9 ?_
    clear hW9 WW9
    refine wpAny_bind (wpAny_updateSeq (hz:=KJ hz) hm rfl (wpAny_bind (wpAny_letGo ?_)))
    rw[hname];exact wpAny_pure h1
   | false =>
    refine wpAny_bind (wpAny_letGo ?_)
    rw[hname];exact wpAny_pure hc
section
variable {β:Type}
noncomputable def stepB(bt:Int→Int→Bool)(kx:β→Int):Option β→β→Option β
 | none,x=>some x
 | some y,x=>if bt (kx x) (kx y) then some x else some y
noncomputable def Ax(bt:Int→Int→Bool)(kx:β→Int)(xs:List β):Option β:=xs.foldl (stepB bt kx) none
noncomputable def Fy(g:β→PV)(kx:β→Int):Option β→List PV
 | none=>[]
 | some b=>[g b,.int (kx b)]
noncomputable def Fw(g:β→PV)(d:PV):Option β→PV
 | none=>d
 | some b=>g b
theorem Ia{bt:Int→Int→Bool}{kx:β→Int}{xs:List β}{j:Nat}{x:β}(h:xs[j]?=some x):Ax bt kx (xs.take (j+1))=stepB bt kx (Ax bt kx (xs.take j)) x:=by
 unfold Ax;simp only[Ay h,List.foldl_append];rfl
end
section
variable [Z:Zz] {G:Cx} {A:Around} {F:Fx} {σ:Loc} {H:AH} {β:Type}

noncomputable def KeyV(G:Cx)(A:Around)(kf:PV)(H:AH)(xs:List β)(g:β→PV)(kx:β→Int):Prop :=
 (kf=.none∧∀ x∈xs,g x=.int (kx x))∨((∃ o,kf=.fnc o)∧∀ x∈xs,∀ H',AH.le H H'→OpC G A kf [g x] H' (fun p H''=>p=.int (kx x)∧H''=H'))
structure MM (G:Cx) (A:Around) (id:String) (op:CmpOp) (B:Builtin) (bt:Int→Int→Bool):Prop where
 turn:JC G A.in1 id op B
 plain:plainId id=true
 entry:entryFor table id=some B
 cmp:∀(x y:Int) (t u:Tok) (s:Shared) (Q:Value→Shared→Prop),Q (.bool (bt x y)) s→wpAny (model G.prog G.w) A.in1 (richCompare op (.int x t) (.int y u)) Q Bb s
theorem KeyV.run{kf:PV}{kv v:Value}{xs:List β}{g:β→PV}{kx:β→Int}{x:β}{H':AH}{s:Shared}{R:Value→Shared→Prop}(K:KeyV G A kf H xs g kx)(hx:x∈xs)(hle:AH.le H H')(ok:OkH G H' s)(hkv:VR s.heap kf kv)(hv:VR s.heap (g x) v)
  (h:∀ u t s1,u=.int (kx x) t→OkH G H' s1→Kp H' s H' s1→R u s1):JF (model G.prog G.w) A Bb kv v R s:=by
 rcases K with ⟨rfl,hg⟩ | ⟨⟨o,rfl⟩,hk⟩
 ·rw[show kv=.none from hkv]
  rw[hg x hx]at hv
  obtain⟨t,rfl⟩:=hv
  exact h _ t s rfl ok (Kp.refl _ _)
 ·refine AJ fun WW9 hW9=>?_
  obtain⟨a,fd,c,oc,vs,t,eq9_0,_⟩:=id hkv
  refine hW9 ?_
  clear hW9 WW9
  subst eq9_0
  refine wpAny_mono (hk x hx H' hle s _ [v] ok hkv (VRs.one hv)) (fun u s1 zz2=>zz2.on fun p H1 hp ok1 k1 zz2_5=>zz2_5.elim fun hpe hHe=>?_) fun O O e=>e
  subst hpe;subst hHe
  obtain⟨t,rfl⟩:=hp
  exact h _ t s1 rfl ok1 k1
theorem KeyV.kind{kf:PV}{kv:Value}{xs:List β}{g:β→PV}{kx:β→Int}{h:Heap}(K:KeyV G A kf H xs g kx)(hkv:VR h kf kv):kv=.none∨∃ q,kv=.ref q:=by
 rcases K with ⟨rfl,hg⟩ | ⟨⟨o,rfl⟩,hk⟩
 ·exact .inl hkv
 ·obtain⟨a,fd,c,oc,vs,t,rfl,_⟩:=hkv;exact .inr ⟨a,rfl⟩

theorem Ma{id:String}{op:CmpOp}{B:Builtin}{bt:Int→Int→Bool}{xs:List β}{g:β→PV}{kx:β→Int}{kf pd:PV}{kv d:Value}{I l S:Addr}{dn:Str}{R:Result→Shared→Prop}{s0:Shared}(M:MM G A id op B bt)(hh:A.handled=none)(K:KeyV G A.in1 kf H xs g kx)
  (hH:H l=some (.fro (xs.map g))) (hHS:H S=none) (hb:G.base.get? I=none) (ok0:OkH G (H.set S (.lst [])) s0) (hI0:∃ o,s0.heap.get? I=some o∧Mq o) (hkv:VR s0.heap kf kv) (hd:VR s0.heap pd d)
  (hR:∀ v s',VR s'.heap (Fw g pd (Ax bt kx xs)) v→OkH G (H.set S (.lst [])) s'→KpI (fun O=>False) [I] (H.set S (.lst [])) s0 (H.set S (.lst [])) s'→R (.ok (.ret v)) s') :
  ∀(r j:Nat) (s:Shared),xs.length - j=r→j≤xs.length→OkH G (H.set S (.lst (Fy g kx (Ax bt kx (xs.take j))))) s→KpI (fun O=>False) [I] (H.set S (.lst [])) s0 (H.set S (.lst (Fy g kx (Ax bt kx (xs.take j))))) s→s.heap.IsListIter I l j →
   codeAny (model G.prog G.w) A (.builtin id ⟨[.ref I,kv,.ref S],[(dn,d)]⟩) R s:=by
 have hlS:l≠S:=by rintro rfl;rw[hH]at hHS;injection hHS
 have hle:∀ z,AH.le H (H.set S z):=fun z=>AT hHS
 have hX0:DY [I] s0.heap:=fun b hb=>by rw[List.mem_singleton.mp hb];exact OddZ.of (Hy ok0 hI0) hI0
 have hnI:¬ Zz.z I:=Hy ok0 hI0
 have hbv:∀(h:Heap) (o:Option β) (vs:List Value),VRs h (Fy g kx o) vs→(o=none∧vs=[])∨∃ b x t,o=some b∧VR h (g b) x∧vs=[x,.int (kx b) t]:=by
  intro h o vs hv
  cases o with
  | none=>exact .inl ⟨rfl,hv⟩
  | some b=>obtain⟨x,_,rfl,hx,t,rfl⟩:=hv.two_inv;exact .inr ⟨b,x,t,rfl,hx,rfl⟩
 intro r
 induction r with
 | zero =>
  intro j s hr hj ok k hit
  have hjl:j=xs.length:=by exact Oh hr hj
  refine codeAny_builtin M.entry ?_
  simp only[Around.under_plainId M.plain _]
  obtain⟨⟨ovs,on,hSl,hov,_⟩,_⟩:=(ok.hr S _ (AA ..))
  simp only[AC]at hov
  obtain⟨⟨us,nn,hl,hvs,hz⟩,_⟩:=(ok.hr l _ (by rw[AE _ _ hlS];exact hH))
  have hoI:=Ai hit
  have hSI:S≠I:=by rintro rfl;obtain⟨o,h1,h2⟩:=hoI;have h3:s.heap.get? S=some _:=hSl;rw[h1]at h3;(replace h3:=Option.some.inj h3;subst h3);exact h2.2.1 (Ab _ _)
  have hlI:l≠I:=by rintro rfl;obtain⟨o,h1,h2⟩:=hoI;have h3:s.heap.get? l=some _:=hl;rw[h1]at h3;(replace h3:=Option.some.inj h3;subst h3);exact h2.2.1 (Ab _ _)
  refine Ak (M.turn s (.ref I) kv S _ ovs on _ ((hbv _ _ _ hov).imp (·.2) fun zz0=>by obtain⟨b,x,t,_,_,e⟩:=zz0;exact⟨_,_,e⟩) (K.kind (k.vrX ok0 hX0 hkv)) hSl ?_)
  have hus:us.toArray.size=xs.length:=by rw[List.size_toArray,hvs.length];simp[HO.items]
  refine(Walks.list (prog:=G.prog) (w:=G.w) (A:=A.in1) hh I l hlI us.toArray).done s _ _ ⟨by simp only[hus,← hjl];exact hit,hl.isList⟩ fun h' tk hk=>?_
  have ok1:=Iu (tk:=tk) ok (fun b hm=>by rw[List.mem_singleton.mp hm];exact hb) (fun b hm=>by rw[List.mem_singleton.mp hm];exact OddZ.of hnI hoI) (fun b hm hz=>by rw[List.mem_singleton.mp hm]at hz;exact absurd hz hnI) hk
  have k1:=k.trans (CB (W:=fun O=>False) (H:=H.set S (.lst (Fy g kx (Ax bt kx (xs.take j))))) (s:=s) (tk:=tk) hk)
  rw[List.take_of_length_le (by exact Nat.le_of_eq hjl.symm)]at ok1 k1 hov
  cases hbest:Ax bt kx xs with
  | none =>
   rw[hbest]at ok1 k1 hov hR
   obtain rfl:ovs=[]:=hov
   exact hR d _ (k1.vrX ok0 hX0 hd) ok1 k1
  | some b =>
   rw[hbest]at ok1 k1 hov hR
   obtain⟨_,_,rfl,hx,t,rfl⟩:=hov.two_inv
   have hS1:IsL h' S _ on:=hk S _ (by simpa using hSI) hSl
   obtain⟨ok2,k2⟩:=BL (tk:=tk) ok1 (AA ..) hS1 (f:=fun O=>#[]) (ys:=[]) (us:=[]) rfl rfl (Nat.zero_le _)
   rw[AH.set_set]at ok2 k2
   refine⟨⟨_,on,hS1,Nat.le_refl 2⟩,hR _ _ (k2.vr ok1 ((CB (W:=fun O=>False) (H:=H.set S (.lst (Fy g kx (Ax bt kx (xs.take j))))) (s:=s) (tk:=tk) hk).vrX ok (fun b hm=>by rw[List.mem_singleton.mp hm];exact OddZ.of hnI hoI) hx)) ok2 (k1.trans k2.toI)⟩
 | succ r ih =>
  intro j s hr hj ok k hit
  have hjl:j<xs.length:=by exact Og hr
  refine codeAny_builtin M.entry ?_
  simp only[Around.under_plainId M.plain _]
  obtain⟨⟨ovs,on,hSl,hov,_⟩,_⟩:=(ok.hr S _ (AA ..))
  simp only[AC]at hov
  obtain⟨⟨us,nn,hl,hvs,hz⟩,_⟩:=(ok.hr l _ (by rw[AE _ _ hlS];exact hH))
  have hoI:=Ai hit
  have hSI:S≠I:=by rintro rfl;obtain⟨o,h1,h2⟩:=hoI;have h3:s.heap.get? S=some _:=hSl;rw[h1]at h3;(replace h3:=Option.some.inj h3;subst h3);exact h2.2.1 (Ab _ _)
  have hlI:l≠I:=by rintro rfl;obtain⟨o,h1,h2⟩:=hoI;have h3:s.heap.get? l=some _:=hl;rw[h1]at h3;(replace h3:=Option.some.inj h3;subst h3);exact h2.2.1 (Ab _ _)
  refine Ak (M.turn s (.ref I) kv S _ ovs on _ ((hbv _ _ _ hov).imp (·.2) fun zz0=>by obtain⟨b,x,t,_,_,e⟩:=zz0;exact⟨_,_,e⟩) (K.kind (k.vrX ok0 hX0 hkv)) hSl ?_)
  have hus:us.toArray.size=xs.length:=by rw[List.size_toArray,hvs.length];simp[HO.items]
  refine(Walks.list (prog:=G.prog) (w:=G.w) (A:=A.in1) hh I l hlI us.toArray).item j s _ _ (by exact Nat.lt_of_lt_of_eq hjl hus.symm) ⟨hit,hl.isList⟩ fun v h' tk hP st' hk=>?_
  have ok1:=Iu (tk:=tk) ok (fun b hm=>by rw[List.mem_singleton.mp hm];exact hb) (fun b hm=>by rw[List.mem_singleton.mp hm];exact OddZ.of hnI hoI) (fun b hm hz=>by rw[List.mem_singleton.mp hm]at hz;exact absurd hz hnI) hk
  have kd:=CB (W:=fun O=>False) (H:=H.set S (.lst (Fy g kx (Ax bt kx (xs.take j))))) (s:=s) (tk:=tk) hk
  have k1:=k.trans kd
  have hXs:DY [I] s.heap:=fun b hm=>by rw[List.mem_singleton.mp hm];exact OddZ.of hnI hoI
  have hov1:VRs h' _ ovs:=VRs.imp (fun p v h=>kd.vrX ok hXs h) hov
  have hS1:IsL h' S ovs.toArray on:=hk S _ (by simpa using hSI) hSl
  obtain⟨x,hx⟩:∃ x,xs[j]?=some x:=⟨_,List.getElem?_eq_getElem hjl⟩
  have hvx:VR h' (g x) v:=by
   obtain⟨u,hu,hr⟩:=hvs.get (i:=j) (p:=g x) (by simp only[HO.items,List.getElem?_map,hx];rfl)
   have:us[j]?=some v:=by simpa using hP
   rw[hu]at this;rw[← Option.some.inj this]
   exact kd.vrX ok hXs hr
  have hsn:=Ia (bt:=bt) (kx:=kx) hx
  have hSq:∀ z,AH.set (H.set S (.lst (Fy g kx (Ax bt kx (xs.take j))))) S z=H.set S z:=fun z=>AH.set_set ..
  show JF (model G.prog G.w) A.in1 Bb kv v (fun val s2=>NC (model G.prog G.w) A.in1 Bb id op (.ref I) kv S [(dn,d)] _ v val s2 ovs) _
  refine K.run (List.mem_of_getElem? hx) (hle _) ok1 (k1.vrX ok0 hX0 hkv) hvx fun u t s2 hu ok2 k2=>?_
  subst hu
  have hov2:=k2.vrs ok1 hov1
  have hvx2:=k2.vr ok1 hvx
  have hit2:s2.heap.IsListIter I l (j+1):=by
   obtain⟨o,ho,hod⟩:=Ai st'.1
   exact st'.1.at fun o' e=>(k2.kept I o' e (Aw ok1.hr ho hod.2.1)).hard (by rw[ho]at e;(replace e:=Option.some.inj e;subst e);exact hod.2.2.1)
  have k12:=k1.trans k2.toI
  obtain⟨⟨ws,wn,hS2,hws,_⟩,_⟩:=(ok2.hr S _ (AA ..))
  simp only[AC]at hws
  have hw2:Rv S s2.heap:=⟨ws,wn,hS2,by
   rcases hbv _ _ _ hws with ⟨_,rfl⟩ | ⟨b,y,tb,_,_,rfl⟩
   ·exact Nat.zero_le _
   ·exact Nat.le_refl 2⟩
  have put:Ax bt kx (xs.take (j+1))=some x→codeAny (model G.prog G.w) A (.builtin id ⟨[.ref I,kv,.ref S],[(dn,d)]⟩) R { s2 with heap:=s2.heap.update S (Obj.mapSeq fun O=>#[v,.int (kx x) t]) }:=fun hbe=>by
   obtain⟨ok3,k3⟩:=BL (tk:=s2.toks) ok2 (AA ..) hS2 (f:=fun O=>#[v,.int (kx x) t]) (ys:=[g x,.int (kx x)]) (us:=[v,.int (kx x) t]) rfl (VRs.two hvx2 ⟨t,rfl⟩) (KJ (Nat.le_refl 2))
   rw[hSq]at ok3 k3
   refine ih (j+1) _ (by exact K0 hr) (by exact hjl) (by simp only[hbe];exact ok3) (by simp only[hbe];exact k12.trans k3.toI) (hit2.at fun o e=>?_)
   exact(Heap.get?_update_other _ _ hSI).trans e
  rcases hbv _ _ _ hov2 with ⟨hbe,rfl⟩ | ⟨b,y,tb,hbe,hy,rfl⟩
  ·exact⟨hw2,plainId_quiet M.plain _,put (by rw[hsn,hbe];rfl)⟩
  ·refine M.cmp _ _ _ _ _ _ ⟨_,rfl,?_⟩
   cases hc:bt (kx x) (kx b) with
   | true =>
    exact⟨hw2,plainId_quiet M.plain _,put (by rw[hsn,hbe];simp[stepB,hc])⟩
   | false =>
    have e:Ax bt kx (xs.take (j+1))=Ax bt kx (xs.take j):=by rw[hsn,hbe];simp[stepB,hc]
    exact⟨plainId_quiet M.plain _,ih (j+1) _ (by exact K0 hr) (by exact hjl) (by rw[e];exact ok2) (by rw[e];exact k12) hit2⟩
end
end Mine
namespace Mine
theorem LD{G:Cx}{A:Around}{s:Shared}{I l:Addr}{i:Nat}{d kv:Value}{Q:Value→Shared→Prop}(hit:s.heap.IsListIter I l i)
  (h:codeAny (model G.prog G.w) A (.builtin "min.loop" ⟨[.ref I,kv,.ref s.heap.objs.size],[("default", d)]⟩) (fun r s'=>match r with | .ok (.ret v)=>Q v s' | _=>False) { s with heap:=s.heap.push { cls:=.type "list", data:=.seq (List.toArray []) } }) :
  wpAny (model G.prog G.w) A (call (.builtin "min") [.ref I] [(Str.ofString "default", d),(Str.ofString "key", kv)]) Q Bb s:=by
 have hname:(toString "min" ++ toString ".loop" : String) = "min.loop" := by decide
 refine kmk_tree PySem.F.kind_min PySem.F.plain_min PySem.F.entry_min (by unfold argsOk;kernel_rfl) ?_
 show wpAny _ A.in1 (Builtin.Builtins.bindParams "min" ["key", "default"] 0 ⟨[],[(Str.ofString "default", d),(Str.ofString "key", kv)]⟩ >>= _) _ _ s
 refine wpAny_bind (wpAny_of_eq (show Builtin.Builtins.bindParams "min" ["key", "default"] 0 ⟨[],[(Str.ofString "default", d),(Str.ofString "key", kv)]⟩=pure [some kv,some d]from rfl) ?_)
 refine wpAny_bind (wpAny_pure ?_)
 refine wpAny_bind (wpAny_pyIter_listiter hit ?_)
 refine wpAny_bind (wpAny_newList ?_ (Nat.zero_le _))
 simp only[hname]
 exact wpAny_pure ⟨plainId_quiet PySem.F.plain_min_loop _,codeAny_mono h fun r s' hr=>by
  cases r with
  | ok f=>cases f with
   | ret v=>exact hr
   | _=>exact hr.elim
  | error e=>exact hr.elim⟩
theorem P7(G:Cx)(A:Around):MM G A "min.loop" .Lt Builtin.«min.loop» (fun x y=>decide (x<y)) :=
 ⟨LC G _,PySem.F.plain_min_loop,PySem.F.entry_min_loop,fun x y t u s Q h=>CmpOf.ints_lt (P:=fun i v=>∃ t,v=.int (if i=0 then x else y) t) (fun i=>if i=0 then x else y) (fun O O h=>h) 0 1 _ _ s Q Bb ⟨t,rfl⟩ ⟨u,rfl⟩ h⟩
theorem LG{G:Cx}{A:Around}{s:Shared}{I l:Addr}{i:Nat}{d kv:Value}{Q:Value→Shared→Prop}(hit:s.heap.IsListIter I l i)
  (h:codeAny (model G.prog G.w) A (.builtin "max.loop" ⟨[.ref I,kv,.ref s.heap.objs.size],[("default", d)]⟩) (fun r s'=>match r with | .ok (.ret v)=>Q v s' | _=>False) { s with heap:=s.heap.push { cls:=.type "list", data:=.seq (List.toArray []) } }) :
  wpAny (model G.prog G.w) A (call (.builtin "max") [.ref I] [(Str.ofString "default", d),(Str.ofString "key", kv)]) Q Bb s:=by
 have hname:(toString "max" ++ toString ".loop" : String) = "max.loop" := by decide
 refine kmk_tree PySem.F.kind_max PySem.F.plain_max PySem.F.entry_max (by unfold argsOk;kernel_rfl) ?_
 show wpAny _ A.in1 (Builtin.Builtins.bindParams "max" ["key", "default"] 0 ⟨[],[(Str.ofString "default", d),(Str.ofString "key", kv)]⟩ >>= _) _ _ s
 refine wpAny_bind (wpAny_of_eq (show Builtin.Builtins.bindParams "max" ["key", "default"] 0 ⟨[],[(Str.ofString "default", d),(Str.ofString "key", kv)]⟩=pure [some kv,some d]from rfl) ?_)
 refine wpAny_bind (wpAny_pure ?_)
 refine wpAny_bind (wpAny_pyIter_listiter hit ?_)
 refine wpAny_bind (wpAny_newList ?_ (Nat.zero_le _))
 simp only[hname]
 exact wpAny_pure ⟨plainId_quiet PySem.F.plain_max_loop _,codeAny_mono h fun r s' hr=>by
  cases r with
  | ok f=>cases f with
   | ret v=>exact hr
   | _=>exact hr.elim
  | error e=>exact hr.elim⟩
theorem P8(G:Cx)(A:Around):MM G A "max.loop" .Gt Builtin.«max.loop» (fun x y=>decide (x>y)) :=
 ⟨LE G _,PySem.F.plain_max_loop,PySem.F.entry_max_loop,fun x y t u s Q h=>CmpOf.ints_gt (P:=fun i v=>∃ t,v=.int (if i=0 then x else y) t) (fun i=>if i=0 then x else y) (fun O O h=>h) 0 1 _ _ s Q Bb ⟨t,rfl⟩ ⟨u,rfl⟩ h⟩
section
variable [Z:Zz] {G:Cx} {A:Around} {F:Fx} {σ:Loc} {H:AH} {β:Type}
noncomputable def QO(G:Cx)(A:Around)(m id:String):Prop:=∀{s:Shared} {I l:Addr} {i:Nat} {d kv:Value} {Q:Value→Shared→Prop},s.heap.IsListIter I l i →
 codeAny (model G.prog G.w) A (.builtin id ⟨[.ref I,kv,.ref s.heap.objs.size],[("default", d)]⟩) (fun r s'=>match r with | .ok (.ret v)=>Q v s' | _=>False) { s with heap:=s.heap.push { cls:=.type "list", data:=.seq (List.toArray []) } } →
  wpAny (model G.prog G.w) A (call (.builtin m) [.ref I] [(Str.ofString "default", d),(Str.ofString "key", kv)]) Q Bb s
theorem Ge{K:Frag}{m id:String}{op:CmpOp}{B:Builtin}{bt:Int→Int→Bool}{xs:List β}{g:β→PV}{kx:β→Int}{kf:PV}{x y kn sn:Str}{mp xp sp kp npos cpos pos p1 p2:Pos}{I l S':Addr}{rest:List Stmt}{R:PF→Loc→AH→Prop}(M:MM G F.A id op B bt)(hcall:QO G F.A m id)(hK:G.K=K)(hh:F.A.handled=none)
  (hkm:F.env.kindOf (Str.ofString m)=some .globalImplicit) (hf:nsIn K mainGlobals (Str.ofString m)=some none) (hb:bootBuiltins (Str.ofString m)=some (.builtin m)) (hn:Str.ofString m ≠ "__name__")
  (hx:σ x=some (.val (.ref I))) (hs:σ sn=some (.obj S')) (hkn:σ kn=some kf) (hH:H l=some (.fro (xs.map g))) (KV:KeyV G F.A.in1 kf H xs g kx) (hy:F.env.kindOf y=some .local)
  (h:Exs G F rest (σ.set y (Fw g (.obj S') (Ax bt kx xs))) H R) :
  JH G F I l 0 (.Assign [.Name y npos] (.Call (.Name (Str.ofString m) mp) [.Name x xp] [⟨some (Str.ofString "default"),.Name sn sp,p1⟩,⟨some (Str.ofString "key"),.Name kn kp,p2⟩] cpos) pos::rest) σ H R:=by
 subst hK
 intro s ok lr hit hbI
 refine wpAny_execs_cons (wpAny_Assign_Name ?_ (by rfl))
 refine wpAny_Call_Name_kw (wpAny_mono (BX (Q:=fun p H1=>p=.val (.builtin m)∧H1=H) hkm (G.mg_of hf) hb hn ⟨rfl,rfl⟩ s ok lr) (fun v s1 zz2=>zz2.on fun p H1 hv ok1 k1 zz2_5=>zz2_5.elim fun hp hH1=>?_) fun O O x=>x)
 subst hp;subst hH1
 rw[show v=.builtin m from hv]
 have lr1:=lr.kp ok k1
 refine callWith_kw (e:=.Name x xp) (rest:=[]) (kws:=[⟨some (Str.ofString "default"),.Name sn sp,p1⟩,⟨some (Str.ofString "key"),.Name kn kp,p2⟩]) (wpAny_mono (AM (Q:=fun ps H2=>ps=[.val (.ref I)]∧H2=H1) (BT hx (AP ⟨rfl,rfl⟩)) (by rfl) s1 cpos ok1 lr1) (fun vs s2 zz2=>zz2.on fun ps H2 hvs ok2 k2 zz2_5=>zz2_5.elim fun hps hH2=>?_) fun O O x=>x) (by rfl) (by rfl) (by rfl) (by rfl)
 subst hps;subst hH2
 have lr2:=lr1.kp ok1 k2
 refine wpAny_mono (Bq (Q:=fun ps H3=>ps=[.obj S',kf]∧H3=H2) (BT hs (Bq (BT hkn (Cp ⟨rfl,rfl⟩)))) s2 cpos ok2 lr2) (fun ks s3 zz2=>zz2.on fun ps H3 hks ok3 k3 zz2_5=>zz2_5.elim fun hps hH3=>?_) fun O O x=>x
 subst hps;subst hH3
 refine AJ fun WW9 hW9=>?_
 obtain⟨vI,eq9_0,hvI⟩:=hvs.one_inv
 refine hW9 ?_
 clear hW9 WW9
 subst eq9_0
 rw[show vI=.ref I from hvI]
 refine AJ fun WW9 hW9=>?_
 obtain⟨d,kv,eq9_0,hd,hkv⟩:=hks.two_inv
 refine hW9 ?_
 clear hW9 WW9
 subst eq9_0
 have lr3:=lr2.kp ok2 k3
 have k13:=(k1.trans k2).trans k3
 have hit3:=Bw ok lr k13.toF hit
 refine hcall hit3 ?_
 obtain⟨ok4,k4⟩:=DD ok3 (ps:=[]) (vs:=[]) rfl (Nat.zero_le _)
 have hHS:=Co ok3
 have lr4:=lr3.kp ok3 k4
 have hit4:=Bw ok3 lr3 k4.toF hit3
 have hI4:=Ai hit4
 have hX4:DY [I] (s3.heap.push { cls:=.type "list", data:=.seq (List.toArray []) }):=fun b hb=>by rw[List.mem_singleton.mp hb];exact OddZ.of (Hy ok4 hI4) hI4
 refine Ma (bt:=bt) (kx:=kx) (g:=g) M hh KV hH hHS hbI ok4 hI4 (k4.vr ok3 hkv) (k4.vr ok3 hd) (fun v s5 hv ok5 k5=>?_) xs.length 0 _ rfl (Nat.zero_le _) ok4 (Kp.refl _ _).toI hit4
 have lr5:=lr4.kpX ok4 k5 hX4
 have hle:=AT (o:=.lst []) hHS
 refine wpAny_mono (BY (Q:=fun σ' H'=>σ'=σ.set y (Fw g (.obj S') (Ax bt kx xs))∧H'=H3) (.inl hy) (ok5.weak hle) lr5 hv ⟨rfl,rfl⟩) (fun O s6 zz2=>zz2.on fun σ' H6 ok6 lr6 k6 zz2_5=>zz2_5.elim fun hσ hH6=>?_) fun O O x=>x
 subst hσ;subst hH6
 refine wpAny_mono (h s6 ok6 lr6) (fun f s7 x=>x.toX.trans ?_ fun O h=>h) fun O O x=>x
 have k15:=(k13.trans k4).toI.trans k5
 exact(KpI.widen (W:=F.W) ⟨k15.os,k15.kept,fun b o e=>k15.dom b o (hle _ _ e),k15.live⟩).thenF k6
end
end Mine
namespace Mine

section
variable [Z:Zz] {G:Cx} {A:Around} {F:Fx} {σ:Loc} {H:AH} {Q:PV→AH→Prop} {β:Type}
theorem Il{α:Type}{L:β→β→Bool}{M:α→α→Bool}{b:Bool}(f:β→α)(xs:List β)(h:∀ x y,M (f x) (f y)=L x y):AU M b (xs.map f)=(AU L b xs).map f:=by
 unfold AU
 cases b with
 | false=>exact BA f xs fun x O y O=>h x y
 | true=>simp only[if_true];rw[← List.map_reverse,BA f xs.reverse fun x O y O=>h x y,List.map_reverse]
theorem Em{l:Addr}{kw:List (Str × Value)}{kf:PV}{kv:Value}{xs:List β}{g:β→PV}{kx:β→Int}{b:Bool}{s:Shared}(hu:A.units+9<cLine)(hr:CP xs.length)(ok:OkH G H s)(hH:H l=some (.fro (xs.map g)))(KV:KeyV G A.in1.in1 kf H xs g kx)(hkv:VR s.heap kf kv)
  (hs:argsOk "sorted" ⟨[.ref l],kw⟩) (hl:∀ a:Addr,argsOk "list.sort" ⟨[.ref a],kw⟩)
  (hn:kv=.none→∀ a:Addr,Builtin.«list.sort» ⟨[.ref a],kw⟩=Builtin.«list.sort» ⟨[.ref a],[(Str.ofString "reverse", .bool b)]⟩) (hf:∀ q,kv=.ref q→∀ a:Addr,Builtin.«list.sort» ⟨[.ref a],kw⟩=ksk_tree a (.ref q) b)
  (h:∀ a',H a'=none→Q (.ref a') (H.set a' (.lst ((AU (fun x y=>decide (kx x<kx y)) b xs).map g)))):ME G A (call (.builtin "sorted") [.ref l] kw) H s Q:=by
 refine call_function_entry_kw kind_sorted plain_sorted entry_sorted hs ?_
 unfold Builtin.«sorted»
 refine wpAny_bind (m:=checkCount "sorted" 1 1 _) (wpAny_pure ?_)
 refine wpAny_bind (J6 (A:=A.in1) hH s _ _ ok rfl fun vs h' tk keep hvs=>?_)
 replace hvs:VRs h' (xs.map g) vs:=hvs
 obtain⟨ok1,k1⟩:=Fk (tk:=tk) ok keep
 have hzx:(xs.map g).length≤sizeLine:=by obtain⟨⟨_,_,_,_,hz⟩,_⟩:=ok.hr l _ hH;exact hz
 have hzl:vs.length≤sizeLine:=by rw[hvs.length];exact hzx
 refine wpAny_bind (wpAny_newList ?_ hzl)
 obtain⟨ok2,k2⟩:=DD (s:={ s with heap:=h',toks:=tk }) ok1 hvs hzx
 have hHf:=Co ok1
 generalize ha':({ s with heap:=h',toks:=tk }:Shared).heap.objs.size=a' at ok2 k2 hHf
 have hkv2:VR (h'.push { cls:=.type "list", data:=.seq vs.toArray }) kf kv:=(k1.trans k2).vr ok hkv
 have hob:(h'.push { cls:=.type "list", data:=.seq vs.toArray }).get? a'=some { cls:=.type "list", data:=.seq vs.toArray }:=by rw[← ha'];exact Heap.get?_push_size _ rfl
 refine wpAny_bind (wpAny_holding (wpAny_call_entry_kw slot_list_sort ⟨_,hob,rfl⟩ entry_list_sort ?_ (hl a')))
 show wpAny _ _ (Builtin.«list.sort» ⟨[.ref a'],kw⟩) _ _ _
 have fin:∀ s',OkH G (H.set a' (.lst ((AU (fun x y=>decide (kx x<kx y)) b xs).map g))) s'→Kp (H.set a' (.lst (xs.map g))) { s with heap:=h'.push { cls:=.type "list", data:=.seq vs.toArray },toks:=tk } (H.set a' (.lst ((AU (fun x y=>decide (kx x<kx y)) b xs).map g))) s' →
   Post G H s Q (.ref a') s':=fun s' ok' k'=>⟨.ref a',_,rfl,ok',(k1.trans k2).trans k',h a' hHf⟩
 rcases KV with ⟨rfl,hg⟩ | ⟨⟨o,rfl⟩,hk⟩
 ·have hm:xs.map g=(xs.map kx).map .int:=by rw[List.map_map];exact List.map_congr_left fun x hx=>hg x hx
  have hsm:(AU (fun x y=>decide (kx x<kx y)) b xs).map g=(AU (fun x y:Int=>decide (x<y)) b (xs.map kx)).map .int:=by
   rw[Il (L:=fun x y=>decide (kx x<kx y)) kx xs fun O O=>rfl,List.map_map]
   exact List.map_congr_left fun x hx=>hg x (sortBy_perm.mem_iff.mp hx)
  refine EP (b:=b) (xs:=xs.map kx) (hn hkv2 a') (Je G) (by simp only[Around.in1_units];exact Kz hu) ok2 (by rw[AA,hm]) (by rw[List.length_map];exact hr) fun s' ok' k'=>⟨_,rfl,?_⟩
  rw[AH.set_set,← hsm]at ok' k'
  exact wpAny_pure ⟨_,rfl,fin s' ok' k'⟩
 ·refine AJ fun WW9 hW9=>?_
  obtain⟨q,fd,c,oc,us,t,eq9_0,hq⟩:=id hkv
  refine hW9 ?_
  clear hW9 WW9
  subst eq9_0
  rw[hf q rfl a']
  refine Ik (f:=fun i:Int=>.int i) (lt:=fun x y=>decide (x<y)) (b:=b) (kx:=kx) (I:=fun H'=>AH.le H H') (Je G) (by simp only[Around.in1_units];exact Kz hu) hr ok2 (AA ..) hkv2 (fun a1 ys a2 zs e1 e2=>?_) (fun x hx H' hle=>hk x hx H' hle) fun s' ok' k'=>⟨_,rfl,?_⟩
  ·subst e1
   rw[AH.set_set]
   refine AH.le_trans (AT hHf) (AT ?_)
   by_cases h2:a2=a1
   ·subst h2;rw[AA]at e2;injection e2
   ·rw[AE _ _ h2]at e2 ⊢;exact e2
  ·rw[AH.set_set]at ok' k'
   exact wpAny_pure ⟨_,rfl,fin s' ok' k'⟩
theorem Ir{l:Addr}{kf:PV}{xs:List β}{g:β→PV}{kx:β→Int}(hu:A.units+9<cLine)(hr:CP xs.length)(hH:H l=some (.fro (xs.map g)))(KV:KeyV G A.in1.in1 kf H xs g kx)
  (h:∀ a',H a'=none→Q (.ref a') (H.set a' (.lst ((AU (fun x y=>decide (kx x<kx y)) false xs).map g)))):OpL G A (fun vs=>call (.builtin "sorted") (vs.take 1) ([Str.ofString "key"].zip (vs.drop 1))) [.ref l,kf] H Q:=by
 intro s _ ok zq9
 refine AJ fun WW9 hW9=>?_
 obtain⟨v,_,eq9_0,eq9_1,kv,_,eq9_2,hkv,eq9_3⟩:=zq9
 refine hW9 ?_
 clear hW9 WW9
 subst eq9_0 eq9_1 eq9_2 eq9_3
 exact Em hu hr ok hH KV hkv (ksk_s1 _ _) (fun a=>ksk_l1 _ _) (fun e a=>by subst e;rfl) (fun q e a=>by subst e;exact ksk_t1 _ _) h
theorem Iq{l:Addr}{kf:PV}{xs:List β}{g:β→PV}{kx:β→Int}(hu:A.units+9<cLine)(hr:CP xs.length)(hH:H l=some (.fro (xs.map g)))(KV:KeyV G A.in1.in1 kf H xs g kx)
  (h:∀ a',H a'=none→Q (.ref a') (H.set a' (.lst ((AU (fun x y=>decide (kx x<kx y)) true xs).map g)))):OpL G A (fun vs=>call (.builtin "sorted") (vs.take 1) ([Str.ofString "key", Str.ofString "reverse"].zip (vs.drop 1))) [.ref l,kf,.bool true] H Q:=by
 intro s _ ok zq9
 refine AJ fun WW9 hW9=>?_
 obtain⟨v,_,eq9_0,eq9_1,kv,_,eq9_2,hkv,w,_,eq9_3,eq9_4,eq9_5⟩:=zq9
 refine hW9 ?_
 clear hW9 WW9
 subst eq9_0 eq9_1 eq9_2 eq9_3 eq9_4 eq9_5
 exact Em hu hr ok hH KV hkv (ksk_s2 _ _ _) (fun a=>ksk_l2 _ _ _) (fun e a=>by subst e;rfl) (fun q e a=>by subst e;exact ksk_t2 _ _ _) h
theorem KP{a:Addr}{α:Type}{f:α→PV}{lt:α→α→Bool}{xs:List α}(K:Sk G f lt)(hu:A.units+9<cLine)(hH:H a=some (.lst (xs.map f)))(hr:CP xs.length)(h:Q .none (H.set a (.lst ((AU lt true xs).map f)))) :
  OpL G A (fun vs=>call (.builtin "list.sort") (vs.take 1) ([Str.ofString "reverse"].zip (vs.drop 1))) [.ref a,.bool true] H Q:=by
 rintro s _ ok ⟨v,_,rfl,rfl,w,_,rfl,rfl,rfl⟩
 obtain⟨⟨vs,n,hl,hv,hz⟩,_⟩:=id (ok.hr a _ hH)
 refine wpAny_call_entry_kw slot_list_sort ⟨_,hl,rfl⟩ entry_list_sort (EP (b:=true) rfl K (by simp only[Around.in1_units];exact M4 hu) ok hH hr fun s' ok' k'=>⟨_,rfl,.none,_,rfl,ok',k',h⟩) (args_list_sort_rev _ _)

theorem Gj{o:Expr}{name:Str}{apos pos:Pos}{id:String}{kws:List Keyword}(names:List Str)(slot:Slot "list" name id)(hty:typeOf (.builtin id)=pure (.type "method_descriptor"))
  (h:Ev G F o σ H (fun p H1=>∃ a ho,p=.ref a∧H1 a=some ho∧QQ G F kws σ H1 (fun ks H2=>OpL G F.A (fun vs=>call (.builtin id) (vs.take 1) (names.zip (vs.drop 1))) (.ref a::ks) H2 Q)))
  {pl:Sem Bool} (he:eval (.Call (.Attribute o name apos) [] kws pos) F.env=(do
   let ov ← eval o F.env
   standAt apos.atName
   let (f,first) ← holding [ov] (getMethod ov name pl)
   callWith pos f first (backTo pos (starEach [] F.env)) (backToKw pos (keywordEach kws F.env))):=by rfl)
  (hall:(backToKw pos (keywordEach kws F.env)).all (·.1.isSome)=true:=by rfl) (hkw:(backToKw pos (keywordEach kws F.env)).any (·.1.isNone)=false:=by rfl) (hnm:(backToKw pos (keywordEach kws F.env)).filterMap (·.1)=names:=by rfl) :
  Ev G F (.Call (.Attribute o name apos) [] kws pos) σ H Q:=by
 intro s ok lr
 refine methodCall_KW (pl:=pl) (wpAny_mono (h s ok lr) (fun v s1 zz2=>zz2.on fun p H1 hv ok1 k1 zz2_5=>zz2_5.elim fun a zz2_5=>zz2_5.elim fun ho zz2_5=>zz2_5.elim fun hp zz2_5=>zz2_5.elim fun hH hq=>?_) fun O O x=>x) he
 subst hp
 simp only[show v=.ref a from hv]
 refine AJ fun WW9 hW9=>?_
 obtain⟨⟨vs,n,hl,_⟩,_⟩:=ok1.hr a ho hH
 refine hW9 ?_
 clear hW9 WW9
 refine getMethod_builtin ⟨_,hl,rfl⟩ PySem.F.plainAttrs_list slot hty (fun b hb=>by cases hb;exact⟨_,hl,rfl⟩) ?_
 have lr1:=lr.kp ok k1
 refine callWith_builtin_kwB (by rfl) hkw (evalArgs_kw_nil hall (wpAny_mono (hq s1 pos ok1 lr1) (fun ks s2 zz2=>zz2.on fun qs H2 hks ok2 k2 hq2=>?_) fun O O x=>x))
 rw[hnm]
 exact wpAny_mono (hq2 s2 (.ref a::ks) ok2 ⟨_,_,rfl,rfl,hks⟩) (fun O O x=>(x.trans k2).trans k1) fun O O x=>x
end
end Mine
namespace Mine

section
variable {prog:Program} {w:World} {A:Around} {E:Value→Shared→Prop} {R:Result→Shared→Prop} {s:Shared}
theorem Ed{elt:Expr}{g1:Comprehension}{target iter:Expr}{ifs:List Expr}{scope:Scope}{pos:Pos}{it acc:Value}{env:Env}
  (h0:codeAny (model prog w) A (.compLoop (.ListComp elt [g1,⟨target,iter,ifs,0⟩] scope pos) 1 it acc env) R s)
  (h:wpAny (model prog w) A (pyIter it) (fun it' s'=>codeAny (model prog w) A (.compLoop (.ListComp elt [g1,⟨target,iter,ifs,0⟩] scope pos) 1 it' acc env) R s') (notedBy (model prog w) A env fun x s'=>R (.error x) s') s) :
  codeAny (model prog w) A (.compStart (.ListComp elt [g1,⟨target,iter,ifs,0⟩] scope pos) 1 it acc env) R s:=by
 refine codeAny_of_tree ?_
 show wpAny _ _ ((compStart (.ListComp elt [g1,⟨target,iter,ifs,0⟩] scope pos) 1 it acc env).onRaise (fun x=>do noteFrame x env;standAt theWindowsPlace)) _ _ s
 refine wpAny_notedAt ?_
 unfold compStart
 show wpAny _ _ (ask >>= _) _ _ s
 refine wpAny_bind (wpAny_askSetting (wpAny_ite ?_))
 split
 ·first
   | exact wpAny_bind (wpAny_pure (wpAny_pure (And.intro rfl h0)))
   | exact wpAny_pure (And.intro rfl h0)
 ·first
   | exact wpAny_bind (wpAny_rule (wpAny_bind (wpAny_standAt (wpAny_bind (wpAny_mono h (fun it' s' h'=>wpAny_pure (And.intro rfl h')) fun O O x=>x)))))
   | (refine wpAny_bind (wpAny_rule ?_);show wpAny _ _ (standAt iter.pos >>= _) _ _ s;exact wpAny_bind (wpAny_standAt (wpAny_bind (wpAny_mono h (fun it' s' h'=>wpAny_pure (And.intro rfl h')) fun O O x=>x))))
end
noncomputable def IX(it2:Expr)(env:Env)(e:Expr)(acc:Value):Sem Unit:=do
 let x ← eval it2 env
 standAt it2.pos
 let x ← foldedSetIterable it2 env x
 let _ ← runOwn (.compStart e 1 (← holding [x] (pyIter x)) acc env) env
theorem HP{elt t1 it1 t2 it2:Expr}{scope:Scope}{pos:Pos}{it acc:Value}{env:Env} :
  compTurn (.ListComp elt [⟨t1,it1,[],0⟩,⟨t2,it2,[],0⟩] scope pos) 0 it acc env=Go it1.pos t1 [] env it (IX it2 env (.ListComp elt [⟨t1,it1,[],0⟩,⟨t2,it2,[],0⟩] scope pos) acc) (again (.compLoop (.ListComp elt [⟨t1,it1,[],0⟩,⟨t2,it2,[],0⟩] scope pos) 0 it acc env)):=by
 unfold Go IX
 show(standAt it1.pos >>= fun O=>pyNext it >>= _)=_
 congr 1
 funext _
 congr 1
 funext r
 cases r with
 | none=>rfl
 | some v =>
  show(letOwnedTupleGo t1 it v >>= fun O=>assign t1 env v >>= _)=_
  congr 1
  funext _
  congr 1
  funext _
  simp only[List.forIn_nil,pure_bind,bind_assoc]
  rfl
section
variable [Z:Zz] {G:Cx} {A:Around} {F:Fx} {σ:Loc} {H:AH} {Q:PV→AH→Prop} {α β:Type}
theorem E2{target:Expr}{n:Nat}{s:Shared}{v:Value}(hA:A.handled=none)(hn:n<2 ^ 60)(ok:OkH G H s)(hv:VR s.heap (.rng 0 n 1) v)(Dn:Heap→Prop)(hDn:∀ h,Dn h) :
  wpAny (model G.prog G.w) A (pyIter v) (fun it s'=>∃ I wr P Md St,it=.ref I∧OkH G H s'∧Kp H s H s'∧(∀ b∈wr,s.heap.get? b=none)∧J7 G A target H s'.heap I ((List.range n).map fun i:Nat=>.int i) wr wr P Md St) Bb s:=by
 refine AJ fun WW9 hW9=>?_
 obtain⟨r,t,u,w,eq9_0,hr⟩:=hv
 refine hW9 ?_
 clear hW9 WW9
 subst eq9_0
 have hsz:Builtin.Range.rangeSize 0 n 1=n:=by rw[rangeSize_one];split<;>(first | exact rfl | exact M2 hn (by assumption))
 refine wpAny_pyIter_range hr (small_one (by exact Int.natCast_nonneg _) (by exact Int.natCast_nonneg _) (by exact Int.natCast_nonneg _) (by exact M3 hn)) ?_
 rw[hsz]
 refine AJ fun WW9 hW9=>?_
 obtain⟨fp,wr,P,Md,St,h1,h2,h3,h4,eq9_0⟩:=EO (target:=target) (x:=0) (c:=1) (n:=n) hA ok
 refine hW9 ?_
 clear hW9 WW9
 subst eq9_0
 have e:Bm 0 1 n=(List.range n).map fun i:Nat=>.int i:=by unfold Bm;simp
 rw[e]at h4
 exact⟨_,_,P,Md,St,rfl,h1,h2,h3,h4⟩
theorem IW{elt it2:Expr}{g1:Comprehension}{n2:Str}{p2:Pos}{scope:Scope}{pos:Pos}{D:Addr}{σ2:Loc}{acc:List PV}{Q':List PV→AH→Prop}{n:Nat}{fy:Nat→PV}(hA:F.A.handled=none)(hbD:G.base.get? D=none)
  (h2:MD F n2) (hn2:σ2 n2=none) (hle:Loc.le σ σ2) (hs:∀ v,foldedSetIterable it2 F.env v=pure v) (hb:acc.length+n≤sizeLine) (hn:n<2 ^ 60)
  (hit:Ev G F it2 σ2 H (fun p H1=>H1=H∧p=.rng 0 n 1)) (hel:∀ j,j<n→Ev G F elt (σ2.set n2 (.int (j:Nat))) H (fun y H4=>y=fy j∧H4=H)) (hQ:Q' (acc++(List.range n).map fy) H) :
  L5 G F σ D (IX it2 F.env (.ListComp elt [g1,⟨.Name n2 p2,it2,[],0⟩] scope pos) (.ref D)) σ2 H acc Q' (fun O O=>Bb):=by
 intro s vs ok lr2 lr hD pl hv hsz
 unfold IX
 refine wpAny_bind (wpAny_mono (hit s ok lr2) (fun x s1 zz2=>zz2.on fun p H1 hx ok1 k1 zz2_5=>zz2_5.elim fun hH1 hp=>?_) fun O O x=>x)
 subst hH1;subst hp
 refine wpAny_bind (wpAny_standAt (wpAny_bind (wpAny_of_eq (hs x) (wpAny_bind (wpAny_holding (wpAny_mono (E2 (target:=.Name n2 p2) hA hn ok1 hx (fun O=>True) fun O=>trivial) (fun it s3 zz2=>zz2.elim fun I zz2=>zz2.elim fun wr zz2=>zz2.elim fun P zz2=>zz2.elim fun Md zz2=>zz2.elim fun St zz2=>zz2.elim fun e zz2=>zz2.elim fun ok3 zz2=>zz2.elim fun k3 zz2=>zz2.elim fun hw S=>?_) fun O O x=>x))))))
 subst e
 have k13:=k1.trans k3
 obtain⟨nD,hl⟩:=id pl
 have pl3:s3.heap.PlainList D vs.toArray:=⟨_,(k13.kept D _ hl (Ah hD)).hard fun hd=>hd.not_solid (.inr (Ab _ _))⟩
 have lr3:=lr2.kp ok k13
 have hDw:∀ b∈wr,s.heap.get? b=none:=fun b hb=>k1.back (fun hm=>by
  obtain⟨xs,hx⟩:=hm;obtain⟨⟨_,_,h1,_⟩,_⟩:=ok1.hr b _ hx;have h1':s1.heap.get? b=some _:=h1;rw[hw b hb]at h1';injection h1') (hw b hb)
 have hDfp:D∉wr:=fun hm=>by rw[hDw D hm]at hl;injection hl
 have hlen:((List.range n).map fun i:Nat=>PV.int i).length=n:=by simp
 have loop:∀(R:Result→Shared→Prop),(∀ H' s' vs',OkH G H' s'→LR G F σ2 s'.heap→KpI F.W (D::wr) H1 s3 H' s'→H'=H1→s'.heap.PlainList D (List.toArray vs')→VRs s'.heap (acc++(List.range n).map fy) vs'→R (.ok .next) s') →
   codeAny (model G.prog G.w) F.A (.compLoop (.ListComp elt [g1,⟨.Name n2 p2,it2,[],0⟩] scope pos) 1 (.ref I) (.ref D) F.env) R s3:=fun R hR=>by
  refine Ec (σ:=σ2) (ip:=it2.pos) (ifs:=[]) (body:=do let _ ← call (.builtin "list.append") [.ref D,← eval elt F.env]) (Cσ:=fun σ3=>Loc.le σ2 σ3) (by rfl) S ok3 lr3 hD pl3 (k13.vrs ok hv) hDfp (fun O O O lr' h=>lr'.weak h) (fun i acc' H'=>acc'=acc++((List.range n).take i).map fy∧H'=H1∧i≤n) ⟨by simp,rfl,Nat.zero_le _⟩ (fun i acc' H' h=>?_)
   (fun s Q E st h=>S.K.done s Q E st fun h' tk hk=>h h' tk hk (fun b hb hz=>absurd hz (BP ok1 (hw b hb))) trivial) (Dn:=fun O=>True) (Er:=fun O O=>Bb) (fun j x acc' H' hx zz5=>zz5.elim fun ha zz5=>zz5.elim fun hH hj=>?_) R (fun O O O O O O O h=>h.elim) fun acc' H' s' zz3 ok' lr' k' hD' zz8 O=>zz3.elim fun ha zz3=>zz3.elim fun hH hj=>zz8.elim fun vs' zz8=>zz8.elim fun h1 h2=>?_
  ·simp only[h.1,List.length_append,List.length_map,List.length_take,List.length_range];exact Of hb
  ·have hjn:j<n:=by have:=(List.getElem?_eq_some_iff.mp hx).1;rw[hlen]at this;exact this
   rw[List.getElem?_map,List.getElem?_range hjn]at hx
   (replace hx:=Option.some.inj hx;subst hx)
   subst hH
   refine AL h2 ⟨fun x p e=>?_,?_⟩
   ·unfold Loc.set;by_cases hx:x=n2
    ·subst hx;rw[hn2]at e;injection e
    ·rw[if_neg hx];exact e
   ·unfold EvIfs
    dsimp only
    refine SK rfl ?_
    refine Ez hbD (hel j hjn) fun y H4 zz2=>zz2.elim fun hy hH4=>⟨?_,hH4,hjn⟩
    simp only[ha,hy,List.append_assoc,Ay (x:=j) (by rw[List.getElem?_range hjn]),List.map_append];rfl
  ·rw[hlen]at ha
   rw[ha,List.take_of_length_le (by simp)]at h2
   exact hR H' s' vs' ok' lr' k' hH h1 h2
 have post:∀ H' s' vs',OkH G H' s'→LR G F σ2 s'.heap→KpI F.W (D::wr) H1 s3 H' s'→H'=H1→s'.heap.PlainList D (List.toArray vs')→VRs s'.heap (acc++(List.range n).map fy) vs' →
   ∃ acc' H' vs',OkH G H' s'∧LR G F σ s'.heap∧KpI F.W [D] H1 s H' s'∧H' D=none∧s'.heap.PlainList D (List.toArray vs')∧VRs s'.heap acc' vs'∧Q' acc' H':=fun H' s' vs' ok' lr' k' hH h1 h2=>by
  subst hH
  refine⟨_,_,vs',ok',lr'.weak hle,KpI.drop k13 k' fun b hb=>?_,hD,h1,h2,hQ⟩
  rcases List.mem_cons.mp hb with rfl | hb
  ·exact .inl (by simp)
  ·exact .inr (hDw b hb)
 refine wpAny_bind (wpAny_runOwn (Ed (loop _ fun H' s' vs' a b c d e f=>wpAny_pure (post H' s' vs' a b c d e f)) (S.self _ _ _ S.st (loop _ fun H' s' vs' a b c d e f=>wpAny_pure (post H' s' vs' a b c d e f)))))
omit Z in
theorem LS(fy:Nat→Nat→PV)(m i:Nat):((List.range i).flatMap fun i=>(List.range m).map (fy i)).length=i*m:=by
 induction i with
 | zero=>simp
 | succ i ih =>
  simp only[List.range_succ,List.flatMap_append,List.length_append,ih,Nat.succ_mul]
  congr 1
  simp

set_option tactic.hygienic true in
theorem Lv{elt it1 it2:Expr}{n1 n2 y:Str}{p1 p2 cpos npos pos:Pos}{scope:Scope}{n m:Nat}{fy:Nat→Nat→PV}{R:PF→Loc→AH→Prop}(τ:Loc)(hA:F.A.handled=none)(hsc:Ao scope=true)(hfree:By F scope)(hle:Loc.le τ (σ.fr scope))(hk:F.env.kindOf y=some .local)
  (hline:(npos.line==cpos.line)=true) (hny:scope.names.any (fun x=>x.1==y&&(x.2==.local||x.2==.cell))=false)
  (hk1:scope.names.lookup n1=some .local) (hk2:scope.names.lookup n2=some .local) (h12:n1≠n2) (hn:n<2 ^ 60) (hm:m<2 ^ 60) (hz:n*m≤sizeLine) (hz1:n≤sizeLine)
  (h1:Ev G F it1 σ H (fun p H1=>H1=H∧p=.rng 0 n 1))
  (hstep:∀ F':Fx,CF F F' scope→(∀ v,foldedSetIterable it2 F'.env v=pure v)∧∀ i,i<n→Ev G F' it2 (τ.set n1 (.int (i:Nat))) H (fun p H1=>H1=H∧p=.rng 0 m 1)∧∀ j,j<m→Ev G F' elt ((τ.set n1 (.int (i:Nat))).set n2 (.int (j:Nat))) H (fun y H4=>y=fy i j∧H4=H))
  (hfin:∀ a,H a=none→R .next (σ.set y (.ref a)) (H.set a (.lst ((List.range n).flatMap fun i=>(List.range m).map (fy i)))))
  (hs:∀ v,foldedSetIterable it1 F.env v=pure v:=by intro _;rfl) :
  Ex G F (.Assign [.Name y npos] (.ListComp elt [⟨.Name n1 p1,it1,[],0⟩,⟨.Name n2 p2,it2,[],0⟩] scope cpos) pos) σ H R:=by
 intro s ok lr
 refine Bs lr.fn hk hline hny ?_
 refine wpAny_comprehension_free (g:=⟨.Name n1 p1,it1,[],0⟩) (gs:=[⟨.Name n2 p2,it2,[],0⟩]) rfl hs (D9 hsc hfree lr) (CH hsc) (BS hsc) ?_
 refine wpAny_mono (h1 s ok lr) (fun x s1 zz2=>zz2.on fun p H1 hx ok1 k1 zz2_5=>zz2_5.elim fun hH1 hp=>?_) fun O O x=>x
 subst hH1;subst hp
 have hlen:((List.range n).map fun i:Nat=>PV.int i).length=n:=by simp
 have nof:∀ z,scope.names.lookup z=some .local→(σ.fr scope) z=none:=fun z hz=>by unfold Loc.fr;rw[hz];rfl
 have hle1:∀ i:Nat,Loc.le (τ.set n1 (.int i)) ((σ.fr scope).set n1 (.int i)):=fun i x p e=>by
  unfold Loc.set at e ⊢
  by_cases hx:x=n1
  ·rw[if_pos hx]at e ⊢;exact e
  ·rw[if_neg hx]at e ⊢;exact hle x p e
 have hle2:∀ i j:Nat,Loc.le ((τ.set n1 (.int i)).set n2 (.int j)) (((σ.fr scope).set n1 (.int i)).set n2 (.int j)):=fun i j x p e=>by
  unfold Loc.set at e ⊢
  by_cases hx:x=n2
  ·rw[if_pos hx]at e ⊢;exact e
  ·rw[if_neg hx]at e ⊢;exact hle1 i x p e
 have flen:∀ i,i≤n→((List.range i).flatMap fun i=>(List.range m).map (fy i)).length=i*m:=fun i O=>LS fy m i
 refine B8 (Q:=R) (X:=[]) (Dn:=fun O=>True) (xs:=(List.range n).map fun i:Nat=>.int i) (inv:=fun i acc H'=>acc=(List.range i).flatMap (fun i=>(List.range m).map (fy i))∧H'=H1∧i≤n) hsc hfree hk ok1 (lr.kp ok k1) (fun O h=>absurd h List.not_mem_nil) ?_ (fun F' hF' {I D fp wr P Md St s2 Dn'} S ok2 lr2 hD hbD hacc hDfp hσ dn Rr herr fin=>?_) (fun O O O h=>absurd h List.not_mem_nil) (fun O O O O=>trivial) (fun acc H' h a ha=>?_) fun O h=>h.plain.trans k1.toF
 ·refine wpAny_mono (E2 (target:=.Name n1 p1) hA hn ok1 hx (fun O=>True) fun O=>trivial) (fun it s3 zz2=>zz2.elim fun I zz2=>zz2.elim fun wr zz2=>zz2.elim fun P zz2=>zz2.elim fun Md zz2=>zz2.elim fun St zz2=>zz2.elim fun e zz2=>zz2.elim fun ok3 zz2=>zz2.elim fun k3 zz2=>zz2.elim fun hw S=>?_) fun O O x=>x
  exact⟨I,wr,wr,P,Md,St,e,ok3,k3,fun b hb=>.inl (hw b hb),S,fun s Q E st h=>S.K.done s Q E st fun h' tk hk=>h h' tk hk (fun b hb hz=>absurd hz (BP ok1 (hw b hb))) trivial⟩
 ·obtain⟨hs2,hst⟩:=hstep F' hF'
  have hA':F'.A.handled=none:=by rw[hF'.A];exact hA
  refine Ec (acc0:=[]) (vs0:=[]) (ip:=it1.pos) (ifs:=[]) (body:=IX it2 F'.env (.ListComp elt [⟨.Name n1 p1,it1,[],0⟩,⟨.Name n2 p2,it2,[],0⟩] scope cpos) (.ref D)) (Cσ:=fun O=>True) HP S ok2 lr2 hD hacc rfl hDfp (fun ok lr k lr2 O=>Jg ok lr k lr2 hσ) (fun i acc H'=>acc=(List.range i).flatMap (fun i=>(List.range m).map (fy i))∧H'=H1∧i≤n) ⟨rfl,rfl,Nat.zero_le _⟩ (fun i acc' H' h=>?_) dn (Er:=fun O O=>Bb) (fun i x acc' H' hx h3=>?_) Rr (fun O O O O O O O h=>h.elim)
   fun acc' H' s' h ok' lr' k' hD' hpl hdn=>fin acc' H' s' h ok' lr' k' hD' hpl ?_ hdn
  ·rw[h.1,flen i h.2.2];exact Nat.le_trans (Nat.mul_le_mul_right m h.2.2) hz
  ·obtain⟨ha,hH,hi⟩:=h3
   have hin:i<n:=by have:=(List.getElem?_eq_some_iff.mp hx).1;rw[hlen]at this;exact this
   rw[List.getElem?_map,List.getElem?_range hin]at hx
   (replace hx:=Option.some.inj hx;subst hx)
   subst hH
   obtain⟨hi2,hel⟩:=hst i hin
   refine AL (hF'.sto n1 (.inl hk1)) ⟨trivial,?_⟩
   unfold EvIfs
   dsimp only
   refine SK rfl ?_
   refine IW hA' hbD (hF'.sto n2 (.inl hk2)) ?_ (fun x p e=>?_) hs2 ?_ hm (fun s ok lr=>hi2 s ok (lr.weak (hle1 i))) (fun j hj s ok lr=>hel j hj s ok (lr.weak (hle2 i j))) ⟨?_,rfl,hin⟩
   ·unfold Loc.set;rw[if_neg (Ne.symm h12)];exact nof n2 hk2
   ·unfold Loc.set
    by_cases hx:x=n1
    ·subst hx;rw[nof x hk1]at e;injection e
    ·rw[if_neg hx];exact e
   ·rw[ha,flen i hi]
    exact Nat.le_trans (by rw[← Nat.succ_mul];exact Nat.mul_le_mul_right m hin) hz
   ·simp only[ha,List.range_succ,List.flatMap_append];simp
  ·rw[hlen]at h
   rw[h.1,flen n (Nat.le_refl _)];exact hz
 ·rw[hlen]at h
  obtain⟨rfl,rfl,_⟩:=h
  exact hfin a ha
end
end Mine
namespace Mine

noncomputable def LJ:PV→PV→Option Bool
 | .int a,.int b=>some (decide (a<b))
 | _,_=>none
noncomputable def BU:List PV→List PV→Option Bool
 | [],ys=>some (!ys.isEmpty)
 | _::_,[]=>some false
 | x::xs,y::ys=>match FD x y with
  | some true=>BU xs ys
  | some false=>LJ x y
  | none=>none
set_option tactic.hygienic true in
theorem IC{x y:PV}{xs ys:List PV}{r:Bool}(h:BU (x::xs) (y::ys)=some r):(FD x y=some true∧BU xs ys=some r)∨(FD x y=some false∧∃ a b,x=.int a∧y=.int b∧decide (a<b)=r):=by
 unfold BU at h
 split at h
 ·rename_i e;exact .inl ⟨e,h⟩
 ·rename_i e
  refine .inr ⟨e,?_⟩
  unfold LJ at h
  split at h
  ·(replace h:=Option.some.inj h;subst h);exact⟨_,_,rfl,rfl,rfl⟩
  ·injection h
 ·injection h
theorem Db{xs ys:List PV}{r:Bool}{n m:Nat}(h:BU xs ys=some r)(hs:xs=[]∨ys=[])(hl:(xs.length:Int) - ys.length=(n:Int) - m):decide (n<m)=r:=by
 rcases hs with rfl | rfl
 ·cases ys with
  | nil=>(replace h:=Option.some.inj h;subst h);simp at hl ⊢;exact Ky hl
  | cons y ys=>(replace h:=Option.some.inj h;subst h);simp at hl ⊢;exact Oe hl
 ·cases xs with
  | nil=>(replace h:=Option.some.inj h;subst h);simp at hl ⊢;exact Ky hl
  | cons x xs=>(replace h:=Option.some.inj h;subst h);simp at hl ⊢;exact Od hl
section
variable [Z:Zz] {G:Cx} {A:Around} {F:Fx} {σ:Loc} {H:AH} {Q:PV→AH→Prop}
theorem FN{prog:Program}{w:World}{A:Around}{E:Value→Shared→Prop}{s:Shared}{a b:Addr}{vs us:List Value}{xs ys:List PV}{n k:Nat}{r:Bool}{P:Fin→Shared→Prop}(hu:A.units<cLine)(hx:IsT s.heap a vs.toArray n)(hy:IsT s.heap b us.toArray k)(hxs:VRs s.heap xs vs)(hys:VRs s.heap ys us)
  (hr:BU xs ys=some r) (h:P (.done (.ret (.bool r))) s):wpAny (model prog w) A (Builtin.«tuple.__lt__» ⟨[.ref a,.ref b],[]⟩) P E s:=by
 have hTb:s.TypeIs (.ref b) "tuple" := ⟨_,hy,rfl⟩
 show wpAny _ _ (isInstance (.ref b) (.type "tuple") >>= _) _ _ s
 refine wpAny_bind (wpAny_isInstance hTb isSubtype_tuple_tuple ?_)
 simp only[Bool.not_true,Bool.false_eq_true,if_false]
 refine wpAny_bind (wpAny_tupleItemsOf hx rfl ?_)
 refine wpAny_bind (wpAny_tupleItemsOf hy rfl ?_)
 refine wpAny_bind ?_
 refine wpAny_forIn_list _
  (fun rest rr s'=>rr.1=none∧s'=s∧∃ xs' ys' vs' us',rest=List.zip vs' us'∧VRs s.heap xs' vs'∧VRs s.heap ys' us'∧BU xs' ys'=some r∧(xs'.length:Int) - ys'.length=(vs.toArray.size:Int) - us.toArray.size)
  _ ?_ ?_ _ _ ⟨rfl,rfl,xs,ys,vs,us,by simp,hxs,hys,hr,by rw[List.size_toArray,List.size_toArray,hxs.length,hys.length]⟩
 ·rintro⟨u,v⟩ rest rr s' ⟨hrr,rfl,xs',ys',vs',us',hz,hx',hy',hlt,hlen⟩
  cases xs' with
  | nil=>rw[show vs'=[]from hx']at hz;injection hz
  | cons x xs' =>
   cases ys' with
   | nil=>rw[show us'=[]from hy',List.zip_nil_right]at hz;injection hz
   | cons y ys' =>
    refine AJ fun WW9 hW9=>?_
    obtain⟨v1,r1,eq9_0,h1,h1'⟩:=hx'
    refine hW9 ?_
    clear hW9 WW9
    subst eq9_0
    refine AJ fun WW9 hW9=>?_
    obtain⟨v2,r2,eq9_0,h2,h2'⟩:=hy'
    refine hW9 ?_
    clear hW9 WW9
    subst eq9_0
    cases hz
    have hl':(xs'.length:Int) - ys'.length=(vs.toArray.size:Int) - us.toArray.size:=by rw[← hlen];simp only[List.length_cons];exact Oc
    rcases IC hlt with ⟨he,hc⟩ | ⟨he,p,q,rfl,rfl,hrv⟩
    ·refine wpAny_bind (Ea hu he h1 h2 _ _ _ _ ?_)
     simp only[Bool.not_true,Bool.false_eq_true,if_false]
     exact wpAny_pure ⟨rfl,rfl,xs',ys',r1,r2,rfl,h1',h2',hc,hl'⟩
    ·refine wpAny_bind (Ea hu he h1 h2 _ _ _ _ ?_)
     obtain⟨t1,rfl⟩:=h1
     obtain⟨t2,rfl⟩:=h2
     simp only[Bool.not_false,if_true]
     refine wpAny_bind (wpAny_rule (wpAny_bind ?_))
     show wpAny _ _ (compareOp .Lt (.int p t1) (.int q t2)) _ _ _
     refine PyProof.Rows.lt_int ?_
     rw[hrv]
     exact wpAny_bind (wpAny_pure (wpAny_pure (wpAny_pure h)))
 ·rintro⟨_,_⟩ s' ⟨rfl,rfl,xs',ys',vs',us',hz,hx',hy',hlt,hlen⟩
  show wpAny _ _ (ret (Value.bool (decide (vs.toArray.size<us.toArray.size)))) _ _ _
  rw[Db hlt ?_ hlen]
  ·exact wpAny_pure h
  ·cases xs' with
   | nil=>exact .inl rfl
   | cons x xs' =>
    cases ys' with
    | nil=>exact .inr rfl
    | cons y ys' =>
     refine AJ fun WW9 hW9=>?_
     obtain⟨v1,r1,eq9_0,h1,h1'⟩:=hx'
     refine hW9 ?_
     clear hW9 WW9
     subst eq9_0
     refine AJ fun WW9 hW9=>?_
     obtain⟨v2,r2,eq9_0,h2,h2'⟩:=hy'
     refine hW9 ?_
     clear hW9 WW9
     subst eq9_0
     injection hz
theorem JM{xs ys:List PV}{r:Bool}(hu:A.units+3<cLine)(hr:BU xs ys=some r)(h:Q (.bool r) H):Cv G A (compareOp .Lt) (.tup xs) (.tup ys) H Q:=by
 rintro s _ _ ok ⟨a,vs,n,rfl,hx,hxs,_⟩ ⟨b,us,k,rfl,hy,hys,_⟩
 refine wpAny_richCompare_same_room (T := "tuple") (id := "tuple.__lt__") (op:=.Lt) ⟨_,hx,rfl⟩ ⟨_,hy,rfl⟩ PySem.F.slot_tuple_lt ?_ (by exact Nat.lt_of_add_right_lt hu)
 refine wpAny_call_entry PySem.F.slot_tuple_lt ⟨_,hx,rfl⟩ PySem.F.entry_tuple_lt ?_ (PySem.F.args_tuple_lt_2 _ _)
 exact FN (by simp only[Around.in1_units];exact Nat.le_of_lt (Nat.lt_of_succ_lt hu)) hx hy hxs hys hr ⟨_,rfl,by simp,AV (p:=.bool r) ok rfl h⟩
theorem JW{prog:Program}{w:World}{A:Around}{s:Shared}{b fin:Bool}{Q:Bool→Shared→Prop}(hu:A.units<cLine):∀{xs ys:List PV} {vs us:List Value} {i:Nat} {r:Bool},VRs s.heap xs vs→VRs s.heap ys us→BU xs ys=some r →
  (∀ m k:Nat,(xs.length:Int) - ys.length=(m:Int) - k→fin=decide (m<k))→Q r s→KatLex prog w A b fin Q (vs.zip us) i s
 | [],ys,vs,us,i,r,hv,hw,hr,hfin,h=>by
  rw[show vs=[]from hv]
  show Q fin s
  rw[hfin 0 ys.length (by simp),Db hr (.inl rfl) (by simp)];exact h
 | x::xs,[],vs,us,i,r,hv,hw,hr,hfin,h=>by
  rw[show us=[]from hw,List.zip_nil_right]
  show Q fin s
  rw[hfin (x::xs).length 0 (by simp),Db hr (.inr rfl) (by simp)];exact h
 | x::xs,y::ys,vs,us,i,r,zp6,zp7,hr,hfin,h=>by
  obtain⟨v,r1,e,h1,h2⟩:=zp6
  obtain⟨v',r2,e',h1',h2'⟩:=zp7
  subst e;subst e'
  simp only[List.zip_cons_cons]
  refine kat_cons ?_
  rcases IC hr with ⟨he,hc⟩ | ⟨he,p,q,rfl,rfl,hrv⟩
  ·refine Ea hu he h1 h1' _ _ _ _ (kat_yes (JW hu h2 h2' hc (fun m k hmk=>hfin m k (by simp only[← hmk];simp only[List.length_cons];exact Ob)) h))
  ·refine Ea hu he h1 h1' _ _ _ _ (kat_no ?_)
   obtain⟨t1,rfl⟩:=h1
   obtain⟨t2,rfl⟩:=h1'
   rw[← hrv]at h
   cases hb:(b&&i==0) with
   | true=>exact oneLt_int h
   | false=>exact kat_one _ _ (PyProof.Rows.lt_int h)

noncomputable def tT(a b:Nat→Int)(tl:Nat→List PV)(i:Nat):PV:=.tup (.int (a i)::.int (b i)::tl i)
noncomputable def MA(a b:Nat→Int)(i j:Nat):Bool:=if a i=a j then decide (b i<b j) else decide (a i<a j)
omit Z in
theorem JQ(a b:Nat→Int):SWO (MA a b):=by
 refine⟨fun x y h=>?_,fun x y z h1 h2=>?_⟩
 ·unfold MA at h ⊢
  by_cases e:a x=a y
  ·rw[if_pos e]at h;rw[if_pos e.symm];have:=of_decide_eq_true h;exact decide_eq_false (by exact Int.lt_asymm this)
  ·rw[if_neg e]at h;rw[if_neg (Ne.symm e)];have:=of_decide_eq_true h;exact decide_eq_false (by exact Int.lt_asymm this)
 ·unfold MA at h1 h2 ⊢
  by_cases e1:a x=a y
  ·rw[if_pos e1]at h1
   have h1:=of_decide_eq_false h1
   by_cases e2:a y=a z
   ·rw[if_pos e2]at h2;rw[if_pos (e1.trans e2)];have h2:=of_decide_eq_false h2;exact decide_eq_false (by exact KU h1 h2)
   ·rw[if_neg e2]at h2;rw[if_neg (by rw[e1];exact e2),e1];exact h2
  ·rw[if_neg e1]at h1
   have h1:=of_decide_eq_false h1
   by_cases e2:a y=a z
   ·rw[if_neg (by rw[← e2];exact e1),← e2];exact decide_eq_false h1
   ·rw[if_neg e2]at h2
    have h2:=of_decide_eq_false h2
    rw[if_neg (by exact M6 h1 h2 e2)];exact decide_eq_false (by exact KU h1 h2)
omit Z in
theorem P9{a b:Nat→Int}{tl:Nat→List PV}(hb:∀ i j,b i=b j→i=j)(htl:∀ i,BU (tl i) (tl i)=some false)(i j:Nat):BU (.int (a i)::.int (b i)::tl i) (.int (a j)::.int (b j)::tl j)=some (MA a b i j):=by
 have e1:∀ x y:Int,FD (.int x) (.int y)=some (x==y):=fun O O=>rfl
 unfold MA
 by_cases ha:a i=a j
 ·rw[if_pos ha,ha]
  by_cases hbb:b i=b j
  ·obtain rfl:=hb i j hbb
   simp[BU,e1,htl]
  ·simp only[BU,e1,beq_self_eq_true,beq_eq_false_iff_ne.mpr hbb];rfl
 ·rw[if_neg ha]
  simp only[BU,e1,beq_eq_false_iff_ne.mpr ha];rfl
theorem GT{h:Heap}{a b:Nat→Int}{tl:Nat→List PV}:∀{xs:List Nat} {vs:List Value},VRs h (xs.map (tT a b tl)) vs→∃ fs,KatTups h vs fs∧fs.length=xs.length∧∀ v∈fs,∃ i t,v=Value.int i t
 | [],vs,e=>by rw[show vs=[]from e];exact⟨[],.nil,rfl,by simp⟩
 | x::xs,vs,zp2=>by
  obtain⟨v,r,e,⟨c,us,n,e2,hT,⟨u,us',e3,⟨t,e4⟩,hus⟩,_⟩,h2⟩:=zp2
  subst e;subst e2;subst e3;subst e4
  obtain⟨fs,h3,h4,h5⟩:=GT h2
  refine⟨.int (a x) t::fs,KatTups.cons hT rfl rfl (by simp) h3,by simp[h4],fun v hv=>?_⟩
  rcases List.mem_cons.mp hv with rfl | hv
  ·exact⟨_,t,rfl⟩
  ·exact h5 v hv
theorem Sk.turns(G:Cx){a b:Nat→Int}{tl:Nat→List PV}(hb:∀ i j,b i=b j→i=j)(htl:∀ i,BU (tl i) (tl i)=some false):Sk G (tT a b tl) (MA a b):=by
 refine⟨JQ a b,fun h v x y z z'=>?_,fun s A vs xs hu hl hv=>⟨tuples' true,fun E Q hq=>?_,fun x y u v z z' E Q hq=>?_⟩⟩
 ·obtain⟨c,vs,n,e,hT,hvs,_⟩:=z;obtain⟨c',vs',n',e',hT',hvs',_⟩:=z'
  rw[e]at e';injection e' with e';subst e'
  have hy':some _=some _:=(show h.get? c=_ from hT).symm.trans hT'
  injection hy' with hy;injection hy with _ _ hy _;injection hy with hy _
  have:vs=vs':=by simpa using hy
  subst this
  obtain⟨_,_,rfl,_,_,_,rfl,⟨t1,rfl⟩,_⟩:=hvs
  obtain⟨_,_,e1,_,_,_,e2,⟨t2,e3⟩,_⟩:=hvs'
  injection e1 with _ e1;subst e1
  injection e2 with e2 _;subst e2
  injection e3 with e3 _
  exact hb x y e3
 ·obtain⟨fs,h1,h2,h3⟩:=GT hv
  exact kat_kind (T:=.type "int") h1 (by exact Oa hl h2) (fun v hv=>by obtain⟨i,t,rfl⟩:=h3 v hv;exact Looks.of_pure rfl) rfl hq
 ·obtain⟨c,vs,n,e,hT,hvs,_⟩:=z;obtain⟨c',vs',n',e',hT',hvs',_⟩:=z'
  subst e;subst e'
  refine kat_lt hT rfl hT' rfl (JW (by exact Nat.lt_of_add_right_lt hu) hvs hvs' (P9 hb htl x y) (fun m k hmk=>?_) hq)
  have e1:=hvs.length;have e2:=hvs'.length
  simp only[List.size_toArray,e1,e2]
  generalize (List.length (PV.int (a x)::PV.int (b x)::tl x))=p at hmk ⊢
  generalize (List.length (PV.int (a y)::PV.int (b y)::tl y))=q at hmk ⊢
  congr 1
  exact propext ⟨fun h=>by exact OZ hmk h,fun h=>by exact OY hmk h⟩

noncomputable def GI{β:Type}(f:β × Nat→PV)(l:List (β × Nat))(p:PV):Prop:=∃ q∈l,p=f q
noncomputable def fT{β:Type}(kx:β→Int)(sg:Int)(tl:β→List PV)(q:β × Nat):PV:=.tup (.int (kx q.1)::.int (sg*q.2)::tl q.1)
noncomputable def IA:PV→PV→Bool
 | .tup (.int a::.int b::_),.tup (.int c::.int d::_)=>if a=c then decide (b<d) else decide (a<c)
 | _,_=>false
noncomputable def JU{β:Type}(kx:β→Int)(sg:Int)(p q:β × Nat):Bool:=if kx p.1=kx q.1 then decide (sg*p.2<sg*q.2) else decide (kx p.1<kx q.1)
theorem IU{β:Type}{kx:β→Int}{sg:Int}{tl:β→List PV}(hsg:sg=1∨sg = -1)(htl:∀ x,BU (tl x) (tl x)=some false){l:List (β × Nat)}(hl:∀ p∈l,∀ q∈l,p.2=q.2→p=q):∀ x y,GI (fT kx sg tl) l x→GI (fT kx sg tl) l y→∀(A:Around) (H:AH) (Q:PV→AH→Prop),A.units+3<cLine→Q (.bool (IA x y)) H→Cv G A (compareOp .Lt) x y H Q:=by
 rintro _ _ ⟨p,hp,rfl⟩ ⟨q,hq,rfl⟩ A H Q hu h
 refine JM hu (r:=JU kx sg p q) ?_ h
 have e1:∀ x y:Int,FD (.int x) (.int y)=some (x==y):=fun O O=>rfl
 unfold JU
 by_cases ha:kx p.1=kx q.1
 ·rw[if_pos ha,ha]
  by_cases hbb:sg*(p.2:Int)=sg*q.2
  ·have:p.2=q.2:=by rcases hsg with rfl | rfl<;>(first | exact Kx hbb | exact Kw hbb)
   obtain rfl:=hl p hp q hq this
   simp[BU,e1,htl]
  ·simp only[BU,e1,beq_self_eq_true,beq_eq_false_iff_ne.mpr hbb];rfl
 ·rw[if_neg ha]
  simp only[BU,e1,beq_eq_false_iff_ne.mpr ha];rfl
end
end Mine
namespace Mine

section
variable [Z:Zz] {G:Cx} {A:Around} {F:Fx} {σ:Loc} {H:AH} {Q:PV→AH→Prop}
theorem EG{K:Frag}{x:Str}{pos:Pos}{fa:Addr}(hK:G.K=K)(hk:F.env.kindOf x=some .globalImplicit)(hf:nsIn K mainGlobals x=some (some (.ref fa)))(h:Q (.ref fa) H):Ev G F (.Name x pos) σ H Q:=by
 subst hK;exact Ej hk (G.mg_of hf) h
set_option tactic.hygienic true in
theorem HW{K:Frag}{x:Str}{np pos:Pos}{fa:Addr}{e:Expr}{es:List Expr}(hK:G.K=K)(hx:σ x=some (.ref fa))(ht:DK K fa=true)
  (h:Gl G F (e::es) σ H (fun ps H1=>OpL G F.A (fun vs=>call (.ref fa) vs) ps H1 Q)) (he:starEach (e::es) F.env=(false,eval e F.env)::starEach es F.env:=by rfl) :
  Ev G F (.Call (.Name x np) (e::es) [] pos) σ H Q:=by
 subst hK
 unfold DK at ht
 split at ht
 ·rename_i c d fd sl hl
  intro s ok lr
  refine wpAny_Call_NameR (wpAny_mono (BT (Q:=fun p H1=>p=.ref fa∧H1=H) hx ⟨rfl,rfl⟩ s ok lr) (fun v s1 zz2=>zz2.on fun p H1 hv ok1 k1 zz2_5=>zz2_5.elim fun hp hH=>?_) fun O O x=>x)
  subst hp;subst hH
  rw[show v=.ref fa from hv]
  refine callWith_def (rfl:(_:Obj).data=.func fd) (wpAny_mono (h s1 pos ok1 (lr.kp ok k1)) (fun vs s2 zz2=>zz2.on fun ps H2 hvs ok2 k2 hq=>⟨ok2.keep _ _ (G.kin _ _ hl),?_⟩) fun O O x=>x) he
  exact wpAny_mono (hq s2 vs ok2 hvs) (fun O O x=>(x.trans k2).trans k1) fun O O x=>x
 ·injection ht
theorem JP{i j:Int}(h:Q (.int (i - j)) H):Cv G A (inplaceOp .Sub) (.int i) (.int j) H Q:=by
 rintro s _ _ ok ⟨t,rfl⟩ ⟨u,rfl⟩;exact PySem.AutoIntOps.isub_0 (BE (p:=.int (i - j)) ok ⟨_,rfl⟩ h)
theorem Gn{env:Env}{E:Value→Shared→Prop}{s:Shared}{value:Expr}{lower upper:Option Expr}{p pos:Pos}{T id:String}{R:Value→Shared→Prop}
  (hl:typeLookup (.type T) "__getitem__" = pure (some (.builtin id)))
  (h:wpAny (model G.prog G.w) A (eval value env) (fun o s₁=>wpAny (model G.prog G.w) A (eval (.Slice lower upper none p) env) (fun i s₂=>s₂.TypeIs o T∧wpAny (model G.prog G.w) A (getItem o i) R E s₂) E s₁) E s) :
  wpAny (model G.prog G.w) A (eval (.Subscript value (.Slice lower upper none p) pos) env) R E s:=by
 simp only[eval_Subscript]
 refine wpAny_bind (wpAny_mono h (fun o s₁ h₁=>wpAny_bind (wpAny_holding (wpAny_mono h₁ (fun i s₂ h₂=>wpAny_bind (wpAny_standAt ?_)) fun O O x=>x)))
  fun O O x=>x)
 have fin:wpAny (model G.prog G.w) A (operate [i,o] (getItem o i)) (fun r s₃=>wpAny (model G.prog G.w) A (letTemporaryGo value o r >>= fun O=>pure r) R E s₃) E s₂ :=
  wpAny_operating (wpAny_mono h₂.2 (fun r s₃ h₃=>wpAny_bind (wpAny_letTemporaryGo (wpAny_pure h₃))) fun O O x=>x)
 refine wpAny_bind ?_
 rw[getitemInPython_of_ne h₂.1.not_modules]
 refine wpAny_bind (wpAny_specialOf h₂.1 hl ?_)
 exact wpAny_pure (wpAny_bind fin)

theorem Gi{v:Expr}{lo hi:Option Expr}{p pos:Pos}
  (h:Ev G F v σ H (fun o H1=>EvP G F lo σ H1 (fun l H2=>EvP G F hi σ H2 (fun u H3 =>
   ∃ a ho,o=.ref a∧H3 a=some ho∧∀ a',H3 a'=none→Q (.ref a') (H3.set a' (.lst (Dy ho.items l u none))))))):Ev G F (.Subscript v (.Slice lo hi none p) pos) σ H Q:=by
 intro s ok lr
 refine Gn list_getitem_lookup (wpAny_mono (h s ok lr) (fun o s1 zz2=>zz2.on fun po H1 hv ok1 k1 h1=>wpAny_Slice ?_) fun O O x=>x)
 have lr1:=lr.kp ok k1
 refine h1.go ok1 lr1 fun vl s2 l H2 pl ok2 k2 h2=>?_
 have lr2:=lr1.kp ok1 k2
 refine h2.go ok2 lr2 fun vu s3 u H3 pu ok3 k3 h3=>?_
 have lr3:=lr2.kp ok2 k3
 refine(C9 (G:=G) (F:=F) (σ:=σ) (H:=H3) (Q:=fun c H4=>c=none∧H4=H3) ⟨rfl,rfl⟩).go ok3 lr3 fun vc s4 c H4 pc ok4 k4 zz7=>zz7.elim fun hc hH4=>?_
 subst hc;subst hH4
 obtain⟨a,ho,e,hH,h4⟩:=h3
 subst e
 rw[show o=.ref a from hv]
 have k14:=((k1.trans k2).trans k3).trans k4
 obtain⟨ok5,k5⟩:=Bn ok4 { cls:=.type "slice", data:=.fields #[vl,vu,vc] }
 obtain⟨⟨vs,n,hl,hvs,hz⟩,_⟩:=id (ok5.hr a ho hH)
 refine⟨hl.isList.typeIs,wpAny_getItem_list_slice hl.isList (Heap.IsSliceOf.new ..) pl pu pc (by simp) ?_ (by rw[List.size_toArray,hvs.length];exact hz)⟩
 have:=ES (tk:=s4.toks) ok5 (hvs.pick l u none) ?_ h4
 ·rw[Array.toArray_toList]at this
  exact this.trans (k14.trans k5)
 ·rw[← (hvs.pick l u none).length,Array.length_toList]
  exact Nat.le_trans (slicePick_size_le _ _ _ _) (by rw[List.size_toArray,hvs.length];exact hz)
omit Z in
theorem Dv(n:Int):Builtin.Range.rangeSize 0 n 1=n.toNat:=by rw[rangeSize_one];split<;>(first | exact OX (by assumption) | exact OW (by assumption))
omit Z in
theorem CJ(n:Int):Builtin.Range.rangeSize 0 (-n) (-1)=n.toNat:=by
 unfold Builtin.Range.rangeSize
 rw[if_neg (by decide),show -(-1:Int)=1 by decide,Int.ediv_one]
 split<;>(first | exact OV (by assumption) | exact OU (by assumption))
omit Z in
theorem FS{n:Int}(h0:0<n)(h:n<2 ^ 60):Builtin.Range.small 0 (-n) (-1)=true:=by
 unfold Builtin.Range.small
 rw[CJ]
 simp only[Builtin.Range.rangeFitsLong,Bool.and_eq_true,Bool.or_eq_true,decide_eq_true_eq,beq_iff_eq,show ¬ (-1:Int)>0 by decide,if_false]
 exact OT h0 h
omit Z in
theorem CI{α:Type}(l:List α)(d:α):(List.range l.length).map (fun i=>l.getD i d)=l:=by
 refine List.ext_getElem (by simp) fun i h1 h2=>?_
 rw[List.getElem_map,List.getElem_range,List.getD_eq_getElem?_getD,List.getElem?_eq_getElem h2];rfl
end
end Mine
set_option maxHeartbeats 8000000
set_option linter.unusedSimpArgs false
namespace Mine
theorem said11:OpenLaw.wellSaid PySem.Challenge.rw_dn0043_11=true:=by
 unfold OpenLaw.wellSaid OpenRow.wellSaid OpenRow.partSaid looksOpen
 with_reducible repeat' refine look_both ?_ ?_
 all_goals decide +kernel
theorem faEq{fa:Addr}{o:Option Value}(h:o=some (.ref fa))(h2:o=some (.ref 156)):fa=156:=by
 subst h;injection h2 with h2;injection h2
set_option synthInstance.maxSize 1 in
open_top hd11 for PySem.Challenge.rw_dn0043_11.row
end Mine
namespace Mine
variable [zz:Zz]

section
variable {G:Cx} {F:Fx} {σ:Loc} {H:AH} {Q:PV→AH→Prop} {e l r:Expr} {es:List Expr} {p q:PV} {ps:List PV} {i j:Int} {pos:Pos} {k:Nat}
noncomputable def At(G:Cx)(F:Fx)(σ:Loc)(e:Expr)(p:PV):Prop:=(∀ es:List Expr,starEach (e::es) F.env=(false,eval e F.env)::starEach es F.env)∧(∀ op:CmpOp,behindInMarks op e=false)∧∀(H:AH) (Q:PV→AH→Prop),Q p H→Ev G F e σ H Q
noncomputable def Al(G:Cx)(F:Fx)(σ:Loc)(es:List Expr)(ps:List PV):Prop:=∀(H:AH) (Q:List PV→AH→Prop),Q ps H→Gl G F es σ H Q
theorem AQ{x:Str}(hx:σ x=some p):At G F σ (.Name x pos) p:=⟨fun O=>rfl,fun O=>rfl,fun O O h=>BT hx h⟩
theorem Bl:At G F σ (.Constant (.int i) k pos) (.int i):=⟨fun O=>rfl,fun O=>rfl,fun O O h=>Au h⟩
theorem L8:At G F σ (.Constant .none k pos) .none:=⟨fun O=>rfl,fun O=>rfl,fun O O h=>Ms h⟩
theorem Cs(a:At G F σ l (.int i))(b:At G F σ r (.int j)):At G F σ (.BinOp l .Add r pos) (.int (i+j)):=⟨fun O=>rfl,fun O=>rfl,fun O O h=>AZ (a.2.2 _ _ (b.2.2 _ _ (Bh h)))⟩
theorem NE(a:At G F σ l (.int i))(b:At G F σ r (.int j)):At G F σ (.BinOp l .Sub r pos) (.int (i - j)):=⟨fun O=>rfl,fun O=>rfl,fun O O h=>AZ (a.2.2 _ _ (b.2.2 _ _ (CL h)))⟩
theorem Gm(a:At G F σ l (.int i)):At G F σ (.UnaryOp .USub l pos) (.int (-i)):=⟨fun O=>rfl,fun O=>rfl,fun O O h=>Lx (a.2.2 _ _ (NM h))⟩
theorem Gh(a:At G F σ e p)(h:Q p H):Ev G F e σ H Q:=a.2.2 H Q h
theorem FF{op:Operator}(a:At G F σ l p)(b:At G F σ r q)(h:Cv G F.A (binaryOp op) p q H Q):Ev G F (.BinOp l op r pos) σ H Q:=AZ (a.2.2 _ _ (b.2.2 _ _ h))
theorem L6{op:Operator}(a:At G F σ l p)(h:Ev G F r σ H (fun b H2=>Cv G F.A (binaryOp op) p b H2 Q)):Ev G F (.BinOp l op r pos) σ H Q:=AZ (a.2.2 _ _ h)
theorem A3(a:At G F σ l p)(b:At G F σ r q)(h:Cv G F.A (subscriptTail l r) p q H Q):Ev G F (.Subscript l r pos) σ H Q:=Bd (a.2.2 _ _ (b.2.2 _ _ h))
theorem Rj(a:At G F σ l p)(h:Ev G F r σ H (fun b H2=>Cv G F.A (subscriptTail l r) p b H2 Q)):Ev G F (.Subscript l r pos) σ H Q:=Bd (a.2.2 _ _ h)
theorem A7{op:CmpOp}{Q:Bool→AH→Prop}(a:At G F σ l p)(b:At G F σ r q)(h:Cv G F.A (compareOp op) p q H (fun p H3=>∃ c,p=.bool c∧Q c H3)):EvB G F (.Compare l [op] [r] pos) σ H Q:=Am (a.2.2 _ _ (b.2.2 _ _ h)) (b.2.1 op)
theorem QN{op:CmpOp}{Q:Bool→AH→Prop}(a:At G F σ l p)(h:Ev G F r σ H (fun b H2=>Cv G F.A (compareOp op) p b H2 (fun p H3=>∃ c,p=.bool c∧Q c H3)))(hm:behindInMarks op r=false):EvB G F (.Compare l [op] [r] pos) σ H Q:=Am (a.2.2 _ _ h) hm
theorem BV:Al G F σ [] []:=fun O O h=>AP h
theorem JK(a:At G F σ e p)(b:Al G F σ es ps):Al G F σ (e::es) (p::ps):=fun O O h=>AM (a.2.2 _ _ (b _ _ h)) (a.1 es)
theorem A0{x:Str}(hx:σ x=some p)(a:Al G F σ es ps):Al G F σ (.Name x pos::es) (p::ps):=JK (AQ hx) a
theorem AN{Q:List PV→AH→Prop}(a:Al G F σ es ps)(h:Q ps H):Gl G F es σ H Q:=a H Q h
theorem BR{Q:List PV→AH→Prop}(a:At G F σ e p)(h:Gl G F es σ H (fun ps H2=>Q (p::ps) H2)):Gl G F (e::es) σ H Q:=AM (a.2.2 _ _ h) (a.1 es)
section
variable {α:Type} {f:α→PV} {xs:List α} {a:Addr} {A:Around}
theorem Cj{ho:HO}(hH:H a=some ho)(e:ho.items=xs.map f)(h:Q (.int (xs.length:Int)) H):OpL G A (fun vs=>call (.builtin "len") vs) [.ref a] H Q:=Ck hH (by rw[e,List.length_map];exact h)
theorem FH(hH:H a=some (.lst (xs.map f)))(h:Q (.int (xs.length:Int)) H):OpL G A (fun vs=>call (.builtin "len") vs) [.ref a] H Q:=Ck hH (by simp only[AC,List.length_map];exact h)
theorem DG(hH:H a=some (.fro (xs.map f)))(h:Q (.int (xs.length:Int)) H):OpL G A (fun vs=>call (.builtin "len") vs) [.ref a] H Q:=Ck hH (by simp only[Bc,List.length_map];exact h)
end
section
variable {rest:List Stmt} {Q:PF→Loc→AH→Prop} {x:Str} {npos spos:Pos} {o t:Expr}
theorem AG(hk:MD F x)(h:Ev G F e σ H (fun p H1=>Exs G F rest (σ.set x p) H1 Q))(hs:swapsWith e (some (.Name x npos)) pos.line F.env=pure false ):Exs G F (.Assign [.Name x npos] e pos::rest) σ H Q:=AI (Aq hk h hs)
theorem Ae(h:Ev G F e σ H (fun O H1=>Exs G F rest σ H1 Q))(hs:swapsWith e none pos.line F.env=pure false ):Exs G F (.Expr e pos::rest) σ H Q:=AI (EF h hs)
theorem AR(h:Ev G F e σ H (fun p H1=>Q (.ret p) σ H1)):Exs G F (.Return (some e) pos::rest) σ H Q:=AI (J4 h)
theorem BI{op:Operator}(hk:MD F x)(hx:σ x=some p)(h:Ev G F e σ H (fun q H1=>Cv G F.A (inplaceOp op) p q H1 (fun r H2=>Exs G F rest (σ.set x r) H2 Q))):Exs G F (.AugAssign (.Name x npos) op e pos::rest) σ H Q:=AI (JI hk hx h)
theorem Ac(h:Ev G F e σ H (fun p H1=>Ev G F o σ H1 (fun q H2=>Ev G F t σ H2 (fun r H3=>SE G F.A setItem q r p H3 (fun H4=>Exs G F rest σ H4 Q)))))
  (hs:swapsWith e (some (.Subscript o t spos)) pos.line F.env=pure false ):Exs G F (.Assign [.Subscript o t spos] e pos::rest) σ H Q:=AI (HV h hs)
end
end

omit [Zz] in
theorem Fi:∀ xs ys:List Int,BU (xs.map .int) (ys.map .int)=some (Jt xs ys)
 | [],ys=>by cases ys<;>rfl
 | a::xs,[]=>rfl
 | a::xs,b::ys=>by
  show(match FD (.int a) (.int b)with | some true=>BU (xs.map .int) (ys.map .int) | some false=>LJ (.int a) (.int b) | none=>none)=some (if a=b then Jt xs ys else decide (a<b))
  rw[show FD (.int a) (.int b)=some (a==b)from rfl]
  by_cases e:a=b
  ·rw[beq_iff_eq.mpr e,if_pos e];exact Fi xs ys
  ·rw[beq_eq_false_iff_ne.mpr e,if_neg e];rfl
noncomputable def E9:PV→PV→Bool
 | .tup xs,.tup ys=>(BU xs ys).getD false
 | _,_=>false
omit [Zz] in
theorem JR(xs ys:List Int):E9 (.tup (xs.map .int)) (.tup (ys.map .int))=Jt xs ys:=by
 show(BU _ _).getD false=_
 rw[Fi];rfl
theorem Mm(G:Cx):HY G JG E9:=by
 rintro _ _ ⟨xs,rfl⟩ ⟨ys,rfl⟩ A H Q hu h
 refine JM hu (Fi xs ys) ?_
 rw[JR]at h;exact h

noncomputable abbrev KK(G:Cx):Frag:=Mine.hd11.heap_1 G.w.params

theorem Eo{G:Cx}{A:Around}{H:AH}{Q:PV→AH→Prop}{S:PV→Prop}{lt:PV→PV→Bool}{a:Addr}{xs:List PV}{start pos:Nat}{x:PV}(hK:G.K=KK G)(hA:A.depth<900∧A.units<9000)(hc:HY G S lt)
  (hH:H a=some (.lst xs)) (hS:∀ y∈xs,S y) (hx:xs[pos]?=some x) (hQ:Q .none (H.set a (.lst (B9 lt start x pos xs)))) :
  OpL G A (fun vs=>call (.ref 63) vs) [.ref a,.int start,.int pos] H Q:=by
 refine Az (ns:=["heap", "startpos", "pos"]) (dps:=[]) (dvs:=[]) hK (by kernel_rfl) (Nat.lt_of_lt_of_le hA.1 (by decide)) (fun O=>rfl) ?_ ?_
 ·intro h vs hvs
  refine AJ fun WW9 hW9=>?_
  obtain⟨v1,v2,v3,eq9_0,_,_,_⟩:=hvs.three_inv
  refine hW9 ?_
  clear hW9 WW9
  subst eq9_0
  kernel_rfl
 intro F hF
 have hu:F.A.units+3<cLine:=hF.lt3 hA.2 (by decide)
 have hlt:=(List.getElem?_eq_some_iff.mp hx).1
 have hSx:S x:=hS x (List.mem_of_getElem? hx)
 ((dsimp only[Av,List.zip_cons_cons,List.zip_nil_right,List.zip_nil_left,List.cons_append,List.nil_append];rw[show(fun O=>none:Loc)=Loc.nil from rfl]))
 ((refine AG (AB (by assumption) (by kernel_rfl)) ?_ rfl;(with_reducible refine A3 (AQ Gt) (AQ Gt) ?_)))
 refine AK hH (p:=x) (by simp only[AC,BD];exact hx) ?_
 refine AI (B0 (fun n σ' H'=>∃ ys,n<ys.length∧ys.length=xs.length∧(∀ y∈ys,S y)∧H'=H.set a (.lst ys)∧B9 lt start x n ys=B9 lt start x pos xs ∧
  σ'=(((Loc.nil.set "heap" (.ref a)).set "startpos" (.int start)).set "pos" (.int n)).set "newitem" x) pos ⟨_,?_,xs,hlt,rfl,hS,(Bk hH).symm,rfl,rfl⟩ ?_)
 ·(exact Le)
 ·intro n _ _ zq9
  refine AJ fun WW9 hW9=>?_
  obtain⟨ys,hn,hlen,hSy,eq9_0,hsd,eq9_1⟩:=zq9
  refine hW9 ?_
  clear hW9 WW9
  subst eq9_0 eq9_1
  (with_reducible refine A7 (AQ Gt) (AQ Gt) ?_;apply D1)
  by_cases hsp:start<n
  ·refine⟨true,by simp[hsp],?_⟩
   refine An ?_
   have hpl:(n - 1) / 2<ys.length:=by exact GS hn
   obtain⟨p,hp⟩:∃ p,ys[(n - 1) / 2]?=some p:=⟨_,List.getElem?_eq_getElem hpl⟩
   have hSp:S p:=hSy p (List.mem_of_getElem? hp)
   rw[B5,dif_pos hsp,hp]at hsd
   ((refine AG (AB (by assumption) (by kernel_rfl)) ?_ rfl;(with_reducible refine FF (NE (AQ Gt) Bl) Bl ?_)))
   refine Fa (by exact Kv hsp) ?_
   rw[show((n:Int) - 1) / 2=(((n - 1) / 2:Nat):Int)by exact Ku hsp]
   ((refine AG (AB (by assumption) (by kernel_rfl)) ?_ rfl;(with_reducible refine A3 (AQ Gt) (AQ Gt) ?_)))
   refine AK (AA _ _ _) (p:=p) (by simp only[AC,BD];exact hp) ?_
   refine AI (Af ?_)
   (with_reducible refine A7 (AQ Gt) (AQ Gt) ?_)
   refine hc x p hSx hSp _ _ _ hu ⟨_,rfl,?_⟩
   cases hl:lt x p with
   | true =>
    refine An ?_
    simp only[hl,if_true]at hsd
    ((refine Ac ?_ rfl;(with_reducible refine V ?_ Gt;refine V ?_ Gt;refine V ?_ Gt)))
    refine BZ (AA _ _ _) (by exact Int.natCast_nonneg _) (by exact Int.ofNat_lt.mpr hn) ?_
    rw[AH.set_set,Int.toNat_natCast]
    ((refine AG (AB (by assumption) (by kernel_rfl)) ?_ rfl;(with_reducible refine V ?_ Gt)))
    refine AI (E3 ?_)
    refine⟨(n - 1) / 2,by exact Hx hsp,_,?_,ys.set n p,by rw[List.length_set];exact hpl,by rw[List.length_set];exact hlen,fun y hy=>?_,rfl,hsd,rfl⟩
    ·(exact Le)
    ·rcases List.mem_or_eq_of_mem_set hy with h | h
     ·exact hSy y h
     ·rw[h];exact hSp
   | false =>
    refine A1 ?_
    simp only[hl,Bool.false_eq_true,if_false]at hsd
    refine AF (AI (Id ?_))
    ((refine Ac ?_ rfl;(with_reducible refine V ?_ Gt;refine V ?_ Gt;refine V ?_ Gt)))
    refine BZ (AA _ _ _) (by exact Int.natCast_nonneg _) (by exact Int.ofNat_lt.mpr hn) ?_
    simp only[AH.set_set,Int.toNat_natCast,hsd]
    exact AF hQ
  ·refine⟨false,by simp[hsp],?_⟩
   refine A1 ?_
   rw[B5,dif_neg hsp]at hsd
   ((refine Ac ?_ rfl;(with_reducible refine V ?_ Gt;refine V ?_ Gt;refine V ?_ Gt)))
   refine BZ (AA _ _ _) (by exact Int.natCast_nonneg _) (by exact Int.ofNat_lt.mpr hn) ?_
   simp only[AH.set_set,Int.toNat_natCast,hsd]
   exact AF hQ

noncomputable def EK(b:List Stmt)(i j:Nat):List Stmt:=match b[i]? with
 | some (.While _ body _ _)=>body.drop j
 | _=>[]
theorem EQ{G:Cx}{A:Around}{H:AH}{Q:PV→AH→Prop}{S:PV→Prop}{lt:PV→PV→Bool}{a:Addr}{xs:List PV}{start:Nat}{x:PV}(hK:G.K=KK G)(hA:A.depth<890∧A.units<8900)(hc:HY G S lt)
  (hH:H a=some (.lst xs)) (hS:∀ y∈xs,S y) (hx:xs[start]?=some x) (hQ:Q .none (H.set a (.lst (F7 lt start x xs)))) :
  OpL G A (fun vs=>call (.ref 70) vs) [.ref a,.int start] H Q:=by
 refine Az (ns:=["heap", "pos"]) (dps:=[]) (dvs:=[]) hK (by kernel_rfl) (Nat.lt_of_lt_of_le hA.1 (by decide)) (fun O=>rfl) ?_ ?_
 ·intro h vs hvs
  refine AJ fun WW9 hW9=>?_
  obtain⟨v1,v2,eq9_0,_,_⟩:=hvs.two_inv
  refine hW9 ?_
  clear hW9 WW9
  subst eq9_0
  kernel_rfl
 intro F hF
 have hu:F.A.units+3<cLine:=hF.lt3 hA.2 (by decide)
 have hFA:F.A.depth<900∧F.A.units<9000:=hF.room hA (by decide) (by decide)
 have hlt:=(List.getElem?_eq_some_iff.mp hx).1
 have hSx:S x:=hS x (List.mem_of_getElem? hx)
 ((dsimp only[Av,List.zip_cons_cons,List.zip_nil_right,List.zip_nil_left,List.cons_append,List.nil_append];rw[show(fun O=>none:Loc)=Loc.nil from rfl]))
 refine AG (AB hF (by kernel_rfl)) (BN "len" hK (AD hF (by kernel_rfl)) (by kernel_rfl) (by decide +kernel) (by decide) ?_) rfl
 (with_reducible refine AN (A0 Gt BV) ?_)
 refine Ck hH ?_
 simp only[AC]
 ((refine AG (AB (by assumption) (by kernel_rfl)) ?_ rfl;(with_reducible refine V ?_ Gt)))
 ((refine AG (AB (by assumption) (by kernel_rfl)) ?_ rfl;(with_reducible refine A3 (AQ Gt) (AQ Gt) ?_)))
 refine AK hH (p:=x) (by simp only[AC,BD];exact hx) ?_
 ((refine AG (AB (by assumption) (by kernel_rfl)) ?_ rfl;(with_reducible apply AZ;refine FF Bl (AQ Gt) ?_)))
 refine Gw (IntMulOk.of_left (by decide)) ?_
 (with_reducible apply Au;apply Bh)
 refine AI (B0 (fun n σ' H'=>∃ pos ys,n=xs.length - pos∧pos<ys.length∧ys.length=xs.length∧(∀ y∈ys,S y)∧H'=H.set a (.lst ys)∧Dt lt pos ys=Dt lt start xs ∧
  σ'=(((((Loc.nil.set "heap" (.ref a)).set "startpos" (.int start)).set "pos" (.int pos)).set "newitem" x).set "endpos" (.int xs.length)).set "childpos" (.int (2*pos+1))) (xs.length - start)
  ⟨_,?_,start,xs,rfl,hlt,rfl,hS,(Bk hH).symm,rfl,rfl⟩ ?_)
 ·(exact Le)
 ·intro n _ _ zq9
  refine AJ fun WW9 hW9=>?_
  obtain⟨pos,ys,eq9_0,hn,hlen,hSy,eq9_1,hsd,eq9_2⟩:=zq9
  refine hW9 ?_
  clear hW9 WW9
  subst eq9_0 eq9_1 eq9_2
  (with_reducible refine A7 (AQ Gt) (AQ Gt) ?_;apply Bf)
  by_cases hch:2*pos+1<ys.length
  ·refine⟨true,by simp;exact Kt hch hlen,?_⟩
   refine An ?_
   obtain⟨hcl,hcp⟩:=Cd lt ys pos hch
   obtain⟨l,hl⟩:∃ l,ys[2*pos+1]?=some l:=⟨_,List.getElem?_eq_getElem hch⟩
   obtain⟨c,hcc⟩:∃ c,ys[AY lt ys pos]?=some c:=⟨_,List.getElem?_eq_getElem hcl⟩
   rw[Cz,dif_pos hch,hcc]at hsd
   have hSc:S c:=hSy c (List.mem_of_getElem? hcc)
   have hSl:S l:=hSy l (List.mem_of_getElem? hl)
   have hmem:∀ y∈ys.set pos c,S y:=fun y hy=>by
    rcases List.mem_or_eq_of_mem_set hy with h | h
    ·exact hSy y h
    ·rw[h];exact hSc
   have tail:∀(Post:PF→Loc→AH→Prop) (σ2:Loc) (ch:Int),ch=(AY lt ys pos:Int)→Loc.le ((((((Loc.nil.set "heap" (.ref a)).set "startpos" (.int start)).set "newitem" x).set "endpos" (.int xs.length)).set "pos" (.int pos)).set "childpos" (.int ch)) σ2 →
     (∀ σ3,Loc.le ((((((Loc.nil.set "heap" (.ref a)).set "startpos" (.int start)).set "pos" (.int (AY lt ys pos))).set "newitem" x).set "endpos" (.int xs.length)).set "childpos" (.int (2*(AY lt ys pos)+1))) σ3→Post .next σ3 (H.set a (.lst (ys.set pos c)))) →
     Exs G F (EK (BC (fnOf (KK G) 70)) 4 2) σ2 (H.set a (.lst ys)) Post:=by
    intro Post σ2 ch hch hσ hP
    subst hch
    refine Exs.le ?_ hσ
    show Exs G F (_::_) _ _ _
    ((refine Ac ?_ rfl;(with_reducible refine A3 (AQ Gt) (AQ Gt) ?_)))
    refine AK (AA _ _ _) (p:=c) (by simp only[AC,BD];exact hcc) ?_
    (with_reducible refine V ?_ Gt;refine V ?_ Gt)
    refine BZ (AA _ _ _) (by exact Int.natCast_nonneg _) (by exact Int.ofNat_lt.mpr hn) ?_
    simp only[AH.set_set,Int.toNat_natCast]
    ((refine AG (AB (by assumption) (by kernel_rfl)) ?_ rfl;(with_reducible refine V ?_ Gt)))
    ((refine AG (AB (by assumption) (by kernel_rfl)) ?_ rfl;(with_reducible apply AZ;refine FF Bl (AQ Gt) ?_)))
    refine Gw (IntMulOk.of_left (by decide)) ?_
    (with_reducible apply Au;apply Bh)
    refine AF (hP _ ?_)
    (exact Le)
   have next:∀ σ3,Loc.le ((((((Loc.nil.set "heap" (.ref a)).set "startpos" (.int start)).set "pos" (.int (AY lt ys pos))).set "newitem" x).set "endpos" (.int xs.length)).set "childpos" (.int (2*(AY lt ys pos)+1))) σ3→∃ m,m<xs.length - pos∧∃ σ'',Loc.le σ'' σ3∧∃ pos' ys',m=xs.length - pos'∧pos'<ys'.length∧ys'.length=xs.length∧(∀ y∈ys',S y)∧H.set a (.lst (ys.set pos c))=H.set a (.lst ys')∧Dt lt pos' ys'=Dt lt start xs ∧
     σ''=(((((Loc.nil.set "heap" (.ref a)).set "startpos" (.int start)).set "pos" (.int pos')).set "newitem" x).set "endpos" (.int xs.length)).set "childpos" (.int (2*pos'+1)):=fun σ3 hσ =>
    ⟨xs.length - AY lt ys pos,by exact Ks hcp hn hlen,_,hσ,AY lt ys pos,ys.set pos c,rfl,by rw[List.length_set];exact hcl,by rw[List.length_set];exact hlen,hmem,rfl,hsd,rfl⟩
   ((refine AG (AB (by assumption) (by kernel_rfl)) ?_ rfl;(with_reducible refine Gh (Cs (AQ Gt) Bl) ?_)))
   refine AI (Af ?_)
   (with_reducible apply FL;refine A7 (AQ Gt) (AQ Gt) ?_;apply Bf)
   by_cases hr:2*pos+2<ys.length
   ·refine⟨true,by simp;exact Kr hr hlen,?_⟩
    refine An ?_
    obtain⟨r,hrr⟩:∃ r,ys[2*pos+2]?=some r:=⟨_,List.getElem?_eq_getElem hr⟩
    have hSr:S r:=hSy r (List.mem_of_getElem? hrr)
    (with_reducible apply DQ;refine Am ?_;refine A3 (AQ Gt) (AQ Gt) ?_)
    refine AK (AA _ _ _) (p:=l) (by rw[AC,Dw (j:=2*pos+1) (by exact rfl)];exact hl) ?_
    (with_reducible refine A3 (AQ Gt) (AQ Gt) ?_)
    refine AK (AA _ _ _) (p:=r) (by rw[AC,Dw (j:=2*pos+2) (by exact rfl)];exact hrr) ?_
    refine hc l r hSl hSr _ _ _ hu ⟨_,rfl,?_⟩
    cases hlr:lt l r with
    | false =>
     have ec:AY lt ys pos=2*pos+2:=by unfold AY;rw[if_pos ⟨hr,by rw[hl,hrr];exact hlr⟩]
     refine An ?_
     ((refine AG (AB (by assumption) (by kernel_rfl)) ?_ rfl;(with_reducible refine V ?_ Gt)))
     refine AF (tail _ _ (2*(pos:Int)+1+1) ?_ ?_ next)
     ·rw[ec];exact rfl
     ·(exact Le)
    | true =>
     have ec:AY lt ys pos=2*pos+1:=by unfold AY;rw[if_neg (by rw[hl,hrr];intro h;simp only[hlr]at h;exact absurd h.2 (by decide))]
     refine A1 ?_
     refine AF (tail _ _ (2*(pos:Int)+1) ?_ ?_ next)
     ·rw[ec];rfl
     ·(exact Le)
   ·refine⟨false,by simp;exact Kq hlen hr,?_⟩
    refine A1 ?_
    have ec:AY lt ys pos=2*pos+1:=by unfold AY;rw[if_neg (fun h=>hr h.1)]
    refine AF (tail _ _ (2*(pos:Int)+1) ?_ ?_ next)
    ·rw[ec];rfl
    ·(exact Le)
  ·refine⟨false,by simp;exact Ko hlen hch,?_⟩
   refine A1 ?_
   rw[Cz,dif_neg hch]at hsd
   ((refine Ac ?_ rfl;(with_reducible refine V ?_ Gt;refine V ?_ Gt;refine V ?_ Gt)))
   refine BZ (AA _ _ _) (by exact Int.natCast_nonneg _) (by exact Int.ofNat_lt.mpr hn) ?_
   simp only[AH.set_set,Int.toNat_natCast]
   refine Ae (A9 (fa:=63) hK (AD hF (by kernel_rfl)) (by kernel_rfl) (by kernel_rfl) ?_) rfl
   (with_reducible refine AN (A0 Gt (A0 Gt (A0 Gt BV))) ?_)
   refine Eo hK hFA hc (AA _ _ _) (x:=x) (fun y hy=>?_) (by rw[List.getElem?_set_self hn]) ?_
   ·rcases List.mem_or_eq_of_mem_set hy with h | h
    ·exact hSy y h
    ·rw[h];exact hSx
   simp only[AH.set_set]
   refine AF ?_
   have hfin:B9 lt start x pos (ys.set pos x)=F7 lt start x xs:=by unfold F7;rw[← hsd]
   rw[hfin];exact hQ

theorem Es{G:Cx}{A:Around}{H:AH}{Q:PV→AH→Prop}{S:PV→Prop}{lt:PV→PV→Bool}{a:Addr}{xs:List PV}{x:PV}(hK:G.K=KK G)(hA:A.depth<880∧A.units<8800)(hc:HY G S lt)
  (hH:H a=some (.lst xs)) (hS:∀ y∈xs,S y) (hSx:S x) (hz:xs.length<sizeLine) (hQ:Q .none (H.set a (.lst (D6 lt x xs)))) :
  OpL G A (fun vs=>call (.ref 21) vs) [.ref a,x] H Q:=by
 refine Az (ns:=["heap", "item"]) (dps:=[]) (dvs:=[]) hK (by kernel_rfl) (Nat.lt_of_lt_of_le hA.1 (by decide)) (fun O=>rfl) ?_ ?_
 ·intro h vs hvs
  obtain⟨v1,v2,rfl,_,_⟩:=hvs.two_inv
  kernel_rfl
 intro F hF
 have hFA:F.A.depth<900∧F.A.units<9000:=hF.room hA (by decide) (by decide)
 ((dsimp only[Av,List.zip_cons_cons,List.zip_nil_right,List.zip_nil_left,List.cons_append,List.nil_append];rw[show(fun O=>none:Loc)=Loc.nil from rfl]))
 refine Ae (F3 PySem.F.slot_list_append rfl ?_ rfl rfl) rfl
 (with_reducible refine V ?_ Gt)
 refine⟨a,_,rfl,hH,?_⟩
 (with_reducible refine AN (A0 Gt BV) ?_)
 refine GR hH hz ?_
 refine Ae (A9 (fa:=63) hK (AD hF (by kernel_rfl)) (by kernel_rfl) (by kernel_rfl) ?_) rfl
 (with_reducible refine BR (AQ Gt) ?_;refine BR Bl ?_;refine AM ?_;apply AZ)
 refine BN "len" hK (AD hF (by kernel_rfl)) (by kernel_rfl) (by decide +kernel) (by decide) ?_
 (with_reducible refine AN (A0 Gt BV) ?_)
 refine Ck (AA _ _ _) ?_
 (with_reducible apply Au;apply CL;apply AP)
 simp only[show((HO.lst (xs++[x])).items.length:Int) - 1=(xs.length:Int)by rw[AC,List.length_append];simp]
 refine Eo hK hFA hc (start:=0) (AA _ _ _) (x:=x) (fun y hy=>?_) (by simp) ?_
 ·rcases List.mem_append.mp hy with h | h
  ·exact hS y h
  ·rw[List.mem_singleton.mp h];exact hSx
 simp only[AH.set_set]
 exact AF hQ

theorem Gs{G:Cx}{A:Around}{H:AH}{Q:PV→AH→Prop}{S:PV→Prop}{lt:PV→PV→Bool}{a:Addr}{xs:List PV}{start pos:Nat}{x:PV}(hK:G.K=KK G)(hA:A.depth<900∧A.units<9000)(hc:HY G S fun x y=>lt y x)
  (hH:H a=some (.lst xs)) (hS:∀ y∈xs,S y) (hx:xs[pos]?=some x) (hQ:Q .none (H.set a (.lst (B9 lt start x pos xs)))) :
  OpL G A (fun vs=>call (.ref 77) vs) [.ref a,.int start,.int pos] H Q:=by
 refine Az (ns:=["heap", "startpos", "pos"]) (dps:=[]) (dvs:=[]) hK (by kernel_rfl) (Nat.lt_of_lt_of_le hA.1 (by decide)) (fun O=>rfl) ?_ ?_
 ·intro h vs hvs
  refine AJ fun WW9 hW9=>?_
  obtain⟨v1,v2,v3,eq9_0,_,_,_⟩:=hvs.three_inv
  refine hW9 ?_
  clear hW9 WW9
  subst eq9_0
  kernel_rfl
 intro F hF
 have hu:F.A.units+3<cLine:=hF.lt3 hA.2 (by decide)
 have hlt:=(List.getElem?_eq_some_iff.mp hx).1
 have hSx:S x:=hS x (List.mem_of_getElem? hx)
 ((dsimp only[Av,List.zip_cons_cons,List.zip_nil_right,List.zip_nil_left,List.cons_append,List.nil_append];rw[show(fun O=>none:Loc)=Loc.nil from rfl]))
 ((refine AG (AB (by assumption) (by kernel_rfl)) ?_ rfl;(with_reducible refine A3 (AQ Gt) (AQ Gt) ?_)))
 refine AK hH (p:=x) (by simp only[AC,BD];exact hx) ?_
 refine AI (B0 (fun n σ' H'=>∃ ys,n<ys.length∧ys.length=xs.length∧(∀ y∈ys,S y)∧H'=H.set a (.lst ys)∧B9 lt start x n ys=B9 lt start x pos xs ∧
  σ'=(((Loc.nil.set "heap" (.ref a)).set "startpos" (.int start)).set "pos" (.int n)).set "newitem" x) pos ⟨_,?_,xs,hlt,rfl,hS,(Bk hH).symm,rfl,rfl⟩ ?_)
 ·(exact Le)
 ·intro n _ _ zq9
  refine AJ fun WW9 hW9=>?_
  obtain⟨ys,hn,hlen,hSy,eq9_0,hsd,eq9_1⟩:=zq9
  refine hW9 ?_
  clear hW9 WW9
  subst eq9_0 eq9_1
  (with_reducible refine A7 (AQ Gt) (AQ Gt) ?_;apply D1)
  by_cases hsp:start<n
  ·refine⟨true,by simp[hsp],?_⟩
   refine An ?_
   have hpl:(n - 1) / 2<ys.length:=by exact GS hn
   obtain⟨p,hp⟩:∃ p,ys[(n - 1) / 2]?=some p:=⟨_,List.getElem?_eq_getElem hpl⟩
   have hSp:S p:=hSy p (List.mem_of_getElem? hp)
   rw[B5,dif_pos hsp,hp]at hsd
   ((refine AG (AB (by assumption) (by kernel_rfl)) ?_ rfl;(with_reducible refine FF (NE (AQ Gt) Bl) Bl ?_)))
   refine Fa (by exact Kv hsp) ?_
   rw[show((n:Int) - 1) / 2=(((n - 1) / 2:Nat):Int)by exact Ku hsp]
   ((refine AG (AB (by assumption) (by kernel_rfl)) ?_ rfl;(with_reducible refine A3 (AQ Gt) (AQ Gt) ?_)))
   refine AK (AA _ _ _) (p:=p) (by simp only[AC,BD];exact hp) ?_
   refine AI (Af ?_)
   (with_reducible refine A7 (AQ Gt) (AQ Gt) ?_)
   refine hc p x hSp hSx _ _ _ hu ⟨lt x p,rfl,?_⟩
   cases hl:lt x p with
   | true =>
    refine An ?_
    simp only[hl,if_true]at hsd
    ((refine Ac ?_ rfl;(with_reducible refine V ?_ Gt;refine V ?_ Gt;refine V ?_ Gt)))
    refine BZ (AA _ _ _) (by exact Int.natCast_nonneg _) (by exact Int.ofNat_lt.mpr hn) ?_
    rw[AH.set_set,Int.toNat_natCast]
    ((refine AG (AB (by assumption) (by kernel_rfl)) ?_ rfl;(with_reducible refine V ?_ Gt)))
    refine AI (E3 ?_)
    refine⟨(n - 1) / 2,by exact Hx hsp,_,?_,ys.set n p,by rw[List.length_set];exact hpl,by rw[List.length_set];exact hlen,fun y hy=>?_,rfl,hsd,rfl⟩
    ·(exact Le)
    ·rcases List.mem_or_eq_of_mem_set hy with h | h
     ·exact hSy y h
     ·rw[h];exact hSp
   | false =>
    refine A1 ?_
    simp only[hl,Bool.false_eq_true,if_false]at hsd
    refine AF (AI (Id ?_))
    ((refine Ac ?_ rfl;(with_reducible refine V ?_ Gt;refine V ?_ Gt;refine V ?_ Gt)))
    refine BZ (AA _ _ _) (by exact Int.natCast_nonneg _) (by exact Int.ofNat_lt.mpr hn) ?_
    simp only[AH.set_set,Int.toNat_natCast,hsd]
    exact AF hQ
  ·refine⟨false,by simp[hsp],?_⟩
   refine A1 ?_
   rw[B5,dif_neg hsp]at hsd
   ((refine Ac ?_ rfl;(with_reducible refine V ?_ Gt;refine V ?_ Gt;refine V ?_ Gt)))
   refine BZ (AA _ _ _) (by exact Int.natCast_nonneg _) (by exact Int.ofNat_lt.mpr hn) ?_
   simp only[AH.set_set,Int.toNat_natCast,hsd]
   exact AF hQ

theorem FU{G:Cx}{A:Around}{H:AH}{Q:PV→AH→Prop}{S:PV→Prop}{lt:PV→PV→Bool}{a:Addr}{xs:List PV}{start:Nat}{x:PV}(hK:G.K=KK G)(hA:A.depth<890∧A.units<8900)(hc:HY G S fun x y=>lt y x)
  (hH:H a=some (.lst xs)) (hS:∀ y∈xs,S y) (hx:xs[start]?=some x) (hQ:Q .none (H.set a (.lst (F7 lt start x xs)))) :
  OpL G A (fun vs=>call (.ref 84) vs) [.ref a,.int start] H Q:=by
 refine Az (ns:=["heap", "pos"]) (dps:=[]) (dvs:=[]) hK (by kernel_rfl) (Nat.lt_of_lt_of_le hA.1 (by decide)) (fun O=>rfl) ?_ ?_
 ·intro h vs hvs
  refine AJ fun WW9 hW9=>?_
  obtain⟨v1,v2,eq9_0,_,_⟩:=hvs.two_inv
  refine hW9 ?_
  clear hW9 WW9
  subst eq9_0
  kernel_rfl
 intro F hF
 have hu:F.A.units+3<cLine:=hF.lt3 hA.2 (by decide)
 have hFA:F.A.depth<900∧F.A.units<9000:=hF.room hA (by decide) (by decide)
 have hlt:=(List.getElem?_eq_some_iff.mp hx).1
 have hSx:S x:=hS x (List.mem_of_getElem? hx)
 ((dsimp only[Av,List.zip_cons_cons,List.zip_nil_right,List.zip_nil_left,List.cons_append,List.nil_append];rw[show(fun O=>none:Loc)=Loc.nil from rfl]))
 refine AG (AB hF (by kernel_rfl)) (BN "len" hK (AD hF (by kernel_rfl)) (by kernel_rfl) (by decide +kernel) (by decide) ?_) rfl
 (with_reducible refine AN (A0 Gt BV) ?_)
 refine Ck hH ?_
 simp only[AC]
 ((refine AG (AB (by assumption) (by kernel_rfl)) ?_ rfl;(with_reducible refine V ?_ Gt)))
 ((refine AG (AB (by assumption) (by kernel_rfl)) ?_ rfl;(with_reducible refine A3 (AQ Gt) (AQ Gt) ?_)))
 refine AK hH (p:=x) (by simp only[AC,BD];exact hx) ?_
 ((refine AG (AB (by assumption) (by kernel_rfl)) ?_ rfl;(with_reducible apply AZ;refine FF Bl (AQ Gt) ?_)))
 refine Gw (IntMulOk.of_left (by decide)) ?_
 (with_reducible apply Au;apply Bh)
 refine AI (B0 (fun n σ' H'=>∃ pos ys,n=xs.length - pos∧pos<ys.length∧ys.length=xs.length∧(∀ y∈ys,S y)∧H'=H.set a (.lst ys)∧Dt lt pos ys=Dt lt start xs ∧
  σ'=(((((Loc.nil.set "heap" (.ref a)).set "startpos" (.int start)).set "pos" (.int pos)).set "newitem" x).set "endpos" (.int xs.length)).set "childpos" (.int (2*pos+1))) (xs.length - start)
  ⟨_,?_,start,xs,rfl,hlt,rfl,hS,(Bk hH).symm,rfl,rfl⟩ ?_)
 ·(exact Le)
 ·intro n _ _ zq9
  refine AJ fun WW9 hW9=>?_
  obtain⟨pos,ys,eq9_0,hn,hlen,hSy,eq9_1,hsd,eq9_2⟩:=zq9
  refine hW9 ?_
  clear hW9 WW9
  subst eq9_0 eq9_1 eq9_2
  (with_reducible refine A7 (AQ Gt) (AQ Gt) ?_;apply Bf)
  by_cases hch:2*pos+1<ys.length
  ·refine⟨true,by simp;exact Kt hch hlen,?_⟩
   refine An ?_
   obtain⟨hcl,hcp⟩:=Cd lt ys pos hch
   obtain⟨l,hl⟩:∃ l,ys[2*pos+1]?=some l:=⟨_,List.getElem?_eq_getElem hch⟩
   obtain⟨c,hcc⟩:∃ c,ys[AY lt ys pos]?=some c:=⟨_,List.getElem?_eq_getElem hcl⟩
   rw[Cz,dif_pos hch,hcc]at hsd
   have hSc:S c:=hSy c (List.mem_of_getElem? hcc)
   have hSl:S l:=hSy l (List.mem_of_getElem? hl)
   have hmem:∀ y∈ys.set pos c,S y:=fun y hy=>by
    rcases List.mem_or_eq_of_mem_set hy with h | h
    ·exact hSy y h
    ·rw[h];exact hSc
   have tail:∀(Post:PF→Loc→AH→Prop) (σ2:Loc) (ch:Int),ch=(AY lt ys pos:Int)→Loc.le ((((((Loc.nil.set "heap" (.ref a)).set "startpos" (.int start)).set "newitem" x).set "endpos" (.int xs.length)).set "pos" (.int pos)).set "childpos" (.int ch)) σ2 →
     (∀ σ3,Loc.le ((((((Loc.nil.set "heap" (.ref a)).set "startpos" (.int start)).set "pos" (.int (AY lt ys pos))).set "newitem" x).set "endpos" (.int xs.length)).set "childpos" (.int (2*(AY lt ys pos)+1))) σ3→Post .next σ3 (H.set a (.lst (ys.set pos c)))) →
     Exs G F (EK (BC (fnOf (KK G) 84)) 4 2) σ2 (H.set a (.lst ys)) Post:=by
    intro Post σ2 ch hch hσ hP
    subst hch
    refine Exs.le ?_ hσ
    show Exs G F (_::_) _ _ _
    ((refine Ac ?_ rfl;(with_reducible refine A3 (AQ Gt) (AQ Gt) ?_)))
    refine AK (AA _ _ _) (p:=c) (by simp only[AC,BD];exact hcc) ?_
    (with_reducible refine V ?_ Gt;refine V ?_ Gt)
    refine BZ (AA _ _ _) (by exact Int.natCast_nonneg _) (by exact Int.ofNat_lt.mpr hn) ?_
    simp only[AH.set_set,Int.toNat_natCast]
    ((refine AG (AB (by assumption) (by kernel_rfl)) ?_ rfl;(with_reducible refine V ?_ Gt)))
    ((refine AG (AB (by assumption) (by kernel_rfl)) ?_ rfl;(with_reducible apply AZ;refine FF Bl (AQ Gt) ?_)))
    refine Gw (IntMulOk.of_left (by decide)) ?_
    (with_reducible apply Au;apply Bh)
    refine AF (hP _ ?_)
    (exact Le)
   have next:∀ σ3,Loc.le ((((((Loc.nil.set "heap" (.ref a)).set "startpos" (.int start)).set "pos" (.int (AY lt ys pos))).set "newitem" x).set "endpos" (.int xs.length)).set "childpos" (.int (2*(AY lt ys pos)+1))) σ3→∃ m,m<xs.length - pos∧∃ σ'',Loc.le σ'' σ3∧∃ pos' ys',m=xs.length - pos'∧pos'<ys'.length∧ys'.length=xs.length∧(∀ y∈ys',S y)∧H.set a (.lst (ys.set pos c))=H.set a (.lst ys')∧Dt lt pos' ys'=Dt lt start xs ∧
     σ''=(((((Loc.nil.set "heap" (.ref a)).set "startpos" (.int start)).set "pos" (.int pos')).set "newitem" x).set "endpos" (.int xs.length)).set "childpos" (.int (2*pos'+1)):=fun σ3 hσ =>
    ⟨xs.length - AY lt ys pos,by exact Ks hcp hn hlen,_,hσ,AY lt ys pos,ys.set pos c,rfl,by rw[List.length_set];exact hcl,by rw[List.length_set];exact hlen,hmem,rfl,hsd,rfl⟩
   ((refine AG (AB (by assumption) (by kernel_rfl)) ?_ rfl;(with_reducible refine Gh (Cs (AQ Gt) Bl) ?_)))
   refine AI (Af ?_)
   (with_reducible apply FL;refine A7 (AQ Gt) (AQ Gt) ?_;apply Bf)
   by_cases hr:2*pos+2<ys.length
   ·refine⟨true,by simp;exact Kr hr hlen,?_⟩
    refine An ?_
    obtain⟨r,hrr⟩:∃ r,ys[2*pos+2]?=some r:=⟨_,List.getElem?_eq_getElem hr⟩
    have hSr:S r:=hSy r (List.mem_of_getElem? hrr)
    (with_reducible apply DQ;refine Am ?_;refine A3 (AQ Gt) (AQ Gt) ?_)
    refine AK (AA _ _ _) (p:=r) (by rw[AC,Dw (j:=2*pos+2) (by exact rfl)];exact hrr) ?_
    (with_reducible refine A3 (AQ Gt) (AQ Gt) ?_)
    refine AK (AA _ _ _) (p:=l) (by rw[AC,Dw (j:=2*pos+1) (by exact rfl)];exact hl) ?_
    refine hc r l hSr hSl _ _ _ hu ⟨lt l r,rfl,?_⟩
    cases hlr:lt l r with
    | false =>
     have ec:AY lt ys pos=2*pos+2:=by unfold AY;rw[if_pos ⟨hr,by rw[hl,hrr];exact hlr⟩]
     refine An ?_
     ((refine AG (AB (by assumption) (by kernel_rfl)) ?_ rfl;(with_reducible refine V ?_ Gt)))
     refine AF (tail _ _ (2*(pos:Int)+1+1) ?_ ?_ next)
     ·rw[ec];exact rfl
     ·(exact Le)
    | true =>
     have ec:AY lt ys pos=2*pos+1:=by unfold AY;rw[if_neg (by rw[hl,hrr];intro h;simp only[hlr]at h;exact absurd h.2 (by decide))]
     refine A1 ?_
     refine AF (tail _ _ (2*(pos:Int)+1) ?_ ?_ next)
     ·rw[ec];rfl
     ·(exact Le)
   ·refine⟨false,by simp;exact Kq hlen hr,?_⟩
    refine A1 ?_
    have ec:AY lt ys pos=2*pos+1:=by unfold AY;rw[if_neg (fun h=>hr h.1)]
    refine AF (tail _ _ (2*(pos:Int)+1) ?_ ?_ next)
    ·rw[ec];rfl
    ·(exact Le)
  ·refine⟨false,by simp;exact Ko hlen hch,?_⟩
   refine A1 ?_
   rw[Cz,dif_neg hch]at hsd
   ((refine Ac ?_ rfl;(with_reducible refine V ?_ Gt;refine V ?_ Gt;refine V ?_ Gt)))
   refine BZ (AA _ _ _) (by exact Int.natCast_nonneg _) (by exact Int.ofNat_lt.mpr hn) ?_
   simp only[AH.set_set,Int.toNat_natCast]
   refine Ae (A9 (fa:=77) hK (AD hF (by kernel_rfl)) (by kernel_rfl) (by kernel_rfl) ?_) rfl
   (with_reducible refine AN (A0 Gt (A0 Gt (A0 Gt BV))) ?_)
   refine Gs hK hFA hc (AA _ _ _) (x:=x) (fun y hy=>?_) (by rw[List.getElem?_set_self hn]) ?_
   ·rcases List.mem_or_eq_of_mem_set hy with h | h
    ·exact hSy y h
    ·rw[h];exact hSx
   simp only[AH.set_set]
   refine AF ?_
   have hfin:B9 lt start x pos (ys.set pos x)=F7 lt start x xs:=by unfold F7;rw[← hsd]
   rw[hfin];exact hQ


theorem I2{G:Cx}{A:Around}{H:AH}{Q:PV→AH→Prop}{S:PV→Prop}{lt:PV→PV→Bool}{a:Addr}{ys:List PV}{x:PV}(hK:G.K=KK G)(hA:A.depth<880∧A.units<8800)(hc:HY G S lt)
  (hH:H a=some (.lst (ys++[x]))) (hS:∀ y∈ys++[x],S y) (hQ:Q (FB lt ys x).1 (H.set a (.lst (FB lt ys x).2))) :
  OpL G A (fun vs=>call (.ref 28) vs) [.ref a] H Q:=by
 refine Az (ns:=["heap"]) (dps:=[]) (dvs:=[]) hK (by kernel_rfl) (Nat.lt_of_lt_of_le hA.1 (by decide)) (fun O=>rfl) ?_ ?_
 ·intro h vs hvs
  obtain⟨v1,rfl,_⟩:=hvs.one_inv
  kernel_rfl
 intro F hF
 have hFA:F.A.depth<890∧F.A.units<8900:=hF.room hA (by decide) (by decide)
 ((dsimp only[Av,List.zip_cons_cons,List.zip_nil_right,List.zip_nil_left,List.cons_append,List.nil_append];rw[show(fun O=>none:Loc)=Loc.nil from rfl]))
 refine AG (AB hF (by kernel_rfl)) (Ei PySem.F.slot_list_pop rfl ?_ rfl rfl) rfl
 (with_reducible refine V ?_ Gt)
 refine⟨a,_,rfl,hH,NL hH ?_⟩
 refine AI (Af (EJ ?_))
 (with_reducible refine V ?_ Gt)
 refine D3 (AA _ _ _) ?_
 dsimp only[AC]
 cases ys with
 | nil =>
  simp only[List.isEmpty_nil,Bool.not_true,Bool.false_eq_true,if_false]
  refine AF (AR ?_)
  (with_reducible refine V ?_ Gt)
  exact hQ
 | cons y r =>
  simp only[List.isEmpty_cons,Bool.not_false,if_true]
  ((refine AG (AB (by assumption) (by kernel_rfl)) ?_ rfl;(with_reducible refine A3 (AQ Gt) Bl ?_)))
  refine AK (AA _ _ _) (p:=y) rfl ?_
  ((refine Ac ?_ rfl;(with_reducible refine V ?_ Gt;refine V ?_ Gt;apply Au)))
  refine BZ (AA _ _ _) (by decide) (by simp only[List.length_cons];exact Int.natCast_pos.mpr (Nat.succ_pos _)) ?_
  refine Ae (A9 (fa:=70) hK (AD hF (by kernel_rfl)) (by kernel_rfl) (by kernel_rfl) ?_) rfl
  (with_reducible refine AN (A0 Gt (JK Bl BV)) ?_)
  refine EQ (start:=0) hK hFA hc (AA _ _ _) (x:=x) (fun z hz=>?_) rfl ?_
  ·rcases List.mem_cons.mp hz with rfl | h
   ·exact hS _ (List.mem_append_right _ (List.mem_singleton.mpr rfl))
   ·exact hS z (List.mem_append_left _ (List.mem_cons_of_mem _ h))
  simp only[AH.set_set,AH.set_set]
  refine AR ?_
  (with_reducible refine V ?_ Gt)
  exact hQ

theorem CN{G:Cx}{A:Around}{H:AH}{Q:PV→AH→Prop}{S:PV→Prop}{lt:PV→PV→Bool}{a:Addr}{y x:PV}{r:List PV}(hK:G.K=KK G)(hA:A.depth<880∧A.units<8800)(hc:HY G S lt)
  (hH:H a=some (.lst (y::r))) (hS:∀ z∈r,S z) (hSx:S x) (hQ:Q y (H.set a (.lst (F7 lt 0 x (x::r))))) :
  OpL G A (fun vs=>call (.ref 35) vs) [.ref a,x] H Q:=by
 refine Az (ns:=["heap", "item"]) (dps:=[]) (dvs:=[]) hK (by kernel_rfl) (Nat.lt_of_lt_of_le hA.1 (by decide)) (fun O=>rfl) ?_ ?_
 ·intro h vs hvs
  obtain⟨v1,v2,rfl,_,_⟩:=hvs.two_inv
  kernel_rfl
 intro F hF
 have hFA:F.A.depth<890∧F.A.units<8900:=hF.room hA (by decide) (by decide)
 ((dsimp only[Av,List.zip_cons_cons,List.zip_nil_right,List.zip_nil_left,List.cons_append,List.nil_append];rw[show(fun O=>none:Loc)=Loc.nil from rfl]))
 ((refine AG (AB (by assumption) (by kernel_rfl)) ?_ rfl;(with_reducible refine A3 (AQ Gt) Bl ?_)))
 refine AK hH (p:=y) rfl ?_
 ((refine Ac ?_ rfl;(with_reducible refine V ?_ Gt;refine V ?_ Gt;apply Au)))
 refine BZ hH (by decide) (by simp only[List.length_cons];exact Int.natCast_pos.mpr (Nat.succ_pos _)) ?_
 refine Ae (A9 (fa:=70) hK (AD hF (by kernel_rfl)) (by kernel_rfl) (by kernel_rfl) ?_) rfl
 (with_reducible refine AN (A0 Gt (JK Bl BV)) ?_)
 refine EQ (start:=0) hK hFA hc (AA _ _ _) (x:=x) (fun z hz=>?_) rfl ?_
 ·rcases List.mem_cons.mp hz with rfl | h
  ·exact hSx
  ·exact hS z h
 simp only[AH.set_set]
 refine AR ?_
 (with_reducible refine V ?_ Gt)
 exact hQ
theorem Cr{G:Cx}{A:Around}{H:AH}{Q:PV→AH→Prop}{S:PV→Prop}{lt:PV→PV→Bool}{a:Addr}{y x:PV}{r:List PV}(hK:G.K=KK G)(hA:A.depth<880∧A.units<8800)(hc:HY G S fun x y=>lt y x)
  (hH:H a=some (.lst (y::r))) (hS:∀ z∈r,S z) (hSx:S x) (hQ:Q y (H.set a (.lst (F7 lt 0 x (x::r))))) :
  OpL G A (fun vs=>call (.ref 49) vs) [.ref a,x] H Q:=by
 refine Az (ns:=["heap", "item"]) (dps:=[]) (dvs:=[]) hK (by kernel_rfl) (Nat.lt_of_lt_of_le hA.1 (by decide)) (fun O=>rfl) ?_ ?_
 ·intro h vs hvs
  obtain⟨v1,v2,rfl,_,_⟩:=hvs.two_inv
  kernel_rfl
 intro F hF
 have hFA:F.A.depth<890∧F.A.units<8900:=hF.room hA (by decide) (by decide)
 ((dsimp only[Av,List.zip_cons_cons,List.zip_nil_right,List.zip_nil_left,List.cons_append,List.nil_append];rw[show(fun O=>none:Loc)=Loc.nil from rfl]))
 ((refine AG (AB (by assumption) (by kernel_rfl)) ?_ rfl;(with_reducible refine A3 (AQ Gt) Bl ?_)))
 refine AK hH (p:=y) rfl ?_
 ((refine Ac ?_ rfl;(with_reducible refine V ?_ Gt;refine V ?_ Gt;apply Au)))
 refine BZ hH (by decide) (by simp only[List.length_cons];exact Int.natCast_pos.mpr (Nat.succ_pos _)) ?_
 refine Ae (A9 (fa:=84) hK (AD hF (by kernel_rfl)) (by kernel_rfl) (by kernel_rfl) ?_) rfl
 (with_reducible refine AN (A0 Gt (JK Bl BV)) ?_)
 refine FU (start:=0) hK hFA hc (AA _ _ _) (x:=x) (fun z hz=>?_) rfl ?_
 ·rcases List.mem_cons.mp hz with rfl | h
  ·exact hSx
  ·exact hS z h
 simp only[AH.set_set]
 refine AR ?_
 (with_reducible refine V ?_ Gt)
 exact hQ

theorem Fn{G:Cx}{A:Around}{H:AH}{Q:PV→AH→Prop}{a:Addr}{α:Type}{f:α→PV}{lt:α→α→Bool}{ltb:PV→PV→Bool}{S:PV→Prop}{xs:List α}(hK:G.K=KK G)(hA:A.depth<880∧A.units<8800)(hh:A.handled=none)(hz:xs.length<1000000)(hc:HY G S ltb)(hSf:∀ x∈xs,S (f x))(hf:∀ x y,ltb (f x) (f y)=lt x y)(o:SWO lt)
  (hH:H a=some (.lst (xs.map f))) (hQ:∀ ys,ys.Perm xs→HeapAt lt 0 ys→Q .none (H.set a (.lst (ys.map f)))) :
  OpL G A (fun vs=>call (.ref 42) vs) [.ref a] H Q:=by
 refine Az (ns:=["x"]) (dps:=[]) (dvs:=[]) hK (by kernel_rfl) (Nat.lt_of_lt_of_le hA.1 (by decide)) (fun O=>rfl) ?_ ?_
 ·intro h vs hvs
  obtain⟨v1,rfl,_⟩:=hvs.one_inv
  kernel_rfl
 intro F hF
 have hFA:F.A.depth<890∧F.A.units<8900:=hF.room hA (by decide) (by decide)
 have hFh:F.A.handled=none:=by rw[hF.handled];exact hh
 ((dsimp only[Av,List.zip_cons_cons,List.zip_nil_right,List.zip_nil_left,List.cons_append,List.nil_append];rw[show(fun O=>none:Loc)=Loc.nil from rfl]))
 refine AG (AB hF (by kernel_rfl)) (BN "len" hK (AD hF (by kernel_rfl)) (by kernel_rfl) (by decide +kernel) (by decide) ?_) rfl
 (with_reducible refine AN (A0 Gt BV) ?_)
 refine FH hH ?_
 refine AI (Gg (n:=xs.length / 2) (inv:=fun i H'=>∃ ys,H'=H.set a (.lst (ys.map f))∧ys.Perm xs∧HeapAt lt i ys) hK hFh (AD hF (by kernel_rfl)) (by kernel_rfl) (by exact Kn hz) ?_ ⟨xs,?_,.refl _,?_⟩ ?_ ?_)
 ·refine CQ "range" hK (AD hF (by kernel_rfl)) (by kernel_rfl) (by decide +kernel) (by decide) ?_
  (with_reducible refine AM ?_;refine FF (AQ Gt) Bl ?_)
  refine B6 (by decide) (by decide) ?_
  (with_reducible apply AP)
  refine BO ⟨?_,rfl⟩
  congr 1
  rw[Int.fdiv_eq_ediv_of_nonneg _ (by decide)];exact rfl
 ·exact(Bk hH).symm
 ·intro k u v hu hv h0 hs
  have:=(List.getElem?_eq_some_iff.mp hu).1
  exact(Km h0 hs this).elim
 ·rintro i _ hi ⟨ys,rfl,hp,hh⟩
  have hl:=hp.length_eq
  refine AL (AB hF (by kernel_rfl)) ?_
  refine Ae (A9 (fa:=70) hK (AD hF (by kernel_rfl)) (by kernel_rfl) (by kernel_rfl) ?_) rfl
  (with_reducible refine AN (A0 Gt (A0 Gt BV)) ?_)
  obtain⟨y,hy⟩:∃ y,ys[i]?=some y:=⟨_,List.getElem?_eq_getElem (by exact G6 hi hl)⟩
  refine EQ (start:=i) hK hFA hc (AA _ _ _) (x:=f y) (fun z hz=>by obtain⟨u,hu',rfl⟩:=List.mem_map.mp hz;exact hSf u (hp.mem_iff.mp (by assumption))) (by rw[List.getElem?_map,hy];rfl) ?_
  simp only[CS (lt:=lt) (ltb:=ltb) f hf,AH.set_set]
  refine AF ⟨rfl,?_,_,rfl,(EL hy).trans hp,FO o y (by exact G6 hi hl) hh⟩
  (exact Le)
 ·rintro _ ⟨ys,rfl,hp,hh⟩
  exact AF (hQ ys hp hh)

theorem Et{G:Cx}{A:Around}{H:AH}{Q:PV→AH→Prop}{a:Addr}{α:Type}{f:α→PV}{lt:α→α→Bool}{ltb:PV→PV→Bool}{S:PV→Prop}{xs:List α}(hK:G.K=KK G)(hA:A.depth<880∧A.units<8800)(hh:A.handled=none)(hz:xs.length<1000000)(hc:HY G S fun x y=>ltb y x)(hSf:∀ x∈xs,S (f x))(hf:∀ x y,ltb (f x) (f y)=lt x y)(o:SWO lt)
  (hH:H a=some (.lst (xs.map f))) (hQ:∀ ys,ys.Perm xs→HeapAt lt 0 ys→Q .none (H.set a (.lst (ys.map f)))) :
  OpL G A (fun vs=>call (.ref 56) vs) [.ref a] H Q:=by
 refine Az (ns:=["x"]) (dps:=[]) (dvs:=[]) hK (by kernel_rfl) (Nat.lt_of_lt_of_le hA.1 (by decide)) (fun O=>rfl) ?_ ?_
 ·intro h vs hvs
  refine AJ fun WW9 hW9=>?_
  obtain⟨v1,eq9_0,_⟩:=hvs.one_inv
  refine hW9 ?_
  clear hW9 WW9
  subst eq9_0
  kernel_rfl
 intro F hF
 have hFA:F.A.depth<890∧F.A.units<8900:=hF.room hA (by decide) (by decide)
 have hFh:F.A.handled=none:=by rw[hF.handled];exact hh
 ((dsimp only[Av,List.zip_cons_cons,List.zip_nil_right,List.zip_nil_left,List.cons_append,List.nil_append];rw[show(fun O=>none:Loc)=Loc.nil from rfl]))
 refine AG (AB hF (by kernel_rfl)) (BN "len" hK (AD hF (by kernel_rfl)) (by kernel_rfl) (by decide +kernel) (by decide) ?_) rfl
 (with_reducible refine AN (A0 Gt BV) ?_)
 refine FH hH ?_
 refine AI (Gg (n:=xs.length / 2) (inv:=fun i H'=>∃ ys,H'=H.set a (.lst (ys.map f))∧ys.Perm xs∧HeapAt lt i ys) hK hFh (AD hF (by kernel_rfl)) (by kernel_rfl) (by exact Kn hz) ?_ ⟨xs,?_,.refl _,?_⟩ ?_ ?_)
 ·refine CQ "range" hK (AD hF (by kernel_rfl)) (by kernel_rfl) (by decide +kernel) (by decide) ?_
  (with_reducible refine AM ?_;refine FF (AQ Gt) Bl ?_)
  refine B6 (by decide) (by decide) ?_
  (with_reducible apply AP)
  refine BO ⟨?_,rfl⟩
  congr 1
  rw[Int.fdiv_eq_ediv_of_nonneg _ (by decide)];exact rfl
 ·exact(Bk hH).symm
 ·intro k u v hu hv h0 hs
  have:=(List.getElem?_eq_some_iff.mp hu).1
  exact(Km h0 hs this).elim
 ·intro i _ hi zq9
  refine AJ fun WW9 hW9=>?_
  obtain⟨ys,eq9_0,hp,hh⟩:=zq9
  refine hW9 ?_
  clear hW9 WW9
  subst eq9_0
  have hl:=hp.length_eq
  refine AL (AB hF (by kernel_rfl)) ?_
  refine Ae (A9 (fa:=84) hK (AD hF (by kernel_rfl)) (by kernel_rfl) (by kernel_rfl) ?_) rfl
  (with_reducible refine AN (A0 Gt (A0 Gt BV)) ?_)
  obtain⟨y,hy⟩:∃ y,ys[i]?=some y:=⟨_,List.getElem?_eq_getElem (by exact G6 hi hl)⟩
  refine FU (start:=i) hK hFA hc (AA _ _ _) (x:=f y) (fun z hz=>by obtain⟨u,hu',rfl⟩:=List.mem_map.mp hz;exact hSf u (hp.mem_iff.mp (by assumption))) (by rw[List.getElem?_map,hy];rfl) ?_
  simp only[CS (lt:=lt) (ltb:=ltb) f hf,AH.set_set]
  refine AF ⟨rfl,?_,_,rfl,(EL hy).trans hp,FO o y (by exact G6 hi hl) hh⟩
  (exact Le)
 ·intro _ zq9
  refine AJ fun WW9 hW9=>?_
  obtain⟨ys,eq9_0,hp,hh⟩:=zq9
  refine hW9 ?_
  clear hW9 WW9
  subst eq9_0
  exact AF (hQ ys hp hh)

theorem EB{G:Cx}{A:Around}{F:Fx}{H:AH}{Q:PV→AH→Prop}{S:PV→Prop}{lt:PV→PV→Bool}{a:Addr}{ho:HO}{lo hi:Nat}{x:PV}{hiV:PV}(hK:G.K=KK G)(hF:FnF A (fnOf (KK G) 114).scope F)(hA:A.depth<890∧A.units<8900)(hc:HY G S lt)
  (hH:H a=some ho) (hS:∀ y∈ho.items,S y) (hSx:S x) (hlo:lo≤hi) (hhi:hi≤ho.items.length) (hv:hiV=.int hi∨(hiV=.none∧hi=ho.items.length)) (hQ:Q (.int (Bi lt x ho.items lo hi)) H) :
  Exs G F (BC (fnOf (KK G) 114)) (((((Loc.nil.set "a" (.ref a)).set "x" x).set "lo" (.int lo)).set "hi" hiV).set "key" .none) H (fun f O H'=>match f with | .ret p=>Q p H' | _=>Q .none H'):=by
 have hu:F.A.units+3<cLine:=hF.lt3 hA.2 (by decide)
 refine AI (Af ?_)
 (with_reducible refine A7 (AQ Gt) Bl ?_;apply Bf)
 refine⟨false,by simp,?_⟩
 refine A1 ?_
 refine AF (AI (Af ?_))
 have main:∀ σ:Loc,Loc.le (((((Loc.nil.set "a" (.ref a)).set "x" x).set "lo" (.int lo)).set "hi" (.int hi)).set "key" .none) σ →
   Exs G F ((BC (fnOf (KK G) 114)).drop 2) σ H (fun f O H'=>match f with | .ret p=>Q p H' | _=>Q .none H'):=fun σ hle=>by
  refine Exs.le ?_ hle
  show Exs G F (_::_) _ _ _
  refine AI (Af ?_)
  (with_reducible refine A7 (AQ Gt) L8 ?_)
  refine Bg ⟨true,rfl,?_⟩
  refine An ?_
  refine AI (B0 (fun n σ' H'=>∃ l h:Nat,n=h - l∧l≤h∧h≤ho.items.length∧H'=H∧Bi lt x ho.items l h=Bi lt x ho.items lo hi ∧
   σ'=(((Loc.nil.set "a" (.ref a)).set "x" x).set "lo" (.int l)).set "hi" (.int h)) (hi - lo) ⟨_,?_,lo,hi,rfl,hlo,hhi,rfl,rfl,rfl⟩ ?_)
  ·(exact Le)
  intro n _ _ zq9
  refine AJ fun WW9 hW9=>?_
  obtain⟨l,h,eq9_0,hlh,hh,eq9_1,hb,eq9_2⟩:=zq9
  refine hW9 ?_
  clear hW9 WW9
  subst eq9_0 eq9_1 eq9_2
  (with_reducible refine A7 (AQ Gt) (AQ Gt) ?_;apply Bf)
  by_cases hlt:l<h
  ·refine⟨true,by simp;exact hlt,?_⟩
   refine An ?_
   obtain⟨y,hy⟩:∃ y,ho.items[(l+h) / 2]?=some y:=⟨_,List.getElem?_eq_getElem (by exact G8 hlt hh)⟩
   have hSy:S y:=hS y (List.mem_of_getElem? hy)
   rw[DM,dif_pos hlt,hy]at hb
   ((refine AG (AB (by assumption) (by kernel_rfl)) ?_ rfl;(with_reducible refine FF (Cs (AQ Gt) (AQ Gt)) Bl ?_)))
   refine B6 (by decide) (by decide) ?_
   rw[show((l:Int)+h).fdiv 2=(((l+h) / 2:Nat):Int)by rw[Int.fdiv_eq_ediv_of_nonneg _ (by decide)];exact rfl]
   refine AI (Af ?_)
   (with_reducible refine QN (AQ Gt) ?_ (by with_unfolding_all rfl);refine A3 (AQ Gt) (AQ Gt) ?_)
   refine AK hH (p:=y) (by rw[BD];exact hy) ?_
   refine hc x y hSx hSy _ _ _ hu ⟨_,rfl,?_⟩
   cases hl:lt x y with
   | true =>
    refine An ?_
    simp only[hl,if_true]at hb
    ((refine AG (AB (by assumption) (by kernel_rfl)) ?_ rfl;(with_reducible refine V ?_ Gt)))
    refine AF (AF ⟨(l+h) / 2 - l,by exact HB hlt,_,?_,l,(l+h) / 2,rfl,by exact EX hlt,by exact G7 hlt hh,rfl,hb,rfl⟩)
    (exact Le)
   | false =>
    refine A1 ?_
    simp only[hl,Bool.false_eq_true,if_false]at hb
    ((refine AG (AB (by assumption) (by kernel_rfl)) ?_ rfl;(with_reducible refine Gh (Cs (AQ Gt) Bl) ?_)))
    rw[show(((l+h) / 2:Nat):Int)+1=(((l+h) / 2+1:Nat):Int)by exact rfl]
    refine AF (AF ⟨h - ((l+h) / 2+1),by exact HA hlt,_,?_,(l+h) / 2+1,h,rfl,by exact EV hlt,by exact hh,rfl,hb,rfl⟩)
    (exact Le)
  ·refine⟨false,by simp;exact Nat.not_lt.mp hlt,?_⟩
   refine A1 ?_
   rw[DM,dif_neg hlt]at hb
   refine AF (AR ?_)
   (with_reducible refine V ?_ Gt)
   rw[hb];exact hQ
 rcases hv with rfl | ⟨rfl,rfl⟩
 ·(with_reducible refine A7 (AQ Gt) L8 ?_)
  refine B1 (by simp) (by simp) ⟨false,rfl,?_⟩
  refine A1 ?_
  exact AF (main _ (Loc.le_refl _))
 ·(with_reducible refine A7 (AQ Gt) L8 ?_)
  refine Bg ⟨true,rfl,?_⟩
  refine An ?_
  refine AG (AB hF (by kernel_rfl)) (BN "len" hK (AD hF (by kernel_rfl)) (by kernel_rfl) (by decide +kernel) (by decide) ?_) rfl
  (with_reducible refine AN (A0 Gt BV) ?_)
  refine Ck hH ?_
  refine AF (main _ ?_)
  (exact Le)

theorem Eh{G:Cx}{A:Around}{H:AH}{Q:PV→AH→Prop}{S:PV→Prop}{lt:PV→PV→Bool}{a:Addr}{ho:HO}{x:PV}(hK:G.K=KK G)(hA:A.depth<890∧A.units<8900)(hc:HY G S lt)
  (hH:H a=some ho) (hS:∀ y∈ho.items,S y) (hSx:S x) (hQ:Q (.int (Bi lt x ho.items 0 ho.items.length)) H):OpL G A (fun vs=>call (.ref 114) vs) [.ref a,x] H Q:=by
 refine Az (ns:=["a", "x", "lo", "hi", "key"]) (dps:=[.int 0,.none,.none]) (dvs:=Cw (KK G) 106++[.none]) hK (by kernel_rfl) (Nat.lt_of_lt_of_le hA.1 (by decide)) (fun O=>⟨_,_,rfl,⟨_,rfl⟩,_,_,rfl,rfl,_,_,rfl,rfl,rfl⟩) ?_ ?_
 ·intro h vs hvs
  obtain⟨v1,v2,rfl,_,_⟩:=hvs.two_inv
  kernel_rfl
 intro F hF
 ((dsimp only[Av,List.zip_cons_cons,List.zip_nil_right,List.zip_nil_left,List.cons_append,List.nil_append];rw[show(fun O=>none:Loc)=Loc.nil from rfl]))
 exact EB hK hF hA hc hH hS hSx (Nat.zero_le _) (Nat.le_refl _) (.inr ⟨rfl,rfl⟩) hQ
theorem Eg{G:Cx}{A:Around}{H:AH}{Q:PV→AH→Prop}{S:PV→Prop}{lt:PV→PV→Bool}{a:Addr}{ho:HO}{x:PV}(hK:G.K=KK G)(hA:A.depth<890∧A.units<8900)(hc:HY G S lt)
  (hH:H a=some ho) (hS:∀ y∈ho.items,S y) (hSx:S x) (hQ:Q (.int (Bi lt x ho.items 0 ho.items.length)) H):OpL G A (fun vs=>call (.ref 114) vs) [.ref a,x,.int 0,.none] H Q:=by
 refine Az (ns:=["a", "x", "lo", "hi", "key"]) (dps:=[.none]) (dvs:=[.none]) hK (by kernel_rfl) (Nat.lt_of_lt_of_le hA.1 (by decide)) (fun O=>⟨_,_,rfl,rfl,rfl⟩) ?_ ?_
 ·intro h vs hvs
  refine AJ fun WW9 hW9=>?_
  obtain⟨v1,_,eq9_0,_,v2,_,eq9_1,_,v3,_,eq9_2,_,v4,_,eq9_3,_,eq9_4⟩:=hvs
  refine hW9 ?_
  clear hW9 WW9
  subst eq9_0 eq9_1 eq9_2 eq9_3 eq9_4
  kernel_rfl
 intro F hF
 ((dsimp only[Av,List.zip_cons_cons,List.zip_nil_right,List.zip_nil_left,List.cons_append,List.nil_append];rw[show(fun O=>none:Loc)=Loc.nil from rfl]))
 exact EB hK hF hA hc hH hS hSx (Nat.zero_le _) (Nat.le_refl _) (.inr ⟨rfl,rfl⟩) hQ

theorem FA{G:Cx}{A:Around}{H:AH}{Q:PV→AH→Prop}{S:PV→Prop}{lt:PV→PV→Bool}{a:Addr}{xs:List PV}{x:PV}(hK:G.K=KK G)(hA:A.depth<880∧A.units<8800)(hc:HY G S lt)
  (hH:H a=some (.lst xs)) (hS:∀ y∈xs,S y) (hSx:S x) (hz:xs.length<sizeLine) (hQ:Q .none (H.set a (.lst (GD lt x xs)))):OpL G A (fun vs=>call (.ref 105) vs) [.ref a,x] H Q:=by
 refine Az (ns:=["a", "x", "lo", "hi", "key"]) (dps:=[.int 0,.none,.none]) (dvs:=Cw (KK G) 97++[.none]) hK (by kernel_rfl) (Nat.lt_of_lt_of_le hA.1 (by decide)) (fun O=>⟨_,_,rfl,⟨_,rfl⟩,_,_,rfl,rfl,_,_,rfl,rfl,rfl⟩) ?_ ?_
 ·intro h vs hvs
  refine AJ fun WW9 hW9=>?_
  obtain⟨v1,v2,eq9_0,_,_⟩:=hvs.two_inv
  refine hW9 ?_
  clear hW9 WW9
  subst eq9_0
  kernel_rfl
 intro F hF
 have hFA:F.A.depth<890∧F.A.units<8900:=hF.room hA (by decide) (by decide)
 ((dsimp only[Av,List.zip_cons_cons,List.zip_nil_right,List.zip_nil_left,List.cons_append,List.nil_append];rw[show(fun O=>none:Loc)=Loc.nil from rfl]))
 refine AI (Af ?_)
 (with_reducible refine A7 (AQ Gt) L8 ?_)
 refine Bg ⟨true,rfl,?_⟩
 refine An ?_
 refine AG (AB hF (by kernel_rfl)) (A9 (fa:=114) hK (AD hF (by kernel_rfl)) (by kernel_rfl) (by kernel_rfl) ?_) rfl
 (with_reducible refine AN (A0 Gt (A0 Gt (A0 Gt (A0 Gt BV)))) ?_)
 refine Eg hK hFA hc hH hS hSx ?_
 refine AF (Ae (F3 PySem.F.slot_list_insert rfl ?_ rfl rfl) rfl)
 (with_reducible refine V ?_ Gt)
 refine⟨a,_,rfl,hH,?_⟩
 (with_reducible refine AN (A0 Gt (A0 Gt BV)) ?_)
 have hb:=Jd lt x xs 0 xs.length (Nat.zero_le _)
 refine Jr hH (by simp only[AC];exact Int.natCast_nonneg _) (by simp only[AC];exact Int.ofNat_le.mpr hb.2) hz ?_
 simp only[AC,Int.toNat_natCast]
 exact AF hQ

theorem HQ{G:Cx}{A:Around}{F:Fx}{H:AH}{Q:PV→AH→Prop}{S:PV→Prop}{lt:PV→PV→Bool}{a:Addr}{ho:HO}{lo hi:Nat}{x:PV}{hiV:PV}(hK:G.K=KK G)(hF:FnF A (fnOf (KK G) 123).scope F)(hA:A.depth<890∧A.units<8900)(hc:HY G S lt)
  (hH:H a=some ho) (hS:∀ y∈ho.items,S y) (hSx:S x) (hlo:lo≤hi) (hhi:hi≤ho.items.length) (hv:hiV=.int hi∨(hiV=.none∧hi=ho.items.length)) (hQ:Q (.int (Bz lt x ho.items lo hi)) H) :
  Exs G F (BC (fnOf (KK G) 123)) (((((Loc.nil.set "a" (.ref a)).set "x" x).set "lo" (.int lo)).set "hi" hiV).set "key" .none) H (fun f O H'=>match f with | .ret p=>Q p H' | _=>Q .none H'):=by
 have hu:F.A.units+3<cLine:=hF.lt3 hA.2 (by decide)
 refine AI (Af ?_)
 (with_reducible refine A7 (AQ Gt) Bl ?_;apply Bf)
 refine⟨false,by simp,?_⟩
 refine A1 ?_
 refine AF (AI (Af ?_))
 have main:∀ σ:Loc,Loc.le (((((Loc.nil.set "a" (.ref a)).set "x" x).set "lo" (.int lo)).set "hi" (.int hi)).set "key" .none) σ →
   Exs G F ((BC (fnOf (KK G) 123)).drop 2) σ H (fun f O H'=>match f with | .ret p=>Q p H' | _=>Q .none H'):=fun σ hle=>by
  refine Exs.le ?_ hle
  show Exs G F (_::_) _ _ _
  refine AI (Af ?_)
  (with_reducible refine A7 (AQ Gt) L8 ?_)
  refine Bg ⟨true,rfl,?_⟩
  refine An ?_
  refine AI (B0 (fun n σ' H'=>∃ l h:Nat,n=h - l∧l≤h∧h≤ho.items.length∧H'=H∧Bz lt x ho.items l h=Bz lt x ho.items lo hi ∧
   σ'=(((Loc.nil.set "a" (.ref a)).set "x" x).set "lo" (.int l)).set "hi" (.int h)) (hi - lo) ⟨_,?_,lo,hi,rfl,hlo,hhi,rfl,rfl,rfl⟩ ?_)
  ·(exact Le)
  intro n _ _ zq9
  refine AJ fun WW9 hW9=>?_
  obtain⟨l,h,eq9_0,hlh,hh,eq9_1,hb,eq9_2⟩:=zq9
  refine hW9 ?_
  clear hW9 WW9
  subst eq9_0 eq9_1 eq9_2
  (with_reducible refine A7 (AQ Gt) (AQ Gt) ?_;apply Bf)
  by_cases hlt:l<h
  ·refine⟨true,by simp;exact hlt,?_⟩
   refine An ?_
   obtain⟨y,hy⟩:∃ y,ho.items[(l+h) / 2]?=some y:=⟨_,List.getElem?_eq_getElem (by exact G8 hlt hh)⟩
   have hSy:S y:=hS y (List.mem_of_getElem? hy)
   rw[DN,dif_pos hlt,hy]at hb
   ((refine AG (AB (by assumption) (by kernel_rfl)) ?_ rfl;(with_reducible refine FF (Cs (AQ Gt) (AQ Gt)) Bl ?_)))
   refine B6 (by decide) (by decide) ?_
   rw[show((l:Int)+h).fdiv 2=(((l+h) / 2:Nat):Int)by rw[Int.fdiv_eq_ediv_of_nonneg _ (by decide)];exact rfl]
   refine AI (Af ?_)
   (with_reducible refine Am ?_;refine A3 (AQ Gt) (AQ Gt) ?_)
   refine AK hH (p:=y) (by rw[BD];exact hy) ?_
   (with_reducible refine V ?_ Gt)
   refine hc y x hSy hSx _ _ _ hu ⟨_,rfl,?_⟩
   cases hl:lt y x with
   | true =>
    refine An ?_
    simp only[hl,if_true]at hb
    ((refine AG (AB (by assumption) (by kernel_rfl)) ?_ rfl;(with_reducible refine Gh (Cs (AQ Gt) Bl) ?_)))
    rw[show(((l+h) / 2:Nat):Int)+1=(((l+h) / 2+1:Nat):Int)by exact rfl]
    refine AF (AF ⟨h - ((l+h) / 2+1),by exact HA hlt,_,?_,(l+h) / 2+1,h,rfl,by exact EV hlt,by exact hh,rfl,hb,rfl⟩)
    (exact Le)
   | false =>
    refine A1 ?_
    simp only[hl,Bool.false_eq_true,if_false]at hb
    ((refine AG (AB (by assumption) (by kernel_rfl)) ?_ rfl;(with_reducible refine V ?_ Gt)))
    refine AF (AF ⟨(l+h) / 2 - l,by exact HB hlt,_,?_,l,(l+h) / 2,rfl,by exact EX hlt,by exact G7 hlt hh,rfl,hb,rfl⟩)
    (exact Le)
  ·refine⟨false,by simp;exact Nat.not_lt.mp hlt,?_⟩
   refine A1 ?_
   rw[DN,dif_neg hlt]at hb
   refine AF (AR ?_)
   (with_reducible refine V ?_ Gt)
   rw[hb];exact hQ
 rcases hv with rfl | ⟨rfl,rfl⟩
 ·(with_reducible refine A7 (AQ Gt) L8 ?_)
  refine B1 (by simp) (by simp) ⟨false,rfl,?_⟩
  refine A1 ?_
  exact AF (main _ (Loc.le_refl _))
 ·(with_reducible refine A7 (AQ Gt) L8 ?_)
  refine Bg ⟨true,rfl,?_⟩
  refine An ?_
  refine AG (AB hF (by kernel_rfl)) (BN "len" hK (AD hF (by kernel_rfl)) (by kernel_rfl) (by decide +kernel) (by decide) ?_) rfl
  (with_reducible refine AN (A0 Gt BV) ?_)
  refine Ck hH ?_
  refine AF (main _ ?_)
  (exact Le)

theorem FE{G:Cx}{A:Around}{H:AH}{Q:PV→AH→Prop}{S:PV→Prop}{lt:PV→PV→Bool}{a:Addr}{ho:HO}{x:PV}(hK:G.K=KK G)(hA:A.depth<890∧A.units<8900)(hc:HY G S lt)
  (hH:H a=some ho) (hS:∀ y∈ho.items,S y) (hSx:S x) (hQ:Q (.int (Bz lt x ho.items 0 ho.items.length)) H):OpL G A (fun vs=>call (.ref 123) vs) [.ref a,x] H Q:=by
 refine Az (ns:=["a", "x", "lo", "hi", "key"]) (dps:=[.int 0,.none,.none]) (dvs:=Cw (KK G) 115++[.none]) hK (by kernel_rfl) (Nat.lt_of_lt_of_le hA.1 (by decide)) (fun O=>⟨_,_,rfl,⟨_,rfl⟩,_,_,rfl,rfl,_,_,rfl,rfl,rfl⟩) ?_ ?_
 ·intro h vs hvs
  refine AJ fun WW9 hW9=>?_
  obtain⟨v1,v2,eq9_0,_,_⟩:=hvs.two_inv
  refine hW9 ?_
  clear hW9 WW9
  subst eq9_0
  kernel_rfl
 intro F hF
 ((dsimp only[Av,List.zip_cons_cons,List.zip_nil_right,List.zip_nil_left,List.cons_append,List.nil_append];rw[show(fun O=>none:Loc)=Loc.nil from rfl]))
 exact HQ hK hF hA hc hH hS hSx (Nat.zero_le _) (Nat.le_refl _) (.inr ⟨rfl,rfl⟩) hQ


section
variable {α:Type} {L:α→α→Bool}

noncomputable def CR(L:α→α→Bool)(x:α):List α→List α
 | []=>[x]
 | y::ys=>if L x y then x::y::ys else y::CR L x ys
theorem De(x:α):∀ l:List α,∃ a b,l=a++b∧CR L x l=a++x::b∧(∀ y∈a,L x y=false)∧(∀ y,b.head?=some y→L x y=true)
 | []=>⟨[],[],rfl,rfl,by simp,by simp⟩
 | y::ys=>by
  unfold CR
  by_cases h:L x y=true
  ·exact⟨[],y::ys,rfl,by rw[if_pos h];rfl,by simp,by intro z hz;simp at hz;subst hz;exact h⟩
  ·obtain⟨a,b,e1,e2,h1,h2⟩:=De x ys
   refine⟨y::a,b,by rw[e1];rfl,by rw[if_neg h,e2];rfl,?_,h2⟩
   intro z hz;rcases List.mem_cons.mp hz with rfl | hz
   ·simpa using h
   ·exact h1 z hz
theorem GV(x:α)(l:List α):(CR L x l).Perm (x::l):=by
 refine AJ fun WW9 hW9=>?_
 obtain⟨a,b,e1,e2,_,_⟩:=De (L:=L) x l
 refine hW9 ?_
 clear hW9 WW9
 rw[e2,e1];exact List.perm_middle
theorem Fl(o:SWO L){x:α}{l:List α}(h:Srt L l):∃ a b,l=a++b∧CR L x l=a++x::b∧(∀ y∈a,L x y=false)∧(∀ y∈b,L x y=true):=by
 refine AJ fun WW9 hW9=>?_
 obtain⟨a,b,e1,e2,h1,h2⟩:=De (L:=L) x l
 refine hW9 ?_
 clear hW9 WW9
 refine⟨a,b,e1,e2,h1,fun y hy=>?_⟩
 rw[e1]at h
 have hb:=(Srt.append.mp h).2.1
 cases b with
 | nil=>cases hy
 | cons z b =>
  have hz:=h2 z rfl
  rcases List.mem_cons.mp hy with rfl | hy
  ·exact hz
  ·exact o.lt_le hz ((List.pairwise_cons.mp hb).1 y hy)
theorem II(o:SWO L)(x:α){l:List α}(h:Srt L l):Srt L (CR L x l):=by
 obtain⟨a,b,e1,e2,h1,h2⟩:=Fl o (x:=x) h
 rw[e2];rw[e1]at h
 obtain⟨ha,hb,hab⟩:=Srt.append.mp h
 refine Srt.append.mpr ⟨ha,List.pairwise_cons.mpr ⟨fun y hy=>o.asym _ _ (h2 y hy),hb⟩,fun y hy z hz=>?_⟩
 rcases List.mem_cons.mp hz with rfl | hz
 ·exact h1 y hy
 ·exact hab y hy z hz
theorem LM(o:SWO L)(x:α){l:List α}(h:Srt L l):SEq L (CR L x l) (l++[x]):=by
 obtain⟨a,b,e1,e2,h1,h2⟩:=Fl o (x:=x) h
 rw[e2,e1,List.append_assoc]
 refine SEq.left a ?_
 exact(SEq.swap (A:=b) (B:=[x]) o fun y hy z hz=>by rw[List.mem_singleton.mp hz];exact h2 y hy).symm
theorem Dd(o:SWO L)(xs:List α)(x:α):AO L (xs++[x])=CR L x (AO L xs) :=
 (Dc o ((LM o x (Ba o xs)).trans ((DI o xs).right [x])) (II o x (Ba o xs))).symm
theorem IK{β:Type}{M:β→β→Bool}(f:α→β)(x:α):∀ l:List α,(∀ y∈l,M (f x) (f y)=L x y)→CR M (f x) (l.map f)=(CR L x l).map f
 | [],_=>rfl
 | y::ys,h=>by
  simp only[List.map_cons,CR]
  rw[h y (List.mem_cons_self ..)]
  split
  ·rfl
  ·rw[IK f x ys fun z hz=>h z (List.mem_cons_of_mem _ hz)];rfl
theorem JY{x z:α}(hz:L x z=true)(r:List α):∀ u:List α,CR L x (u++z::r)=CR L x u++z::r
 | []=>by simp[CR,hz]
 | y::u=>by
  dsimp only[List.cons_append,CR]
  split
  ·rfl
  ·simp only[JY hz r u];rfl
theorem IJ{x:α}(r:List α):∀ v:List α,(∀ y∈v,L x y=false)→CR L x (v++r)=v++CR L x r
 | [],_=>rfl
 | y::v,h=>by
  dsimp only[List.cons_append,CR]
  rw[h y (List.mem_cons_self ..)]
  simp only[Bool.false_eq_true,if_false]
  rw[IJ r v fun z hz=>h z (List.mem_cons_of_mem _ hz)]

theorem ML(o:SWO L){xs u:List α}{x z:α}{n:Nat}(h:(AO L xs).take n=u++[z])(hn:n≤xs.length)(hz:L x z=true):(AO L (xs++[x])).take n=CR L x u:=by
 rw[Dd o]
 have hl:u.length+1=n:=by
  have:=congrArg List.length h
  rw[List.length_take,(AX xs).length_eq,List.length_append,List.length_singleton]at this;exact OS this hn
 have e:AO L xs=u++z::(AO L xs).drop n:=by
  conv=>lhs;rw[← List.take_append_drop n (AO L xs),h]
  simp
 rw[e,JY hz,← hl]
 have:(CR L x u).length=u.length+1:=by rw[(GV x u).length_eq];rfl
 rw[← this,List.take_left' rfl]
theorem KG(o:SWO L){xs u:List α}{x z:α}{n:Nat}(h:(AO L xs).take n=u++[z])(hn:n≤xs.length)(hz:L x z=false):(AO L (xs++[x])).take n=u++[z]:=by
 rw[Dd o]
 have hl:(u++[z]).length=n:=by
  rw[← h,List.length_take,(AX xs).length_eq];exact Nat.min_eq_left hn
 have e:AO L xs=(u++[z])++(AO L xs).drop n:=by
  conv=>lhs;rw[← List.take_append_drop n (AO L xs),h]
 have hs:=Ba o xs
 rw[e]at hs
 have hu:=(Srt.append.mp (Srt.append.mp hs).1).2.2
 rw[e,IJ _ (u++[z]) fun y hy=>?_,← hl,List.take_left' rfl]
 rcases List.mem_append.mp hy with hy | hy
 ·exact o.ntr _ _ _ hz (hu y hy z (List.mem_singleton.mpr rfl))
 ·rw[List.mem_singleton.mp hy];exact hz

theorem En(o:SWO L)(xs:List α):AU L true xs=AO (fun x y=>L y x) xs:=by
 have o':SWO (fun x y=>L y x):=⟨fun x y h=>o.asym _ _ h,fun x y z h1 h2=>o.ntr _ _ _ h2 h1⟩
 have he:∀ x y,EZ (fun x y=>L y x) x y=EZ L x y:=fun x y=>by unfold EZ;exact Bool.and_comm _ _
 show(AO L xs.reverse).reverse=_
 refine Dc o' (fun x=>?_) ?_
 ·rw[show EZ (fun x y=>L y x) x=EZ L x from funext (he x)]
  simp only[List.filter_reverse,DI o xs.reverse x,List.filter_reverse,List.reverse_reverse]
 ·exact List.pairwise_reverse.mpr ((Ba o xs.reverse).imp fun h=>h)
theorem Gq(xs:List α):AU L false xs=AO L xs:=rfl
theorem E1{bt:Int→Int→Bool}{kx:α→Int}(o:SWO fun x y=>bt (kx x) (kx y))(xs:List α):(AO (fun x y=>bt (kx x) (kx y)) xs).take 1=(Ax bt kx xs).toList:=by
 induction h:xs.length generalizing xs with
 | zero=>rw[List.length_eq_zero_iff.mp h];rfl
 | succ n ih =>
  have hne:xs≠[]:=by rintro rfl;simp at h
  obtain⟨ys,x,rfl⟩:∃ ys x,xs=ys++[x]:=⟨_,_,(List.dropLast_concat_getLast hne).symm⟩
  have hl:ys.length=n:=by simpa using h
  have hb:Ax bt kx (ys++[x])=stepB bt kx (Ax bt kx ys) x:=by unfold Ax;rw[List.foldl_append];rfl
  have:=ih ys hl
  simp only[Dd o,hb]
  cases hs:AO (fun x y=>bt (kx x) (kx y)) ys with
  | nil =>
   rw[hs]at this
   cases hbo:Ax bt kx ys with
   | none=>rfl
   | some b=>rw[hbo]at this;injection this
  | cons y r =>
   rw[hs]at this
   cases hbo:Ax bt kx ys with
   | none=>rw[hbo]at this;injection this
   | some b =>
    rw[hbo]at this
    have hyb:y=b:=by simpa using this
    subst hyb
    show(if bt (kx x) (kx y)=true then x::y::r else y::CR _ x r).take 1=(if bt (kx x) (kx y)=true then some x else some y).toList
    split<;>rfl
end


section
variable {β:Type}

noncomputable def Bt(bt:Int→Int→Bool)(kx:β→Int)(p q:β × Nat):Bool:=if kx p.1=kx q.1 then decide (p.2<q.2) else bt (kx p.1) (kx q.1)
structure Tot (bt:Int→Int→Bool):Prop where
 irr:∀ x,bt x x=false
 tot:∀ x y,x≠y→bt x y=true∨bt y x=true
 asym:∀ x y,bt x y=true→bt y x=false
 tr:∀ x y z,bt x y=true→bt y z=true→bt x z=true
variable {bt:Int→Int→Bool} {kx:β→Int}
theorem Tot.swo(T:Tot bt):SWO (fun x y:β=>bt (kx x) (kx y)):=by
 refine⟨fun x y=>T.asym _ _,fun x y z h1 h2=>?_⟩
 cases h:bt (kx x) (kx z) with
 | false=>rfl
 | true =>
  by_cases e:kx y=kx x
  ·rw[← e]at h;rw[h]at h2;injection h2
  ·rcases T.tot _ _ e with h3 | h3
   ·have:=T.tr _ _ _ h3 h;rw[this]at h2;injection h2
   ·rw[h3]at h1;injection h1
theorem Bt.swo(T:Tot bt):SWO (Bt bt kx):=by
 refine⟨fun x y h=>?_,fun x y z h1 h2=>?_⟩
 ·unfold Bt at h ⊢
  by_cases e:kx x.1=kx y.1
  ·rw[if_pos e]at h;rw[if_pos e.symm];have:=of_decide_eq_true h;exact decide_eq_false (by exact Nat.lt_asymm this)
  ·rw[if_neg e]at h;rw[if_neg (Ne.symm e)];exact T.asym _ _ h
 ·unfold Bt at h1 h2 ⊢
  by_cases e1:kx x.1=kx y.1
  ·rw[if_pos e1]at h1
   have h1:=of_decide_eq_false h1
   by_cases e2:kx y.1=kx z.1
   ·rw[if_pos e2]at h2;rw[if_pos (e1.trans e2)]
    have h2:=of_decide_eq_false h2;exact decide_eq_false (by exact OR h1 h2)
   ·rw[if_neg e2]at h2;rw[if_neg (by rw[e1];exact e2),e1];exact h2
  ·rw[if_neg e1]at h1
   by_cases e2:kx y.1=kx z.1
   ·rw[if_neg (by rw[← e2];exact e1),← e2];exact h1
   ·rw[if_neg e2]at h2
    by_cases e3:kx x.1=kx z.1
    ·rw[e3]at h1 e1
     rcases T.tot _ _ e2 with h | h
     ·rw[h]at h2;injection h2
     ·rw[h]at h1;injection h1
    ·rw[if_neg e3];exact(T.swo (kx:=(id:Int→Int))).ntr _ _ _ h1 h2
theorem Bt.new(T:Tot bt){x:β}{c:Nat}{q:β × Nat}(h:q.2<c):Bt bt kx (x,c) q=bt (kx x) (kx q.1):=by
 unfold Bt
 by_cases e:kx x=kx q.1
 ·rw[if_pos e,e,T.irr];exact decide_eq_false (by simp only;exact Nat.lt_asymm h)
 ·rw[if_neg e]
theorem Bt.old(T:Tot bt){x:β}{c:Nat}{q:β × Nat}(h:c<q.2):Bt bt kx q (x,c)=bt (kx q.1) (kx x):=by
 unfold Bt
 by_cases e:kx q.1=kx x
 ·rw[if_pos e,e,T.irr];exact decide_eq_false (by simp only;exact Nat.lt_asymm h)
 ·rw[if_neg e]

noncomputable def turns(xs:List β)(i:Nat):List (β × Nat):=match xs with
 | []=>[]
 | x::r=>(x,i)::turns r (i+1)
theorem Dq:∀(xs:List β) (i:Nat),∀ q∈turns xs i,i≤q.2∧q.2<i+xs.length
 | [],i,q,h=>by cases h
 | x::r,i,q,h=>by
  rcases List.mem_cons.mp h with rfl | h
  ·simp
  ·have:=Dq r (i+1) q h;simp only[List.length_cons];exact OQ this
theorem GK:∀(xs:List β) (i:Nat),(turns xs i).map (·.1)=xs
 | [],i=>rfl
 | x::r,i=>by simp[turns,GK r]
theorem CW(xs:List β)(i:Nat):(turns xs i).length=xs.length:=by rw[← List.length_map (f:=(·.1)),GK]
theorem CX:∀(xs:List β) (i j:Nat) (x:β),xs[j]?=some x→(turns xs i)[j]?=some (x,i+j)
 | [],i,j,x,h=>by simp at h
 | y::r,i,0,x,h=>by simp at h;subst h;simp[turns]
 | y::r,i,j+1,x,h=>by
  have:=CX r (i+1) j x (by simpa using h)
  simp only[turns,List.getElem?_cons_succ,this];congr 2;exact Nat.add_right_comm _ _ _
theorem Bj:∀(xs:List β) (i:Nat),((turns xs i).map (·.2)).Nodup
 | [],i=>by simp[turns]
 | x::r,i=>by
  simp only[turns,List.map_cons,List.nodup_cons]
  refine⟨fun hm=>?_,Bj r (i+1)⟩
  obtain⟨q,hq,e⟩:=List.mem_map.mp hm
  have:=Dq r (i+1) q hq;exact Nat.ne_of_gt this.1 e
theorem FM(T:Tot bt):∀(xs:List β) (i:Nat),(AO (Bt bt kx) (turns xs i)).map (·.1)=AO (fun x y=>bt (kx x) (kx y)) xs
 | [],i=>rfl
 | x::r,i=>by
  show(I0 (Bt bt kx) (x,i) (AO (Bt bt kx) (turns r (i+1)))).map (·.1)=I0 _ x (AO _ r)
  simp only[← FM T r (i+1)]
  refine(HH (L:=Bt bt kx) (M:=fun x y=>bt (kx x) (kx y)) (·.1) (x,i) _ fun q hq=>?_).symm
  have:=Dq r (i+1) q ((AX _).mem_iff.mp hq)
  exact(Bt.old T (by exact this.1)).symm
theorem Hj(T:Tot bt):∀{l r:List (β × Nat)},(l.map (·.2)).Nodup→Srt (Bt bt kx) l→Srt (Bt bt kx) r→l.Perm r→l=r
 | [],r,_,_,_,h=>(List.Perm.nil_eq h)
 | x::l,[],_,_,_,h=>by cases h.symm.nil_eq
 | x::l,y::r,hn,h1,h2,h=>by
  have e:x=y:=by
   by_cases e:x=y
   ·exact e
   ·exfalso
    have hx:x∈r:=(List.mem_cons.mp (h.mem_iff.mp List.mem_cons_self)).resolve_left e
    have hy:y∈l:=(List.mem_cons.mp (h.mem_iff.mpr List.mem_cons_self)).resolve_left (Ne.symm e)
    have a:=(List.pairwise_cons.mp h1).1 y hy
    have b:=(List.pairwise_cons.mp h2).1 x hx
    have hne:x.2≠y.2:=fun e2=>(List.nodup_cons.mp hn).1 (List.mem_map.mpr ⟨y,hy,e2.symm⟩)
    unfold Bt at a b
    by_cases ek:kx x.1=kx y.1
    ·rw[if_pos ek.symm]at a;rw[if_pos ek]at b
     have a:=of_decide_eq_false a;have b:=of_decide_eq_false b;exact Kl hne b a
    ·rw[if_neg (Ne.symm ek)]at a;rw[if_neg ek]at b
     rcases T.tot _ _ ek with h | h
     ·rw[h]at b;injection b
     ·rw[h]at a;injection a
  subst e
  rw[Hj T (List.nodup_cons.mp hn).2 (List.pairwise_cons.mp h1).2 (List.pairwise_cons.mp h2).2 h.cons_inv]

structure Sel (bt:Int→Int→Bool) (kx:β→Int) (n c:Nat) (pre:List β) (hp:List (β × Nat)):Prop where
 ex:∃ S,hp.Perm S∧Srt (Bt bt kx) S∧S.map (·.1)=(AO (fun x y=>bt (kx x) (kx y)) pre).take n
 nd:(hp.map (·.2)).Nodup
 lt:∀ q∈hp,q.2<c
 len:hp.length=n
theorem Sel.start(T:Tot bt){xs:List β}{hp:List (β × Nat)}(h:hp.Perm (turns xs 0)):Sel bt kx xs.length xs.length xs hp:=by
 refine⟨⟨AO (Bt bt kx) (turns xs 0),h.trans (AX _).symm,Ba (Bt.swo T) _,?_⟩,?_,fun q hq=>?_,?_⟩
 ·rw[FM T,List.take_of_length_le (by rw[(AX xs).length_eq];exact Nat.le_refl _)]
 ·exact(h.map (·.2)).nodup_iff.mpr (Bj xs 0)
 ·have:=Dq xs 0 q (h.mem_iff.mp hq);exact Nat.lt_of_lt_of_eq this.2 (Nat.add_comm _ _)
 ·rw[h.length_eq,CW]
theorem Sel.step(T:Tot bt){n c:Nat}{pre:List β}{r:β × Nat}{hp:List (β × Nat)}(x:β)(S:Sel bt kx n c pre (r::hp))(hr:∀ u∈r::hp,Bt bt kx r u=false)(hn:n≤pre.length) :
  (bt (kx x) (kx r.1)=true→∀ hp',hp'.Perm ((x,c)::hp)→Sel bt kx n (c+1) (pre++[x]) hp')∧(bt (kx x) (kx r.1)=false→Sel bt kx n c (pre++[x]) (r::hp)):=by
 refine AJ fun WW9 hW9=>?_
 obtain⟨⟨S0,h1,h2,h3⟩,h4,h5,h6⟩:=S
 refine hW9 ?_
 clear hW9 WW9
 have hne:S0≠[]:=by rintro rfl;cases h1.symm.nil_eq
 obtain⟨U,z,rfl⟩:∃ U z,S0=U++[z]:=⟨_,_,(List.dropLast_concat_getLast hne).symm⟩
 have hz:r=z:=by
  have hm:r∈U++[z]:=h1.mem_iff.mp List.mem_cons_self
  rcases List.mem_append.mp hm with hm | hm
  ·by_cases e:r=z
   ·exact e
   ·exfalso
    have a:=(Srt.append.mp h2).2.2 r hm z (List.mem_singleton.mpr rfl)
    have b:=hr z (h1.mem_iff.mpr (List.mem_append_right _ (List.mem_singleton.mpr rfl)))
    have hnd:((U++[z]).map (·.2)).Nodup:=(h1.map (·.2)).nodup_iff.mp h4
    have hne2:r.2≠z.2:=fun e2=>by
     rw[List.map_append,List.nodup_append]at hnd
     exact hnd.2.2 r.2 (List.mem_map.mpr ⟨r,hm,rfl⟩) z.2 (by simp) e2
    unfold Bt at a b
    by_cases ek:kx r.1=kx z.1
    ·rw[if_pos ek.symm]at a;rw[if_pos ek]at b
     have a:=of_decide_eq_false a;have b:=of_decide_eq_false b;exact Kl hne2 b a
    ·rw[if_neg (Ne.symm ek)]at a;rw[if_neg ek]at b
     rcases T.tot _ _ ek with h | h
     ·rw[h]at b;injection b
     ·rw[h]at a;injection a
  ·exact List.mem_singleton.mp hm
 subst hz
 have hU:hp.Perm U:=(h1.trans List.perm_append_comm).cons_inv
 rw[List.map_append]at h3
 have h3':(AO (fun x y=>bt (kx x) (kx y)) pre).take n=U.map (·.1)++[r.1]:=h3.symm
 have hsU:=(Srt.append.mp h2).1
 refine⟨fun hx hp' hp''=>?_,fun hx=>?_⟩
 ·refine⟨⟨CR (Bt bt kx) (x,c) U,(hp''.trans ((List.Perm.cons _ hU))).trans (GV _ _).symm,II (Bt.swo T) _ hsU,?_⟩,?_,fun q hq=>?_,?_⟩
  ·simp only[ML T.swo h3' hn hx]
   refine(IK (L:=Bt bt kx) (M:=fun x y=>bt (kx x) (kx y)) (·.1) (x,c) U fun q hq=>?_).symm
   exact(Bt.new T (h5 q (List.mem_cons_of_mem _ (hU.mem_iff.mpr hq)))).symm
  ·refine(hp''.map (·.2)).nodup_iff.mpr (List.nodup_cons.mpr ⟨fun hm=>?_,(List.nodup_cons.mp h4).2⟩)
   refine AJ fun WW9 hW9=>?_
   obtain⟨q,hq,e⟩:=List.mem_map.mp hm
   refine hW9 ?_
   clear hW9 WW9
   have:=h5 q (List.mem_cons_of_mem _ hq);simp only at e;exact(Nat.ne_of_lt this e).elim
  ·rcases List.mem_cons.mp (hp''.mem_iff.mp hq)with rfl | hq
   ·exact Nat.lt_succ_self _
   ·exact Nat.lt_succ_of_lt (h5 q (List.mem_cons_of_mem _ hq))
  ·rw[hp''.length_eq];exact h6
 ·exact⟨⟨U++[r],h1,h2,by simp only[KG T.swo h3' hn hx,List.map_append];rfl⟩,h4,h5,h6⟩
theorem Sel.fin(T:Tot bt){n c:Nat}{pre:List β}{hp:List (β × Nat)}(S:Sel bt kx n c pre hp):(AO (Bt bt kx) hp).map (·.1)=(AO (fun x y=>bt (kx x) (kx y)) pre).take n:=by
 obtain⟨⟨S0,h1,h2,h3⟩,h4,h5,h6⟩:=S
 simp only[← h3]
 congr 1
 exact Hj T (((AX hp).map (·.2)).nodup_iff.mpr h4) (Ba (Bt.swo T) _) h2 ((AX hp).trans h1)
end

section
variable {β:Type} {bt:Int→Int→Bool} {kx:β→Int}
theorem tot_lt:Tot fun x y=>decide (x<y) :=
 ⟨fun x=>by simp,fun x y h=>by simp only[decide_eq_true_eq];exact Int.lt_or_gt_of_ne h,fun x y h=>by simp only[decide_eq_true_eq,decide_eq_false_iff_not]at *;exact Int.lt_asymm h,fun x y z h1 h2=>by simp only[decide_eq_true_eq]at *;exact Kk h1 h2⟩
theorem Ij:Tot fun x y=>decide (x>y) :=
 ⟨fun x=>by simp,fun x y h=>by simp only[decide_eq_true_eq];exact(Int.lt_or_gt_of_ne h).symm,fun x y h=>by simp only[decide_eq_true_eq,decide_eq_false_iff_not]at *;exact Int.lt_asymm h,fun x y z h1 h2=>by simp only[decide_eq_true_eq]at *;exact Kk h2 h1⟩
noncomputable def Cu(x y:Int):Bool:=decide (x<y)
noncomputable def Cg(x y:Int):Bool:=decide (x>y)
theorem Bu{α γ:Type}{f:α→γ}:∀{l:List α},(l.map f).Nodup→∀ p∈l,∀ q∈l,f p=f q→p=q
 | [],_,p,hp,_,_,_=>by cases hp
 | a::l,h,p,hp,q,hq,e=>by
  have h:=List.nodup_cons.mp h
  rcases List.mem_cons.mp hp with e1 | hp
  ·rcases List.mem_cons.mp hq with e2 | hq
   ·simp only[e1,e2]
   ·exact absurd (List.mem_map.mpr ⟨q,hq,by rw[← e,e1]⟩) h.1
  ·rcases List.mem_cons.mp hq with e2 | hq
   ·exact absurd (List.mem_map.mpr ⟨p,hp,by rw[e,e2]⟩) h.1
   ·exact Bu h.2 p hp q hq e

noncomputable def Hp(bt:Int→Int→Bool)(kx:β→Int)(p q:β × Nat):Bool:=Bt bt kx q p
theorem Hp.swo(T:Tot bt):SWO (Hp bt kx):=⟨fun x y h=>(Bt.swo T).asym y x h,fun x y z h1 h2=>(Bt.swo T).ntr z y x h2 h1⟩
theorem JS(kx:β→Int):JU kx 1=Bt Cu kx:=by
 funext p q;unfold JU Bt Cu;rw[Int.one_mul,Int.one_mul]
 by_cases e:kx p.1=kx q.1
 ·rw[if_pos e,if_pos e];congr 1;exact propext (by exact OP)
 ·rw[if_neg e,if_neg e]
theorem JT(kx:β→Int):JU kx (-1)=Hp Cg kx:=by
 funext p q;unfold JU Hp Bt Cg
 by_cases e:kx p.1=kx q.1
 ·rw[if_pos e,if_pos e.symm];congr 1;exact propext (by exact OO)
 ·rw[if_neg e,if_neg (Ne.symm e)]
theorem Sel.inj{n c:Nat}{pre:List β}{hp:List (β × Nat)}(S:Sel bt kx n c pre hp)(x:β):∀ p∈(x,c)::hp,∀ q∈(x,c)::hp,p.2=q.2→p=q :=
 Bu (f:=fun q:β × Nat=>q.2) (List.nodup_cons.mpr ⟨fun hm=>by
  obtain⟨q,hq,e⟩:=List.mem_map.mp hm
  have:=S.lt q hq;simp only at e;exact(Nat.ne_of_lt this e).elim,S.nd⟩)
theorem Sel.next(T:Tot bt){n c:Nat}{pre:List β}{r:β × Nat}{hp:List (β × Nat)}{x:β}(S:Sel bt kx n c pre (r::hp))(hh:HeapAt (Hp bt kx) 0 (r::hp))(hn:n≤pre.length) :
  (bt (kx x) (kx r.1)=true→∃ r' hp',F7 (Hp bt kx) 0 (x,c) ((x,c)::hp)=r'::hp'∧Sel bt kx n (c+1) (pre++[x]) (r'::hp')∧HeapAt (Hp bt kx) 0 (r'::hp'))∧(bt (kx x) (kx r.1)=false→Sel bt kx n c (pre++[x]) (r::hp)):=by
 refine AJ fun WW9 hW9=>?_
 obtain⟨h1,h2,h3⟩:=Bo (Hp.swo T) (x,c) hh
 refine hW9 ?_
 clear hW9 WW9
 obtain⟨h4,h5⟩:=Sel.step T x S h3 hn
 refine⟨fun hb=>?_,h5⟩
 cases e:F7 (Hp bt kx) 0 (x,c) ((x,c)::hp) with
 | nil=>rw[e]at h1;cases h1.nil_eq
 | cons r' hp'=>rw[e]at h1 h2;exact⟨r',hp',rfl,h4 hb _ h1,h2⟩

theorem GM{sg:Int}{tl:β→List PV}(hsg:sg=1∨sg = -1)(htl:∀ x,BU (tl x) (tl x)=some false){hp:List (β × Nat)}(hnd:(hp.map (·.2)).Nodup) :
  ∃ a b tl',(∀ i j:Nat,b i=b j→i=j)∧(∀ i:Nat,BU (tl' i) (tl' i)=some false)∧(∀ p∈hp,tT a b tl' p.2=fT kx sg tl p)∧(∀ p∈hp,∀ q∈hp,MA a b p.2 q.2=JU kx sg p q):=by
 have hf:∀ p∈hp,hp.find? (fun q=>q.2==p.2)=some p:=fun p hm=>by
  cases e:hp.find? (fun q=>q.2==p.2) with
  | none=>have:=List.find?_eq_none.mp e p hm;simp at this
  | some q=>rw[Bu hnd q (List.mem_of_find?_eq_some e) p hm (by simpa using List.find?_some e)]
 refine⟨fun i=>((hp.find? (fun q=>q.2==i)).map (fun q=>kx q.1)).getD 0,fun i=>sg*i,fun i=>((hp.find? (fun q=>q.2==i)).map (fun q=>tl q.1)).getD [],fun i j e=>?_,fun i=>?_,fun p hm=>?_,fun p hm q hq=>?_⟩
 ·rcases hsg with rfl | rfl<;>simp only at e<;>(first | exact Kx e | exact Kw e)
 ·show BU (((hp.find? (fun q=>q.2==i)).map (fun q=>tl q.1)).getD []) (((hp.find? (fun q=>q.2==i)).map (fun q=>tl q.1)).getD [])=some false
  cases hp.find? (fun q=>q.2==i) with
  | none=>rfl
  | some q=>exact htl q.1
 ·simp only[tT,fT,hf p hm,Option.map_some,Option.getD_some]
 ·simp only[MA,JU,hf p hm,hf q hq,Option.map_some,Option.getD_some]
end
section
variable {G:Cx} {A:Around} {H:AH} {Q:PV→AH→Prop} {β:Type} {kx:β→Int} {sg:Int} {tl:β→List PV} {hp:List (β × Nat)} {r:Addr}
theorem JN(hsg:sg=1∨sg = -1)(htl:∀ x,BU (tl x) (tl x)=some false)(hnd:(hp.map (·.2)).Nodup)(hu:A.units+9<cLine)(hH:H r=some (.lst (hp.map (fT kx sg tl))))(hr:CP hp.length)(h:Q .none (H.set r (.lst ((AO (JU kx sg) hp).map (fT kx sg tl))))) :
  OpL G A (fun vs=>call (.builtin "list.sort") vs) [.ref r] H Q:=by
 obtain⟨a,b,tl',h1,h2,h3,h4⟩:=GM (kx:=kx) hsg htl hnd
 have e:∀ l:List (β × Nat),(∀ p∈l,p∈hp)→l.map (fT kx sg tl)=(l.map (·.2)).map (tT a b tl'):=fun l hl=>by
  simp only[List.map_map];exact List.map_congr_left fun p hp=>(h3 p (hl p hp)).symm
 refine MW (Sk.turns G h1 h2) hu (xs:=hp.map (·.2)) (by rw[hH,e hp fun O h=>h]) (by rw[List.length_map];exact hr) ?_
 rw[BA (L:=JU kx sg) (M:=MA a b) (·.2) hp h4,← e _ fun p hp=>(AX _).mem_iff.mp hp]
 exact h
theorem JO(hsg:sg=1∨sg = -1)(htl:∀ x,BU (tl x) (tl x)=some false)(hnd:(hp.map (·.2)).Nodup)(hu:A.units+9<cLine)(hH:H r=some (.lst (hp.map (fT kx sg tl))))(hr:CP hp.length)(h:Q .none (H.set r (.lst ((AO (fun p q=>JU kx sg q p) hp).map (fT kx sg tl))))) :
  OpL G A (fun vs=>call (.builtin "list.sort") (vs.take 1) ([Str.ofString "reverse"].zip (vs.drop 1))) [.ref r,.bool true] H Q:=by
 refine AJ fun WW9 hW9=>?_
 obtain⟨a,b,tl',h1,h2,h3,h4⟩:=GM (kx:=kx) hsg htl hnd
 refine hW9 ?_
 clear hW9 WW9
 have e:∀ l:List (β × Nat),(∀ p∈l,p∈hp)→l.map (fT kx sg tl)=(l.map (·.2)).map (tT a b tl'):=fun l hl=>by
  simp only[List.map_map];exact List.map_congr_left fun p hp=>(h3 p (hl p hp)).symm
 refine KP (Sk.turns G h1 h2) hu (xs:=hp.map (·.2)) (by rw[hH,e hp fun O h=>h]) (by rw[List.length_map];exact hr) ?_
 rw[En (JQ a b),BA (L:=fun p q=>JU kx sg q p) (M:=fun x y=>MA a b y x) (·.2) hp (fun p hp q hq=>h4 q hq p hp),← e _ fun p hp=>(AX _).mem_iff.mp hp]
 exact h
end

noncomputable def LN(b:List Stmt)(i:Nat):List Stmt:=match b[i]? with
 | some (.If _ body _ _)=>body
 | _=>[]
theorem FnF.lt9{A:Around}{F:Fx}{sc:Scope}{n m:Nat}(h:FnF A sc F)(hA:A.units<n)(hm:n+12≤m):F.A.units+9<m:=by rw[h.units];exact ON hm hA
theorem OpC.mono{G:Cx}{A:Around}{p:PV}{ps:List PV}{H:AH}{Q Q':PV→AH→Prop}(h:OpC G A p ps H Q)(hq:∀ p H',Q p H'→Q' p H'):OpC G A p ps H Q':=fun s v vs ok hv hvs=>wpAny_mono (h s v vs ok hv hvs) (fun O O x=>x.mono hq) fun O O x=>x

theorem Dk{G:Cx}{F:Fx}{σ:Loc}{H:AH}{e:Expr}{Q:PV→AH→Prop}(h:Ev G F e σ H (fun p H1=>∃ a ho,H1 a=some ho∧Q p (H1.set a (.fro ho.items)))):Ev G F e σ H Q:=fun s ok lr =>
 wpAny_mono (h s ok lr) (fun v s1 zz2=>zz2.on fun p H1 hv ok1 k1 zz2_5=>zz2_5.elim fun a zz2_5=>zz2_5.elim fun ho zz2_5=>zz2_5.elim fun hH hq=>⟨p,_,hv,HJ ok1 hH,⟨k1.os,k1.kept,fun b o e=>by
  by_cases hb:b=a
  ·subst hb;rw[AA]at e;(replace e:=Option.some.inj e;subst e)
   exact(k1.dom b ho hH).imp id fun zz0=>by obtain⟨o',h1,_⟩:=zz0;exact⟨o',h1,fun h=>by cases h⟩
  ·rw[AE _ _ hb]at e;exact k1.dom b o e⟩,hq⟩) fun O O x=>x

theorem F9{G:Cx}{A:Around}{F:Fx}{H:AH}{Q:PV→AH→Prop}{l:Addr}{β:Type}{xs:List β}{g:β→PV}{kx:β→Int}{o:Obj}{n:Int}(hK:G.K=KK G)(hF:FnF A (fnOf (KK G) 90).scope F)(hA:A.depth<850∧A.units<8500)(hh:A.handled=none)
  (hg:∀ x,BU [g x] [g x]=some false) (hkey:∀[Zz] (A':Around),A'.depth<900∧A'.units<9000→∀ x∈xs,∀ H',AH.le H H'→OpC G A' (.fnc o) [g x] H' (fun p H''=>p=.int (kx x)∧H''=H'))
  (hH:H l=some (.fro (xs.map g))) (hz:xs.length<100000) (hn:n<xs.length) (hQ:∀ a,H a=none→Q (.ref a) (H.set a (.lst (((AO (fun x y=>Cu (kx x) (kx y)) xs).take n.toNat).map g)))) :
  Exs G F ((BC (fnOf (KK G) 90)).drop 3) (((Loc.nil.set "n" (.int n)).set "iterable" (.ref l)).set "key" (.fnc o)) H (fun f O H'=>match f with | .ret p=>Q p H' | _=>Q .none H'):=by
 have hFA:F.A.depth<880∧F.A.units<8800:=hF.room hA (by decide) (by decide)
 have hFA9:F.A.depth<900∧F.A.units<9000:=hF.room hA (by decide) (by decide)
 have hu9:F.A.units+9<cLine:=hF.lt9 hA.2 (by decide)
 have hFh:F.A.handled=none:=by rw[hF.handled];exact hh
 obtain⟨m,hm⟩:∃ m,n.toNat=m:=⟨_,rfl⟩
 have hml:m≤xs.length:=by exact G5 hm hn
 have T:Tot Cu:=tot_lt
 have hsg:(1:Int)=1∨(1:Int) = -1:=by decide
 have htl:∀ x,BU ((fun x=>[g x]) x) ((fun x=>[g x]) x)=some false:=hg
 have hff:∀ p q:β × Nat,(fun x y=>IA y x) (fT kx (1) (fun x=>[g x]) p) (fT kx (1) (fun x=>[g x]) q)=Hp Cu kx p q:=fun p q=>congrFun (congrFun (JS kx) q) p
 obtain⟨ps,hps⟩:∃ ps,turns (xs.take m) 0=ps:=⟨_,rfl⟩
 have hpl:ps.length=m:=by rw[← hps,CW,List.length_take];exact Nat.min_eq_left hml
 have hget:∀ i,i<m→∃ x,x∈xs∧xs[i]?=some x∧ps[i]?=some (x,i):=fun i hi=>by
  obtain⟨x,hx⟩:∃ x,xs[i]?=some x:=⟨_,List.getElem?_eq_getElem (by exact Nat.le_trans hi hml)⟩
  refine⟨x,List.mem_of_getElem? hx,hx,?_⟩
  rw[← hps,CX (xs.take m) 0 i _ (by rw[List.getElem?_take,if_pos hi];exact hx),Nat.zero_add]
 show Exs G F (_::_) _ _ _
 refine Ce (l:=l) (ho:=.fro (xs.map g)) hK (AD hF (by kernel_rfl)) (by kernel_rfl) Gt hH (AD hF (by kernel_rfl)) fun I=>?_
 refine ED (Loc.nil.set "key" (.fnc o)) (n:=m) (a:=0) (b:=n) (c:=1) (xs:=xs.map g) (fun i=>(ps.map (fT kx (1) (fun x=>[g x]))).getD i .none) hK hFh (AD hF (by kernel_rfl)) (by kernel_rfl) (by kernel_rfl) (A4 hF (by kernel_rfl)) (by(repeat (first | exact Ad _ | (refine Loc.le_set (BK (by kernel_rfl) Gt) ?_)))) (AD hF (by kernel_rfl)) (by kernel_rfl) (by kernel_rfl) Loc.here hH ?_ (by rw[Dv,hm]) (fun h0=>small_one (by exact Int.natCast_nonneg _) (by exact Int.natCast_nonneg _) (by exact Kj hm h0) (by exact Ki hn hz)) (by rw[List.length_map];exact hml) ?_ fun r hr=>?_
 ·refine CQ "range" hK (AD hF (by kernel_rfl)) (by kernel_rfl) (by decide +kernel) (by decide) ?_
  (with_reducible refine AN (A0 Gt BV) ?_)
  exact BO ⟨rfl,rfl⟩
 ·intro Z F' hF' i hi
  have him:=List.mem_range.mp hi
  refine AJ fun WW9 hW9=>?_
  obtain⟨x,hxm,hx,hpx⟩:=hget i him
  refine hW9 ?_
  clear hW9 WW9
  have e1:(xs.map g).getD i .none=g x:=by rw[List.getD_eq_getElem?_getD,List.getElem?_map,hx];rfl
  have e2:(ps.map (fT kx (1) (fun x=>[g x]))).getD i .none=fT kx (1) (fun x=>[g x]) (x,i):=by rw[List.getD_eq_getElem?_getD,List.getElem?_map,hpx];rfl
  dsimp only
  rw[e1,e2]
  refine Aj (by rw[hF'.A];exact hFh) rfl (AL (hF'.sto _ (.inl (by kernel_rfl))) (AL (hF'.sto _ (.inl (by kernel_rfl))) ?_))
  refine⟨rfl,?_⟩
  refine An ?_
  refine BB ?_
  refine AM (EH (o:=o) Gt ?_) (by with_unfolding_all rfl)
  (with_reducible refine AN (A0 Gt BV) ?_)
  refine OpC.mono (hkey F'.A (by rw[hF'.A];exact hFA9) x hxm _ (AH.le_refl _)) ?_
  refine Rf ?_
  (with_reducible refine AN (A0 Gt (A0 Gt BV)) ?_)
  refine⟨by rw[sizeLine_eq];exact Nat.le_of_ble_eq_true rfl,?_,AH.le_refl _⟩
  simp only[fT]
  rw[show(0:Int)+(i:Int)*(1)=(1)*(i:Int)by exact Kh]
 have hlist:(List.range m).map (fun i=>(ps.map (fT kx (1) (fun x=>[g x]))).getD i .none)=ps.map (fT kx (1) (fun x=>[g x])):=by
  have:=CI (ps.map (fT kx (1) (fun x=>[g x]))) PV.none
  rwa [List.length_map,hpl]at this
 rw[hlist]
 refine Aa (Af (DQ (EJ ?_)))
 (with_reducible refine V ?_ Gt)
 refine D3 (AA _ _ _) ?_
 rw[AC]
 by_cases hm0:m=0
 ·have hnil:ps=[]:=List.length_eq_zero_iff.mp (by exact hpl.trans hm0)
  subst hnil
  simp only[List.map_nil,List.isEmpty_nil,Bool.not_true,Bool.not_false,if_true]
  refine AR ?_
  (with_reducible refine V ?_ Gt)
  have:=hQ r hr
  rwa [hm,hm0,List.take_zero,List.map_nil]at this
 rw[show(ps.map (fT kx (1) (fun x=>[g x]))).isEmpty=false by
  cases ps with
  | nil=>exact absurd hpl (by simp;exact Ne.symm hm0)
  | cons p q=>rfl]
 simp only[Bool.not_false,Bool.not_true,Bool.false_eq_true,if_false]
 refine AF (Aa (EF (A9 (fa:=56) hK (AD hF (by kernel_rfl)) (by kernel_rfl) (by kernel_rfl) ?_)))
 (with_reducible refine AN (A0 Gt BV) ?_)
 have hpsn:(ps.map (·.2)).Nodup:=by rw[← hps];exact Bj _ _
 refine Et (f:=fT kx (1) (fun x=>[g x])) (lt:=Hp Cu kx) (ltb:=(fun x y=>IA y x)) (S:=GI (fT kx (1) (fun x=>[g x])) ps) (xs:=ps) hK hFA hFh (by exact G4 hpl hml hz) (IU hsg htl (Bu hpsn)) (fun q hq=>⟨q,hq,rfl⟩) hff (Hp.swo T) (AA _ _ _) fun ys hp hhp=>?_
 rw[AH.set_set]
 have S0:Sel Cu kx m m (xs.take m) ys:=by
  have:=Sel.start (bt:=Cu) (kx:=kx) T (xs:=xs.take m) (hp:=ys) (by rw[hps];exact hp)
  rwa [List.length_take,Nat.min_eq_left hml]at this
 cases ys with
 | nil=>exact absurd S0.len (by simp;exact Ne.symm hm0)
 | cons r0 hp0 =>
 refine Aa (Aq (AB hF (by kernel_rfl)) ?_)
 (with_reducible apply Bd;refine A3 (AQ Gt) Bl ?_)
 refine AK (AA _ _ _) (p:=fT kx (1) (fun x=>[g x]) r0) rfl ?_
 (with_reducible apply Au)
 refine DB (by exact Nat.le_of_ble_eq_true rfl) (p:=.int (kx r0.1)) rfl ?_
 refine Aa (Aq (AB hF (by kernel_rfl)) ?_)
 (with_reducible refine V ?_ Gt)
 refine Aa (Aq (AB hF (by kernel_rfl)) (EG (fa:=49) hK (AD hF (by kernel_rfl)) (by kernel_rfl) ?_))
 have hHl:l≠r:=by rintro rfl;rw[hH]at hr;injection hr
 refine EE (xs:=xs.map g) (l:=l) (fun j σ' H'=>∃ c r1 hp,Sel Cu kx m c (xs.take (m+j)) (r1::hp)∧HeapAt (Hp Cu kx) 0 (r1::hp)∧H'=H.set r (.lst ((r1::hp).map (fT kx (1) (fun x=>[g x])))) ∧
  σ'=((((Loc.nil.set "key" (.fnc o)).set "result" (.ref r)).set "top" (.int (kx r1.1))).set "order" (.int ((1)*(c:Int)))).set "_heapreplace" (.ref 49)) hFh Gt (by rw[AE _ _ hHl];exact hH) (by rw[List.length_map];exact hml) ⟨_,?_,m,r0,hp0,S0,hhp,rfl,rfl⟩ ?_ ?_
 ·rw[show(1:Int)*(m:Int)=n by exact Kg hm hm0]
  (exact Le)
 ·intro j p _ _ hpj zq9
  refine AJ fun WW9 hW9=>?_
  obtain⟨c,r1,hp,S,hhp,eq9_0,eq9_1⟩:=zq9
  refine hW9 ?_
  clear hW9 WW9
  subst eq9_0 eq9_1
  rw[List.getElem?_map]at hpj
  refine AJ fun WW9 hW9=>?_
  obtain⟨x,hx,eq9_0⟩:=Option.map_eq_some_iff.mp hpj
  refine hW9 ?_
  clear hW9 WW9
  subst eq9_0
  have hxm:=List.mem_of_getElem? hx
  have hlen:m≤(xs.take (m+j)).length:=by
   have:=(List.getElem?_eq_some_iff.mp hx).1
   rw[List.length_take];exact G3 this
  have hsn:xs.take (m+(j+1))=xs.take (m+j)++[x]:=Ay hx
  refine AL (AB hF (by kernel_rfl)) ?_
  refine AG (AB hF (by kernel_rfl)) (EH (o:=o) Gt ?_) rfl
  (with_reducible refine AN (A0 Gt BV) ?_)
  refine OpC.mono (hkey F.A hFA9 x hxm _ (AT hr)) ?_
  refine Rf ?_
  refine AI (Af ?_)
  (with_reducible refine A7 (AQ Gt) (AQ Gt) ?_;apply Bf)
  refine⟨Cu (kx x) (kx r1.1),rfl,?_⟩
  obtain⟨hin,hout⟩:=S.next T hhp (x:=x) hlen
  cases hb:Cu (kx x) (kx r1.1) with
  | true =>
   refine An ?_
   refine AJ fun WW9 hW9=>?_
   obtain⟨r',hp',e,S',hhp'⟩:=hin hb
   refine hW9 ?_
   clear hW9 WW9
   refine Ae (HW (fa:=49) hK Gt (by kernel_rfl) ?_) rfl
   (with_reducible refine BR (AQ Gt) ?_;refine AM ?_)
   refine BB ?_
   (with_reducible refine AN (A0 Gt (A0 Gt (A0 Gt BV))) ?_)
   refine⟨by rw[sizeLine_eq];exact Nat.le_of_ble_eq_true rfl,?_⟩
   (with_reducible apply AP)
   refine Cr (S:=GI (fT kx (1) (fun x=>[g x])) ((x,c)::r1::hp)) (lt:=(fun x y=>IA y x)) (y:=fT kx (1) (fun x=>[g x]) r1) (r:=hp.map (fT kx (1) (fun x=>[g x]))) (x:=fT kx (1) (fun x=>[g x]) (x,c)) hK hFA (IU hsg htl (S.inj x)) (AA _ _ _) (fun z hz=>?_) ⟨_,List.mem_cons_self,rfl⟩ ?_
   ·refine AJ fun WW9 hW9=>?_
    obtain⟨q,hq,eq9_0⟩:=List.mem_map.mp hz
    refine hW9 ?_
    clear hW9 WW9
    subst eq9_0
    exact⟨q,List.mem_cons_of_mem _ (List.mem_cons_of_mem _ hq),rfl⟩
   rw[AH.set_set,show(fT kx (1) (fun x=>[g x]) (x,c)::hp.map (fT kx (1) (fun x=>[g x])))=((x,c)::hp).map (fT kx (1) (fun x=>[g x]))from rfl,CS (lt:=Hp Cu kx) (ltb:=(fun x y=>IA y x)) (fT kx (1) (fun x=>[g x])) hff,e]
   refine AI (BW ?_)
   (with_reducible refine A3 (AQ Gt) Bl ?_)
   refine AK (AA _ _ _) (p:=fT kx (1) (fun x=>[g x]) r') rfl ?_
   refine Aj hFh rfl (AL (AB hF (by kernel_rfl)) (AL (AB hF (by kernel_rfl)) (AL (AB hF (by kernel_rfl)) ?_)))
   refine BI (p:=.int ((1)*(c:Int))) (AB hF (by kernel_rfl)) Gt ?_
   (with_reducible apply Au;apply DH)
   rw[show(1:Int)*(c:Int)+1=(1)*((c+1:Nat):Int)by exact rfl]
   refine AF (AF ⟨_,?_,c+1,r',hp',by rw[hsn];exact S',hhp',rfl,rfl⟩)
   (exact Le)
  | false =>
   refine A1 ?_
   refine AF (AF ⟨_,?_,c,r1,hp,by rw[hsn];exact hout hb,hhp,rfl,rfl⟩)
   (exact Le)
 ·intro _ _ zq9
  refine AJ fun WW9 hW9=>?_
  obtain⟨c,r1,hp,S,hhp,eq9_0,eq9_1⟩:=zq9
  refine hW9 ?_
  clear hW9 WW9
  subst eq9_0 eq9_1
  rw[List.length_map,List.take_of_length_le (show xs.length≤m+(xs.length - m)by exact G2)]at S
  have hfin:=S.fin T
  have hsl:=S.len
  refine Ae (Ei PySem.F.slot_list_sort rfl ?_ rfl rfl) rfl
  (with_reducible refine V ?_ Gt)
  refine⟨r,_,rfl,AA _ _ _,?_⟩
  refine JN hsg htl S.nd hu9 (AA _ _ _) (CY _) ?_
  rw[AH.set_set,JS kx]
  refine AR (Ev.drop (B4 (α:=β × Nat) (τ:=Loc.nil) (fT kx (1) (fun x=>[g x])) (fun O=>true) (fun q=>g q.1) (by kernel_rfl) (A4 hF (by kernel_rfl)) (Ad _) (Dk ?_)))
  (with_reducible refine V ?_ Gt)
  refine⟨r,_,AA _ _ _,?_⟩
  rw[AH.set_set,AC]
  refine⟨AO (Bt Cu kx) (r1::hp),BH hFh (AA _ _ _) (AS (AA _ _ _)),by rw[(AX _).length_eq,sizeLine_eq];exact G1 hsl hml hz,?_,?_⟩
  ·intro F' hF' q hq
   refine Aj (by rw[hF'.A];exact hFh) rfl (AL (hF'.sto _ (.inl (by kernel_rfl))) (AL (hF'.sto _ (.inl (by kernel_rfl))) (AL (hF'.sto _ (.inl (by kernel_rfl))) ?_)))
   refine⟨rfl,?_⟩
   refine An ?_
   (with_reducible refine V ?_ Gt)
   exact⟨rfl,AH.le_refl _⟩
  intro a2 ha2
  rw[A2]
  have k1:a2≠r:=by rintro rfl;rw[AA]at ha2;injection ha2
  rw[AE _ _ k1]at ha2
  refine⟨H.set a2 _,AH.le_set _ _ (AT hr),?_⟩
  have:=hQ a2 ha2
  rwa [hm,← hfin,List.map_map]at this

theorem F8{G:Cx}{A:Around}{F:Fx}{H:AH}{Q:PV→AH→Prop}{l:Addr}{xs:List Int}{n:Int}(hK:G.K=KK G)(hF:FnF A (fnOf (KK G) 90).scope F)(hA:A.depth<850∧A.units<8500)(hh:A.handled=none)
  (hH:H l=some (.fro (xs.map PV.int))) (hz:xs.length<100000) (hn:n<xs.length) (hQ:∀ a,H a=none→Q (.ref a) (H.set a (.lst (((AO (fun x y=>Cu ((fun x:Int=>x) x) ((fun x:Int=>x) y)) xs).take n.toNat).map PV.int)))) :
  Exs G F (LN (BC (fnOf (KK G) 90)) 2) (((Loc.nil.set "n" (.int n)).set "iterable" (.ref l)).set "key" .none) H (fun f O H'=>match f with | .ret p=>Q p H' | _=>False):=by
 have hFA:F.A.depth<880∧F.A.units<8800:=hF.room hA (by decide) (by decide)
 have hFA9:F.A.depth<900∧F.A.units<9000:=hF.room hA (by decide) (by decide)
 have hu9:F.A.units+9<cLine:=hF.lt9 hA.2 (by decide)
 have hFh:F.A.handled=none:=by rw[hF.handled];exact hh
 obtain⟨m,hm⟩:∃ m,n.toNat=m:=⟨_,rfl⟩
 have hml:m≤xs.length:=by exact G5 hm hn
 have T:Tot Cu:=tot_lt
 have hsg:(1:Int)=1∨(1:Int) = -1:=by decide
 have htl:∀ x,BU ((fun O:Int=>[]) x) ((fun O:Int=>[]) x)=some false:=fun O=>rfl
 have hff:∀ p q:Int × Nat,(fun x y=>IA y x) (fT (fun x:Int=>x) (1) (fun O:Int=>[]) p) (fT (fun x:Int=>x) (1) (fun O:Int=>[]) q)=Hp Cu (fun x:Int=>x) p q:=fun p q=>congrFun (congrFun (JS (fun x:Int=>x)) q) p
 obtain⟨ps,hps⟩:∃ ps,turns (xs.take m) 0=ps:=⟨_,rfl⟩
 have hpl:ps.length=m:=by rw[← hps,CW,List.length_take];exact Nat.min_eq_left hml
 have hget:∀ i,i<m→∃ x,x∈xs∧xs[i]?=some x∧ps[i]?=some (x,i):=fun i hi=>by
  obtain⟨x,hx⟩:∃ x,xs[i]?=some x:=⟨_,List.getElem?_eq_getElem (by exact Nat.le_trans hi hml)⟩
  refine⟨x,List.mem_of_getElem? hx,hx,?_⟩
  rw[← hps,CX (xs.take m) 0 i _ (by rw[List.getElem?_take,if_pos hi];exact hx),Nat.zero_add]
 show Exs G F (_::_) _ _ _
 refine Ce (l:=l) (ho:=.fro (xs.map PV.int)) hK (AD hF (by kernel_rfl)) (by kernel_rfl) Gt hH (AD hF (by kernel_rfl)) fun I=>?_
 refine ED (Loc.nil) (n:=m) (a:=0) (b:=n) (c:=1) (xs:=xs.map PV.int) (fun i=>(ps.map (fT (fun x:Int=>x) (1) (fun O:Int=>[]))).getD i .none) hK hFh (AD hF (by kernel_rfl)) (by kernel_rfl) (by kernel_rfl) (A4 hF (by kernel_rfl)) (Ad _) (AD hF (by kernel_rfl)) (by kernel_rfl) (by kernel_rfl) Loc.here hH ?_ (by rw[Dv,hm]) (fun h0=>small_one (by exact Int.natCast_nonneg _) (by exact Int.natCast_nonneg _) (by exact Kj hm h0) (by exact Ki hn hz)) (by rw[List.length_map];exact hml) ?_ fun r hr=>?_
 ·refine CQ "range" hK (AD hF (by kernel_rfl)) (by kernel_rfl) (by decide +kernel) (by decide) ?_
  (with_reducible refine AN (A0 Gt BV) ?_)
  exact BO ⟨rfl,rfl⟩
 ·intro Z F' hF' i hi
  have him:=List.mem_range.mp hi
  refine AJ fun WW9 hW9=>?_
  obtain⟨x,hxm,hx,hpx⟩:=hget i him
  refine hW9 ?_
  clear hW9 WW9
  have e1:(xs.map PV.int).getD i .none=PV.int x:=by rw[List.getD_eq_getElem?_getD,List.getElem?_map,hx];rfl
  have e2:(ps.map (fT (fun x:Int=>x) (1) (fun O:Int=>[]))).getD i .none=fT (fun x:Int=>x) (1) (fun O:Int=>[]) (x,i):=by simp only[List.getD_eq_getElem?_getD,List.getElem?_map,hpx];rfl
  dsimp only
  rw[e1,e2]
  refine Aj (by rw[hF'.A];exact hFh) rfl (AL (hF'.sto _ (.inl (by kernel_rfl))) (AL (hF'.sto _ (.inl (by kernel_rfl))) ?_))
  refine⟨rfl,?_⟩
  refine An ?_
  refine BB ?_
  (with_reducible refine AN (A0 Gt (A0 Gt BV)) ?_)
  refine⟨by simp only[sizeLine_eq];exact Nat.le_of_ble_eq_true rfl,?_,AH.le_refl _⟩
  simp only[fT]
  rw[show(0:Int)+(i:Int)*(1)=(1)*(i:Int)by exact Kh]
 have hlist:(List.range m).map (fun i=>(ps.map (fT (fun x:Int=>x) (1) (fun O:Int=>[]))).getD i .none)=ps.map (fT (fun x:Int=>x) (1) (fun O:Int=>[])):=by
  have:=CI (ps.map (fT (fun x:Int=>x) (1) (fun O:Int=>[]))) PV.none
  rwa [List.length_map,hpl]at this
 simp only[hlist]
 refine Aa (Af (DQ (EJ ?_)))
 (with_reducible refine V ?_ Gt)
 refine D3 (AA _ _ _) ?_
 dsimp only[AC]
 by_cases hm0:m=0
 ·have hnil:ps=[]:=List.length_eq_zero_iff.mp (by exact hpl.trans hm0)
  subst hnil
  simp only[List.map_nil,List.isEmpty_nil,Bool.not_true,Bool.not_false,if_true]
  refine AR ?_
  (with_reducible refine V ?_ Gt)
  have:=hQ r hr
  rwa [hm,hm0,List.take_zero,List.map_nil]at this
 rw[show(ps.map (fT (fun x:Int=>x) (1) (fun O:Int=>[]))).isEmpty=false by
  cases ps with
  | nil=>exact absurd hpl (by simp;exact Ne.symm hm0)
  | cons p q=>rfl]
 simp only[Bool.not_false,Bool.not_true,Bool.false_eq_true,if_false]
 refine AF (Aa (EF (A9 (fa:=56) hK (AD hF (by kernel_rfl)) (by kernel_rfl) (by kernel_rfl) ?_)))
 (with_reducible refine AN (A0 Gt BV) ?_)
 have hpsn:(ps.map (·.2)).Nodup:=by rw[← hps];exact Bj _ _
 refine Et (f:=fT (fun x:Int=>x) (1) (fun O:Int=>[])) (lt:=Hp Cu (fun x:Int=>x)) (ltb:=(fun x y=>IA y x)) (S:=GI (fT (fun x:Int=>x) (1) (fun O:Int=>[])) ps) (xs:=ps) hK hFA hFh (by exact G4 hpl hml hz) (IU hsg htl (Bu hpsn)) (fun q hq=>⟨q,hq,rfl⟩) hff (Hp.swo T) (AA _ _ _) fun ys hp hhp=>?_
 rw[AH.set_set]
 have S0:Sel Cu (fun x:Int=>x) m m (xs.take m) ys:=by
  have:=Sel.start (bt:=Cu) (kx:=(fun x:Int=>x)) T (xs:=xs.take m) (hp:=ys) (by rw[hps];exact hp)
  rwa [List.length_take,Nat.min_eq_left hml]at this
 cases ys with
 | nil=>exact absurd S0.len (by simp;exact Ne.symm hm0)
 | cons r0 hp0 =>
 refine Aa (Aq (AB hF (by kernel_rfl)) ?_)
 (with_reducible apply Bd;refine A3 (AQ Gt) Bl ?_)
 refine AK (AA _ _ _) (p:=fT (fun x:Int=>x) (1) (fun O:Int=>[]) r0) rfl ?_
 (with_reducible apply Au)
 refine DB (by exact Nat.le_of_ble_eq_true rfl) (p:=.int ((fun x:Int=>x) r0.1)) rfl ?_
 refine Aa (Aq (AB hF (by kernel_rfl)) ?_)
 (with_reducible refine V ?_ Gt)
 refine Aa (Aq (AB hF (by kernel_rfl)) (EG (fa:=49) hK (AD hF (by kernel_rfl)) (by kernel_rfl) ?_))
 have hHl:l≠r:=by rintro rfl;rw[hH]at hr;injection hr
 refine EE (xs:=xs.map PV.int) (l:=l) (fun j σ' H'=>∃ c r1 hp,Sel Cu (fun x:Int=>x) m c (xs.take (m+j)) (r1::hp)∧HeapAt (Hp Cu (fun x:Int=>x)) 0 (r1::hp)∧H'=H.set r (.lst ((r1::hp).map (fT (fun x:Int=>x) (1) (fun O:Int=>[])))) ∧
  σ'=(((Loc.nil.set "result" (.ref r)).set "top" (.int ((fun x:Int=>x) r1.1))).set "order" (.int ((1)*(c:Int)))).set "_heapreplace" (.ref 49)) hFh Gt (by rw[AE _ _ hHl];exact hH) (by rw[List.length_map];exact hml) ⟨_,?_,m,r0,hp0,S0,hhp,rfl,rfl⟩ ?_ ?_
 ·rw[show(1:Int)*(m:Int)=n by exact Kg hm hm0]
  (exact Le)
 ·intro j p _ _ hpj zq9
  refine AJ fun WW9 hW9=>?_
  obtain⟨c,r1,hp,S,hhp,eq9_0,eq9_1⟩:=zq9
  refine hW9 ?_
  clear hW9 WW9
  subst eq9_0 eq9_1
  rw[List.getElem?_map]at hpj
  refine AJ fun WW9 hW9=>?_
  obtain⟨x,hx,eq9_0⟩:=Option.map_eq_some_iff.mp hpj
  refine hW9 ?_
  clear hW9 WW9
  subst eq9_0
  have hxm:=List.mem_of_getElem? hx
  have hlen:m≤(xs.take (m+j)).length:=by
   have:=(List.getElem?_eq_some_iff.mp hx).1
   rw[List.length_take];exact G3 this
  have hsn:xs.take (m+(j+1))=xs.take (m+j)++[x]:=Ay hx
  refine AL (AB hF (by kernel_rfl)) ?_
  refine AI (Af ?_)
  (with_reducible refine A7 (AQ Gt) (AQ Gt) ?_;apply Bf)
  refine⟨Cu ((fun x:Int=>x) x) ((fun x:Int=>x) r1.1),rfl,?_⟩
  obtain⟨hin,hout⟩:=S.next T hhp (x:=x) hlen
  cases hb:Cu ((fun x:Int=>x) x) ((fun x:Int=>x) r1.1) with
  | true =>
   refine An ?_
   refine AJ fun WW9 hW9=>?_
   obtain⟨r',hp',e,S',hhp'⟩:=hin hb
   refine hW9 ?_
   clear hW9 WW9
   refine Ae (HW (fa:=49) hK Gt (by kernel_rfl) ?_) rfl
   (with_reducible refine BR (AQ Gt) ?_;refine AM ?_)
   refine BB ?_
   (with_reducible refine AN (A0 Gt (A0 Gt BV)) ?_)
   refine⟨by simp only[sizeLine_eq];exact Nat.le_of_ble_eq_true rfl,?_⟩
   (with_reducible apply AP)
   refine Cr (S:=GI (fT (fun x:Int=>x) (1) (fun O:Int=>[])) ((x,c)::r1::hp)) (lt:=(fun x y=>IA y x)) (y:=fT (fun x:Int=>x) (1) (fun O:Int=>[]) r1) (r:=hp.map (fT (fun x:Int=>x) (1) (fun O:Int=>[]))) (x:=fT (fun x:Int=>x) (1) (fun O:Int=>[]) (x,c)) hK hFA (IU hsg htl (S.inj x)) (AA _ _ _) (fun z hz=>?_) ⟨_,List.mem_cons_self,rfl⟩ ?_
   ·refine AJ fun WW9 hW9=>?_
    obtain⟨q,hq,eq9_0⟩:=List.mem_map.mp hz
    refine hW9 ?_
    clear hW9 WW9
    subst eq9_0
    exact⟨q,List.mem_cons_of_mem _ (List.mem_cons_of_mem _ hq),rfl⟩
   rw[AH.set_set,show(fT (fun x:Int=>x) (1) (fun O:Int=>[]) (x,c)::hp.map (fT (fun x:Int=>x) (1) (fun O:Int=>[])))=((x,c)::hp).map (fT (fun x:Int=>x) (1) (fun O:Int=>[]))from rfl,CS (lt:=Hp Cu (fun x:Int=>x)) (ltb:=(fun x y=>IA y x)) (fT (fun x:Int=>x) (1) (fun O:Int=>[])) hff,e]
   refine AI (BW ?_)
   (with_reducible refine A3 (AQ Gt) Bl ?_)
   refine AK (AA _ _ _) (p:=fT (fun x:Int=>x) (1) (fun O:Int=>[]) r') rfl ?_
   refine Aj hFh rfl (AL (AB hF (by kernel_rfl)) (AL (AB hF (by kernel_rfl)) ?_))
   refine BI (p:=.int ((1)*(c:Int))) (AB hF (by kernel_rfl)) Gt ?_
   (with_reducible apply Au;apply DH)
   rw[show(1:Int)*(c:Int)+1=(1)*((c+1:Nat):Int)by exact rfl]
   refine AF (AF ⟨_,?_,c+1,r',hp',by rw[hsn];exact S',hhp',rfl,rfl⟩)
   (exact Le)
  | false =>
   refine A1 ?_
   refine AF (AF ⟨_,?_,c,r1,hp,by rw[hsn];exact hout hb,hhp,rfl,rfl⟩)
   (exact Le)
 ·intro _ _ zq9
  refine AJ fun WW9 hW9=>?_
  obtain⟨c,r1,hp,S,hhp,eq9_0,eq9_1⟩:=zq9
  refine hW9 ?_
  clear hW9 WW9
  subst eq9_0 eq9_1
  rw[List.length_map,List.take_of_length_le (show xs.length≤m+(xs.length - m)by exact G2)]at S
  have hfin:=S.fin T
  have hsl:=S.len
  refine Ae (Ei PySem.F.slot_list_sort rfl ?_ rfl rfl) rfl
  (with_reducible refine V ?_ Gt)
  refine⟨r,_,rfl,AA _ _ _,?_⟩
  refine JN hsg htl S.nd hu9 (AA _ _ _) (CY _) ?_
  rw[AH.set_set,JS (fun x:Int=>x)]
  refine AR (Ev.drop (B4 (α:=Int × Nat) (τ:=Loc.nil) (fT (fun x:Int=>x) (1) (fun O:Int=>[])) (fun O=>true) (fun q=>PV.int q.1) (by kernel_rfl) (A4 hF (by kernel_rfl)) (Ad _) (Dk ?_)))
  (with_reducible refine V ?_ Gt)
  refine⟨r,_,AA _ _ _,?_⟩
  rw[AH.set_set,AC]
  refine⟨AO (Bt Cu (fun x:Int=>x)) (r1::hp),BH hFh (AA _ _ _) (AS (AA _ _ _)),by rw[(AX _).length_eq,sizeLine_eq];exact G1 hsl hml hz,?_,?_⟩
  ·intro F' hF' q hq
   refine Aj (by rw[hF'.A];exact hFh) rfl (AL (hF'.sto _ (.inl (by kernel_rfl))) (AL (hF'.sto _ (.inl (by kernel_rfl))) ?_))
   refine⟨rfl,?_⟩
   refine An ?_
   (with_reducible refine V ?_ Gt)
   exact⟨rfl,AH.le_refl _⟩
  intro a2 ha2
  rw[A2]
  have k1:a2≠r:=by rintro rfl;rw[AA]at ha2;injection ha2
  rw[AE _ _ k1]at ha2
  refine⟨H.set a2 _,AH.le_set _ _ (AT hr),?_⟩
  have:=hQ a2 ha2
  rwa [hm,← hfin,List.map_map]at this

theorem HD{G:Cx}{A:Around}{F:Fx}{H:AH}{Q:PV→AH→Prop}{l:Addr}{β:Type}{xs:List β}{g:β→PV}{kx:β→Int}{o:Obj}{n:Int}(hK:G.K=KK G)(hF:FnF A (fnOf (KK G) 96).scope F)(hA:A.depth<850∧A.units<8500)(hh:A.handled=none)
  (hg:∀ x,BU [g x] [g x]=some false) (hkey:∀[Zz] (A':Around),A'.depth<900∧A'.units<9000→∀ x∈xs,∀ H',AH.le H H'→OpC G A' (.fnc o) [g x] H' (fun p H''=>p=.int (kx x)∧H''=H'))
  (hH:H l=some (.fro (xs.map g))) (hz:xs.length<100000) (hn:n<xs.length) (hQ:∀ a,H a=none→Q (.ref a) (H.set a (.lst (((AO (fun x y=>Cg (kx x) (kx y)) xs).take n.toNat).map g)))) :
  Exs G F ((BC (fnOf (KK G) 96)).drop 3) (((Loc.nil.set "n" (.int n)).set "iterable" (.ref l)).set "key" (.fnc o)) H (fun f O H'=>match f with | .ret p=>Q p H' | _=>Q .none H'):=by
 have hFA:F.A.depth<880∧F.A.units<8800:=hF.room hA (by decide) (by decide)
 have hFA9:F.A.depth<900∧F.A.units<9000:=hF.room hA (by decide) (by decide)
 have hu9:F.A.units+9<cLine:=hF.lt9 hA.2 (by decide)
 have hFh:F.A.handled=none:=by rw[hF.handled];exact hh
 obtain⟨m,hm⟩:∃ m,n.toNat=m:=⟨_,rfl⟩
 have hml:m≤xs.length:=by exact G5 hm hn
 have T:Tot Cg:=Ij
 have hsg:(-1:Int)=1∨(-1:Int) = -1:=by decide
 have htl:∀ x,BU ((fun x=>[g x]) x) ((fun x=>[g x]) x)=some false:=hg
 have hff:∀ p q:β × Nat,IA (fT kx (-1) (fun x=>[g x]) p) (fT kx (-1) (fun x=>[g x]) q)=Hp Cg kx p q:=fun p q=>congrFun (congrFun (JT kx) p) q
 obtain⟨ps,hps⟩:∃ ps,turns (xs.take m) 0=ps:=⟨_,rfl⟩
 have hpl:ps.length=m:=by simp only[← hps,CW,List.length_take];exact Nat.min_eq_left hml
 have hget:∀ i,i<m→∃ x,x∈xs∧xs[i]?=some x∧ps[i]?=some (x,i):=fun i hi=>by
  obtain⟨x,hx⟩:∃ x,xs[i]?=some x:=⟨_,List.getElem?_eq_getElem (by exact Nat.le_trans hi hml)⟩
  refine⟨x,List.mem_of_getElem? hx,hx,?_⟩
  simp only[← hps,CX (xs.take m) 0 i _ (by rw[List.getElem?_take,if_pos hi];exact hx),Nat.zero_add]
 show Exs G F (_::_) _ _ _
 refine Ce (l:=l) (ho:=.fro (xs.map g)) hK (AD hF (by kernel_rfl)) (by kernel_rfl) Gt hH (AD hF (by kernel_rfl)) fun I=>?_
 refine ED (Loc.nil.set "key" (.fnc o)) (n:=m) (a:=0) (b := -n) (c := -1) (xs:=xs.map g) (fun i=>(ps.map (fT kx (-1) (fun x=>[g x]))).getD i .none) hK hFh (AD hF (by kernel_rfl)) (by kernel_rfl) (by kernel_rfl) (A4 hF (by kernel_rfl)) (by(repeat (first | exact Ad _ | (refine Loc.le_set (BK (by kernel_rfl) Gt) ?_)))) (AD hF (by kernel_rfl)) (by kernel_rfl) (by kernel_rfl) Loc.here hH ?_ (by rw[CJ,hm]) (fun h0=>FS (by exact Kf hm h0) (by exact Ke hn hz)) (by rw[List.length_map];exact hml) ?_ fun r hr=>?_
 ·refine CQ "range" hK (AD hF (by kernel_rfl)) (by kernel_rfl) (by decide +kernel) (by decide) ?_
  (with_reducible refine AN (JK Bl (JK (Gm (AQ Gt)) (JK (Gm Bl) BV))) ?_)
  exact ET (by decide) (by decide) ⟨rfl,rfl⟩
 ·intro Z F' hF' i hi
  have him:=List.mem_range.mp hi
  refine AJ fun WW9 hW9=>?_
  obtain⟨x,hxm,hx,hpx⟩:=hget i him
  refine hW9 ?_
  clear hW9 WW9
  have e1:(xs.map g).getD i .none=g x:=by simp only[List.getD_eq_getElem?_getD,List.getElem?_map,hx];rfl
  have e2:(ps.map (fT kx (-1) (fun x=>[g x]))).getD i .none=fT kx (-1) (fun x=>[g x]) (x,i):=by simp only[List.getD_eq_getElem?_getD,List.getElem?_map,hpx];rfl
  dsimp only
  rw[e1,e2]
  refine Aj (by rw[hF'.A];exact hFh) rfl (AL (hF'.sto _ (.inl (by kernel_rfl))) (AL (hF'.sto _ (.inl (by kernel_rfl))) ?_))
  refine⟨rfl,?_⟩
  refine An ?_
  refine BB ?_
  refine AM (EH (o:=o) Gt ?_) (by with_unfolding_all rfl)
  (with_reducible refine AN (A0 Gt BV) ?_)
  refine OpC.mono (hkey F'.A (by rw[hF'.A];exact hFA9) x hxm _ (AH.le_refl _)) ?_
  refine Rf ?_
  (with_reducible refine AN (A0 Gt (A0 Gt BV)) ?_)
  refine⟨by simp only[sizeLine_eq];exact Nat.le_of_ble_eq_true rfl,?_,AH.le_refl _⟩
  simp only[fT]
  rw[show(0:Int)+(i:Int)*(-1)=(-1)*(i:Int)by exact Kd]
 have hlist:(List.range m).map (fun i=>(ps.map (fT kx (-1) (fun x=>[g x]))).getD i .none)=ps.map (fT kx (-1) (fun x=>[g x])):=by
  have:=CI (ps.map (fT kx (-1) (fun x=>[g x]))) PV.none
  rwa [List.length_map,hpl]at this
 simp only[hlist]
 refine Aa (Af (DQ (EJ ?_)))
 (with_reducible refine V ?_ Gt)
 refine D3 (AA _ _ _) ?_
 dsimp only[AC]
 by_cases hm0:m=0
 ·have hnil:ps=[]:=List.length_eq_zero_iff.mp (by exact hpl.trans hm0)
  subst hnil
  simp only[List.map_nil,List.isEmpty_nil,Bool.not_true,Bool.not_false,if_true]
  refine AR ?_
  (with_reducible refine V ?_ Gt)
  have:=hQ r hr
  rwa [hm,hm0,List.take_zero,List.map_nil]at this
 rw[show(ps.map (fT kx (-1) (fun x=>[g x]))).isEmpty=false by
  cases ps with
  | nil=>exact absurd hpl (by simp;exact Ne.symm hm0)
  | cons p q=>rfl]
 simp only[Bool.not_false,Bool.not_true,Bool.false_eq_true,if_false]
 refine AF (Aa (EF (A9 (fa:=42) hK (AD hF (by kernel_rfl)) (by kernel_rfl) (by kernel_rfl) ?_)))
 (with_reducible refine AN (A0 Gt BV) ?_)
 have hpsn:(ps.map (·.2)).Nodup:=by rw[← hps];exact Bj _ _
 refine Fn (f:=fT kx (-1) (fun x=>[g x])) (lt:=Hp Cg kx) (ltb:=IA) (S:=GI (fT kx (-1) (fun x=>[g x])) ps) (xs:=ps) hK hFA hFh (by exact G4 hpl hml hz) (IU hsg htl (Bu hpsn)) (fun q hq=>⟨q,hq,rfl⟩) hff (Hp.swo T) (AA _ _ _) fun ys hp hhp=>?_
 rw[AH.set_set]
 have S0:Sel Cg kx m m (xs.take m) ys:=by
  have:=Sel.start (bt:=Cg) (kx:=kx) T (xs:=xs.take m) (hp:=ys) (by rw[hps];exact hp)
  rwa [List.length_take,Nat.min_eq_left hml]at this
 cases ys with
 | nil=>exact absurd S0.len (by simp;exact Ne.symm hm0)
 | cons r0 hp0 =>
 refine Aa (Aq (AB hF (by kernel_rfl)) ?_)
 (with_reducible apply Bd;refine A3 (AQ Gt) Bl ?_)
 refine AK (AA _ _ _) (p:=fT kx (-1) (fun x=>[g x]) r0) rfl ?_
 (with_reducible apply Au)
 refine DB (by exact Nat.le_of_ble_eq_true rfl) (p:=.int (kx r0.1)) rfl ?_
 refine Aa (Aq (AB hF (by kernel_rfl)) ?_)
 (with_reducible refine Gh (Gm (AQ Gt)) ?_)
 refine Aa (Aq (AB hF (by kernel_rfl)) (EG (fa:=35) hK (AD hF (by kernel_rfl)) (by kernel_rfl) ?_))
 have hHl:l≠r:=by rintro rfl;rw[hH]at hr;injection hr
 refine EE (xs:=xs.map g) (l:=l) (fun j σ' H'=>∃ c r1 hp,Sel Cg kx m c (xs.take (m+j)) (r1::hp)∧HeapAt (Hp Cg kx) 0 (r1::hp)∧H'=H.set r (.lst ((r1::hp).map (fT kx (-1) (fun x=>[g x])))) ∧
  σ'=((((Loc.nil.set "key" (.fnc o)).set "result" (.ref r)).set "top" (.int (kx r1.1))).set "order" (.int ((-1)*(c:Int)))).set "_heapreplace" (.ref 35)) hFh Gt (by rw[AE _ _ hHl];exact hH) (by rw[List.length_map];exact hml) ⟨_,?_,m,r0,hp0,S0,hhp,rfl,rfl⟩ ?_ ?_
 ·rw[show(-1:Int)*(m:Int) = -n by exact Kc hm hm0]
  (exact Le)
 ·intro j p _ _ hpj zq9
  refine AJ fun WW9 hW9=>?_
  obtain⟨c,r1,hp,S,hhp,eq9_0,eq9_1⟩:=zq9
  refine hW9 ?_
  clear hW9 WW9
  subst eq9_0 eq9_1
  rw[List.getElem?_map]at hpj
  refine AJ fun WW9 hW9=>?_
  obtain⟨x,hx,eq9_0⟩:=Option.map_eq_some_iff.mp hpj
  refine hW9 ?_
  clear hW9 WW9
  subst eq9_0
  have hxm:=List.mem_of_getElem? hx
  have hlen:m≤(xs.take (m+j)).length:=by
   have:=(List.getElem?_eq_some_iff.mp hx).1
   rw[List.length_take];exact G3 this
  have hsn:xs.take (m+(j+1))=xs.take (m+j)++[x]:=Ay hx
  refine AL (AB hF (by kernel_rfl)) ?_
  refine AG (AB hF (by kernel_rfl)) (EH (o:=o) Gt ?_) rfl
  (with_reducible refine AN (A0 Gt BV) ?_)
  refine OpC.mono (hkey F.A hFA9 x hxm _ (AT hr)) ?_
  refine Rf ?_
  refine AI (Af ?_)
  (with_reducible refine A7 (AQ Gt) (AQ Gt) ?_;apply Bf)
  refine⟨Cg (kx x) (kx r1.1),rfl,?_⟩
  obtain⟨hin,hout⟩:=S.next T hhp (x:=x) hlen
  cases hb:Cg (kx x) (kx r1.1) with
  | true =>
   refine An ?_
   refine AJ fun WW9 hW9=>?_
   obtain⟨r',hp',e,S',hhp'⟩:=hin hb
   refine hW9 ?_
   clear hW9 WW9
   refine Ae (HW (fa:=35) hK Gt (by kernel_rfl) ?_) rfl
   (with_reducible refine BR (AQ Gt) ?_;refine AM ?_)
   refine BB ?_
   (with_reducible refine AN (A0 Gt (A0 Gt (A0 Gt BV))) ?_)
   refine⟨by simp only[sizeLine_eq];exact Nat.le_of_ble_eq_true rfl,?_⟩
   (with_reducible apply AP)
   refine CN (S:=GI (fT kx (-1) (fun x=>[g x])) ((x,c)::r1::hp)) (lt:=IA) (y:=fT kx (-1) (fun x=>[g x]) r1) (r:=hp.map (fT kx (-1) (fun x=>[g x]))) (x:=fT kx (-1) (fun x=>[g x]) (x,c)) hK hFA (IU hsg htl (S.inj x)) (AA _ _ _) (fun z hz=>?_) ⟨_,List.mem_cons_self,rfl⟩ ?_
   ·refine AJ fun WW9 hW9=>?_
    obtain⟨q,hq,eq9_0⟩:=List.mem_map.mp hz
    refine hW9 ?_
    clear hW9 WW9
    subst eq9_0
    exact⟨q,List.mem_cons_of_mem _ (List.mem_cons_of_mem _ hq),rfl⟩
   rw[AH.set_set,show(fT kx (-1) (fun x=>[g x]) (x,c)::hp.map (fT kx (-1) (fun x=>[g x])))=((x,c)::hp).map (fT kx (-1) (fun x=>[g x]))from rfl,CS (lt:=Hp Cg kx) (ltb:=IA) (fT kx (-1) (fun x=>[g x])) hff,e]
   refine AI (BW ?_)
   (with_reducible refine A3 (AQ Gt) Bl ?_)
   refine AK (AA _ _ _) (p:=fT kx (-1) (fun x=>[g x]) r') rfl ?_
   refine Aj hFh rfl (AL (AB hF (by kernel_rfl)) (AL (AB hF (by kernel_rfl)) (AL (AB hF (by kernel_rfl)) ?_)))
   refine BI (p:=.int ((-1)*(c:Int))) (AB hF (by kernel_rfl)) Gt ?_
   (with_reducible apply Au)
   refine JP ?_
   rw[show(-1:Int)*(c:Int) - 1=(-1)*((c+1:Nat):Int)by exact Kb]
   refine AF (AF ⟨_,?_,c+1,r',hp',by rw[hsn];exact S',hhp',rfl,rfl⟩)
   (exact Le)
  | false =>
   refine A1 ?_
   refine AF (AF ⟨_,?_,c,r1,hp,by rw[hsn];exact hout hb,hhp,rfl,rfl⟩)
   (exact Le)
 ·intro _ _ zq9
  refine AJ fun WW9 hW9=>?_
  obtain⟨c,r1,hp,S,hhp,eq9_0,eq9_1⟩:=zq9
  refine hW9 ?_
  clear hW9 WW9
  subst eq9_0 eq9_1
  rw[List.length_map,List.take_of_length_le (show xs.length≤m+(xs.length - m)by exact G2)]at S
  have hfin:=S.fin T
  have hsl:=S.len
  refine Ae (Gj [Str.ofString "reverse"] PySem.F.slot_list_sort rfl ?_) rfl
  (with_reducible refine V ?_ Gt)
  refine⟨r,_,rfl,AA _ _ _,?_⟩
  refine Bq ?_
  (with_reducible apply HX)
  refine Cp ?_
  refine JO hsg htl S.nd hu9 (AA _ _ _) (CY _) ?_
  simp only[AH.set_set,show(fun p q=>JU kx (-1) q p)=Bt Cg kx from by rw[JT];rfl]
  refine AR (Ev.drop (B4 (α:=β × Nat) (τ:=Loc.nil) (fT kx (-1) (fun x=>[g x])) (fun O=>true) (fun q=>g q.1) (by kernel_rfl) (A4 hF (by kernel_rfl)) (Ad _) (Dk ?_)))
  (with_reducible refine V ?_ Gt)
  refine⟨r,_,AA _ _ _,?_⟩
  rw[AH.set_set,AC]
  refine⟨AO (Bt Cg kx) (r1::hp),BH hFh (AA _ _ _) (AS (AA _ _ _)),by rw[(AX _).length_eq,sizeLine_eq];exact G1 hsl hml hz,?_,?_⟩
  ·intro F' hF' q hq
   refine Aj (by rw[hF'.A];exact hFh) rfl (AL (hF'.sto _ (.inl (by kernel_rfl))) (AL (hF'.sto _ (.inl (by kernel_rfl))) (AL (hF'.sto _ (.inl (by kernel_rfl))) ?_)))
   refine⟨rfl,?_⟩
   refine An ?_
   (with_reducible refine V ?_ Gt)
   exact⟨rfl,AH.le_refl _⟩
  intro a2 ha2
  rw[A2]
  have k1:a2≠r:=by rintro rfl;rw[AA]at ha2;injection ha2
  rw[AE _ _ k1]at ha2
  refine⟨H.set a2 _,AH.le_set _ _ (AT hr),?_⟩
  have:=hQ a2 ha2
  rwa [hm,← hfin,List.map_map]at this

theorem HC{G:Cx}{A:Around}{F:Fx}{H:AH}{Q:PV→AH→Prop}{l:Addr}{xs:List Int}{n:Int}(hK:G.K=KK G)(hF:FnF A (fnOf (KK G) 96).scope F)(hA:A.depth<850∧A.units<8500)(hh:A.handled=none)
  (hH:H l=some (.fro (xs.map PV.int))) (hz:xs.length<100000) (hn:n<xs.length) (hQ:∀ a,H a=none→Q (.ref a) (H.set a (.lst (((AO (fun x y=>Cg ((fun x:Int=>x) x) ((fun x:Int=>x) y)) xs).take n.toNat).map PV.int)))) :
  Exs G F (LN (BC (fnOf (KK G) 96)) 2) (((Loc.nil.set "n" (.int n)).set "iterable" (.ref l)).set "key" .none) H (fun f O H'=>match f with | .ret p=>Q p H' | _=>False):=by
 have hFA:F.A.depth<880∧F.A.units<8800:=hF.room hA (by decide) (by decide)
 have hFA9:F.A.depth<900∧F.A.units<9000:=hF.room hA (by decide) (by decide)
 have hu9:F.A.units+9<cLine:=hF.lt9 hA.2 (by decide)
 have hFh:F.A.handled=none:=by rw[hF.handled];exact hh
 obtain⟨m,hm⟩:∃ m,n.toNat=m:=⟨_,rfl⟩
 have hml:m≤xs.length:=by exact G5 hm hn
 have T:Tot Cg:=Ij
 have hsg:(-1:Int)=1∨(-1:Int) = -1:=by decide
 have htl:∀ x,BU ((fun O:Int=>[]) x) ((fun O:Int=>[]) x)=some false:=fun O=>rfl
 have hff:∀ p q:Int × Nat,IA (fT (fun x:Int=>x) (-1) (fun O:Int=>[]) p) (fT (fun x:Int=>x) (-1) (fun O:Int=>[]) q)=Hp Cg (fun x:Int=>x) p q:=fun p q=>congrFun (congrFun (JT (fun x:Int=>x)) p) q
 obtain⟨ps,hps⟩:∃ ps,turns (xs.take m) 0=ps:=⟨_,rfl⟩
 have hpl:ps.length=m:=by rw[← hps,CW,List.length_take];exact Nat.min_eq_left hml
 have hget:∀ i,i<m→∃ x,x∈xs∧xs[i]?=some x∧ps[i]?=some (x,i):=fun i hi=>by
  obtain⟨x,hx⟩:∃ x,xs[i]?=some x:=⟨_,List.getElem?_eq_getElem (by exact Nat.le_trans hi hml)⟩
  refine⟨x,List.mem_of_getElem? hx,hx,?_⟩
  rw[← hps,CX (xs.take m) 0 i _ (by rw[List.getElem?_take,if_pos hi];exact hx),Nat.zero_add]
 show Exs G F (_::_) _ _ _
 refine Ce (l:=l) (ho:=.fro (xs.map PV.int)) hK (AD hF (by kernel_rfl)) (by kernel_rfl) Gt hH (AD hF (by kernel_rfl)) fun I=>?_
 refine ED (Loc.nil) (n:=m) (a:=0) (b := -n) (c := -1) (xs:=xs.map PV.int) (fun i=>(ps.map (fT (fun x:Int=>x) (-1) (fun O:Int=>[]))).getD i .none) hK hFh (AD hF (by kernel_rfl)) (by kernel_rfl) (by kernel_rfl) (A4 hF (by kernel_rfl)) (Ad _) (AD hF (by kernel_rfl)) (by kernel_rfl) (by kernel_rfl) Loc.here hH ?_ (by rw[CJ,hm]) (fun h0=>FS (by exact Kf hm h0) (by exact Ke hn hz)) (by rw[List.length_map];exact hml) ?_ fun r hr=>?_
 ·refine CQ "range" hK (AD hF (by kernel_rfl)) (by kernel_rfl) (by decide +kernel) (by decide) ?_
  (with_reducible refine AN (JK Bl (JK (Gm (AQ Gt)) (JK (Gm Bl) BV))) ?_)
  exact ET (by decide) (by decide) ⟨rfl,rfl⟩
 ·intro Z F' hF' i hi
  have him:=List.mem_range.mp hi
  refine AJ fun WW9 hW9=>?_
  obtain⟨x,hxm,hx,hpx⟩:=hget i him
  refine hW9 ?_
  clear hW9 WW9
  have e1:(xs.map PV.int).getD i .none=PV.int x:=by rw[List.getD_eq_getElem?_getD,List.getElem?_map,hx];rfl
  have e2:(ps.map (fT (fun x:Int=>x) (-1) (fun O:Int=>[]))).getD i .none=fT (fun x:Int=>x) (-1) (fun O:Int=>[]) (x,i):=by simp only[List.getD_eq_getElem?_getD,List.getElem?_map,hpx];rfl
  dsimp only
  rw[e1,e2]
  refine Aj (by rw[hF'.A];exact hFh) rfl (AL (hF'.sto _ (.inl (by kernel_rfl))) (AL (hF'.sto _ (.inl (by kernel_rfl))) ?_))
  refine⟨rfl,?_⟩
  refine An ?_
  refine BB ?_
  (with_reducible refine AN (A0 Gt (A0 Gt BV)) ?_)
  refine⟨by simp only[sizeLine_eq];exact Nat.le_of_ble_eq_true rfl,?_,AH.le_refl _⟩
  simp only[fT]
  rw[show(0:Int)+(i:Int)*(-1)=(-1)*(i:Int)by exact Kd]
 have hlist:(List.range m).map (fun i=>(ps.map (fT (fun x:Int=>x) (-1) (fun O:Int=>[]))).getD i .none)=ps.map (fT (fun x:Int=>x) (-1) (fun O:Int=>[])):=by
  have:=CI (ps.map (fT (fun x:Int=>x) (-1) (fun O:Int=>[]))) PV.none
  rwa [List.length_map,hpl]at this
 simp only[hlist]
 refine Aa (Af (DQ (EJ ?_)))
 (with_reducible refine V ?_ Gt)
 refine D3 (AA _ _ _) ?_
 dsimp only[AC]
 by_cases hm0:m=0
 ·have hnil:ps=[]:=List.length_eq_zero_iff.mp (by exact hpl.trans hm0)
  subst hnil
  simp only[List.map_nil,List.isEmpty_nil,Bool.not_true,Bool.not_false,if_true]
  refine AR ?_
  (with_reducible refine V ?_ Gt)
  have:=hQ r hr
  rwa [hm,hm0,List.take_zero,List.map_nil]at this
 rw[show(ps.map (fT (fun x:Int=>x) (-1) (fun O:Int=>[]))).isEmpty=false by
  cases ps with
  | nil=>exact absurd hpl (by simp;exact Ne.symm hm0)
  | cons p q=>rfl]
 simp only[Bool.not_false,Bool.not_true,Bool.false_eq_true,if_false]
 refine AF (Aa (EF (A9 (fa:=42) hK (AD hF (by kernel_rfl)) (by kernel_rfl) (by kernel_rfl) ?_)))
 (with_reducible refine AN (A0 Gt BV) ?_)
 have hpsn:(ps.map (·.2)).Nodup:=by rw[← hps];exact Bj _ _
 refine Fn (f:=fT (fun x:Int=>x) (-1) (fun O:Int=>[])) (lt:=Hp Cg (fun x:Int=>x)) (ltb:=IA) (S:=GI (fT (fun x:Int=>x) (-1) (fun O:Int=>[])) ps) (xs:=ps) hK hFA hFh (by exact G4 hpl hml hz) (IU hsg htl (Bu hpsn)) (fun q hq=>⟨q,hq,rfl⟩) hff (Hp.swo T) (AA _ _ _) fun ys hp hhp=>?_
 rw[AH.set_set]
 have S0:Sel Cg (fun x:Int=>x) m m (xs.take m) ys:=by
  have:=Sel.start (bt:=Cg) (kx:=(fun x:Int=>x)) T (xs:=xs.take m) (hp:=ys) (by rw[hps];exact hp)
  rwa [List.length_take,Nat.min_eq_left hml]at this
 cases ys with
 | nil=>exact absurd S0.len (by simp;exact Ne.symm hm0)
 | cons r0 hp0 =>
 refine Aa (Aq (AB hF (by kernel_rfl)) ?_)
 (with_reducible apply Bd;refine A3 (AQ Gt) Bl ?_)
 refine AK (AA _ _ _) (p:=fT (fun x:Int=>x) (-1) (fun O:Int=>[]) r0) rfl ?_
 (with_reducible apply Au)
 refine DB (by exact Nat.le_of_ble_eq_true rfl) (p:=.int ((fun x:Int=>x) r0.1)) rfl ?_
 refine Aa (Aq (AB hF (by kernel_rfl)) ?_)
 (with_reducible refine Gh (Gm (AQ Gt)) ?_)
 refine Aa (Aq (AB hF (by kernel_rfl)) (EG (fa:=35) hK (AD hF (by kernel_rfl)) (by kernel_rfl) ?_))
 have hHl:l≠r:=by rintro rfl;rw[hH]at hr;injection hr
 refine EE (xs:=xs.map PV.int) (l:=l) (fun j σ' H'=>∃ c r1 hp,Sel Cg (fun x:Int=>x) m c (xs.take (m+j)) (r1::hp)∧HeapAt (Hp Cg (fun x:Int=>x)) 0 (r1::hp)∧H'=H.set r (.lst ((r1::hp).map (fT (fun x:Int=>x) (-1) (fun O:Int=>[])))) ∧
  σ'=(((Loc.nil.set "result" (.ref r)).set "top" (.int ((fun x:Int=>x) r1.1))).set "order" (.int ((-1)*(c:Int)))).set "_heapreplace" (.ref 35)) hFh Gt (by rw[AE _ _ hHl];exact hH) (by rw[List.length_map];exact hml) ⟨_,?_,m,r0,hp0,S0,hhp,rfl,rfl⟩ ?_ ?_
 ·rw[show(-1:Int)*(m:Int) = -n by exact Kc hm hm0]
  (exact Le)
 ·intro j p _ _ hpj zq9
  refine AJ fun WW9 hW9=>?_
  obtain⟨c,r1,hp,S,hhp,eq9_0,eq9_1⟩:=zq9
  refine hW9 ?_
  clear hW9 WW9
  subst eq9_0 eq9_1
  rw[List.getElem?_map]at hpj
  refine AJ fun WW9 hW9=>?_
  obtain⟨x,hx,eq9_0⟩:=Option.map_eq_some_iff.mp hpj
  refine hW9 ?_
  clear hW9 WW9
  subst eq9_0
  have hxm:=List.mem_of_getElem? hx
  have hlen:m≤(xs.take (m+j)).length:=by
   have:=(List.getElem?_eq_some_iff.mp hx).1
   rw[List.length_take];exact G3 this
  have hsn:xs.take (m+(j+1))=xs.take (m+j)++[x]:=Ay hx
  refine AL (AB hF (by kernel_rfl)) ?_
  refine AI (Af ?_)
  (with_reducible refine A7 (AQ Gt) (AQ Gt) ?_;apply Bf)
  refine⟨Cg ((fun x:Int=>x) x) ((fun x:Int=>x) r1.1),rfl,?_⟩
  obtain⟨hin,hout⟩:=S.next T hhp (x:=x) hlen
  cases hb:Cg ((fun x:Int=>x) x) ((fun x:Int=>x) r1.1) with
  | true =>
   refine An ?_
   refine AJ fun WW9 hW9=>?_
   obtain⟨r',hp',e,S',hhp'⟩:=hin hb
   refine hW9 ?_
   clear hW9 WW9
   refine Ae (HW (fa:=35) hK Gt (by kernel_rfl) ?_) rfl
   (with_reducible refine BR (AQ Gt) ?_;refine AM ?_)
   refine BB ?_
   (with_reducible refine AN (A0 Gt (A0 Gt BV)) ?_)
   refine⟨by simp only[sizeLine_eq];exact Nat.le_of_ble_eq_true rfl,?_⟩
   (with_reducible apply AP)
   refine CN (S:=GI (fT (fun x:Int=>x) (-1) (fun O:Int=>[])) ((x,c)::r1::hp)) (lt:=IA) (y:=fT (fun x:Int=>x) (-1) (fun O:Int=>[]) r1) (r:=hp.map (fT (fun x:Int=>x) (-1) (fun O:Int=>[]))) (x:=fT (fun x:Int=>x) (-1) (fun O:Int=>[]) (x,c)) hK hFA (IU hsg htl (S.inj x)) (AA _ _ _) (fun z hz=>?_) ⟨_,List.mem_cons_self,rfl⟩ ?_
   ·refine AJ fun WW9 hW9=>?_
    obtain⟨q,hq,eq9_0⟩:=List.mem_map.mp hz
    refine hW9 ?_
    clear hW9 WW9
    subst eq9_0
    exact⟨q,List.mem_cons_of_mem _ (List.mem_cons_of_mem _ hq),rfl⟩
   rw[AH.set_set,show(fT (fun x:Int=>x) (-1) (fun O:Int=>[]) (x,c)::hp.map (fT (fun x:Int=>x) (-1) (fun O:Int=>[])))=((x,c)::hp).map (fT (fun x:Int=>x) (-1) (fun O:Int=>[]))from rfl,CS (lt:=Hp Cg (fun x:Int=>x)) (ltb:=IA) (fT (fun x:Int=>x) (-1) (fun O:Int=>[])) hff,e]
   refine AI (BW ?_)
   (with_reducible refine A3 (AQ Gt) Bl ?_)
   refine AK (AA _ _ _) (p:=fT (fun x:Int=>x) (-1) (fun O:Int=>[]) r') rfl ?_
   refine Aj hFh rfl (AL (AB hF (by kernel_rfl)) (AL (AB hF (by kernel_rfl)) ?_))
   refine BI (p:=.int ((-1)*(c:Int))) (AB hF (by kernel_rfl)) Gt ?_
   (with_reducible apply Au)
   refine JP ?_
   rw[show(-1:Int)*(c:Int) - 1=(-1)*((c+1:Nat):Int)by exact Kb]
   refine AF (AF ⟨_,?_,c+1,r',hp',by rw[hsn];exact S',hhp',rfl,rfl⟩)
   (exact Le)
  | false =>
   refine A1 ?_
   refine AF (AF ⟨_,?_,c,r1,hp,by rw[hsn];exact hout hb,hhp,rfl,rfl⟩)
   (exact Le)
 ·intro _ _ zq9
  refine AJ fun WW9 hW9=>?_
  obtain⟨c,r1,hp,S,hhp,eq9_0,eq9_1⟩:=zq9
  refine hW9 ?_
  clear hW9 WW9
  subst eq9_0 eq9_1
  rw[List.length_map,List.take_of_length_le (show xs.length≤m+(xs.length - m)by exact G2)]at S
  have hfin:=S.fin T
  have hsl:=S.len
  refine Ae (Gj [Str.ofString "reverse"] PySem.F.slot_list_sort rfl ?_) rfl
  (with_reducible refine V ?_ Gt)
  refine⟨r,_,rfl,AA _ _ _,?_⟩
  refine Bq ?_
  (with_reducible apply HX)
  refine Cp ?_
  refine JO hsg htl S.nd hu9 (AA _ _ _) (CY _) ?_
  rw[AH.set_set,show(fun p q=>JU (fun x:Int=>x) (-1) q p)=Bt Cg (fun x:Int=>x)from by rw[JT];rfl]
  refine AR (Ev.drop (B4 (α:=Int × Nat) (τ:=Loc.nil) (fT (fun x:Int=>x) (-1) (fun O:Int=>[])) (fun O=>true) (fun q=>PV.int q.1) (by kernel_rfl) (A4 hF (by kernel_rfl)) (Ad _) (Dk ?_)))
  (with_reducible refine V ?_ Gt)
  refine⟨r,_,AA _ _ _,?_⟩
  rw[AH.set_set,AC]
  refine⟨AO (Bt Cg (fun x:Int=>x)) (r1::hp),BH hFh (AA _ _ _) (AS (AA _ _ _)),by rw[(AX _).length_eq,sizeLine_eq];exact G1 hsl hml hz,?_,?_⟩
  ·intro F' hF' q hq
   refine Aj (by rw[hF'.A];exact hFh) rfl (AL (hF'.sto _ (.inl (by kernel_rfl))) (AL (hF'.sto _ (.inl (by kernel_rfl))) ?_))
   refine⟨rfl,?_⟩
   refine An ?_
   (with_reducible refine V ?_ Gt)
   exact⟨rfl,AH.le_refl _⟩
  intro a2 ha2
  rw[A2]
  have k1:a2≠r:=by rintro rfl;rw[AA]at ha2;injection ha2
  rw[AE _ _ k1]at ha2
  refine⟨H.set a2 _,AH.le_set _ _ (AT hr),?_⟩
  have:=hQ a2 ha2
  rwa [hm,← hfin,List.map_map]at this

theorem C0{G:Cx}{A:Around}{F:Fx}{H:AH}{Q:PV→AH→Prop}{l:Addr}{β:Type}{xs:List β}{g:β→PV}{kx:β→Int}{kf:PV}{n:Int}(hK:G.K=KK G)(hF:FnF A (fnOf (KK G) 90).scope F)(hA:A.depth<850∧A.units<8500)(hh:A.handled=none)
  (hg:∀ x,(∃ i,g x=.int i)∨∃ ps,g x=.tup ps) (KV:∀ A':Around,A'.depth<900∧A'.units<9000→KeyV G A' kf H xs g kx) (hH:H l=some (.fro (xs.map g))) (hQ:∀ a,H a=none→Q (.ref a) (H.set a (.lst (((AO (fun x y=>Cu (kx x) (kx y)) xs).take n.toNat).map g))))
  (htail:n<xs.length→Exs G F ((BC (fnOf (KK G) 90)).drop 2) (((Loc.nil.set "n" (.int n)).set "iterable" (.ref l)).set "key" kf) H (fun f O H'=>match f with | .ret p=>Q p H' | _=>Q .none H')) :
  Exs G F (BC (fnOf (KK G) 90)) (((Loc.nil.set "n" (.int n)).set "iterable" (.ref l)).set "key" kf) H (fun f O H'=>match f with | .ret p=>Q p H' | _=>Q .none H'):=by
 have hFA:F.A.depth<880∧F.A.units<8800:=hF.room hA (by decide) (by decide)
 have hu9:F.A.units+9<cLine:=hF.lt9 hA.2 (by decide)
 have hFh:F.A.handled=none:=by rw[hF.handled];exact hh
 have T:Tot Cu:=tot_lt
 show Exs G F (_::_) _ _ _
 refine AI (Af ?_)
 (with_reducible refine A7 (AQ Gt) Bl ?_;apply Hv)
 by_cases h1:n=1
 ·refine⟨true,by simp[h1],?_⟩
  refine An ?_
  refine Ce (l:=l) (ho:=.fro (xs.map g)) hK (AD hF (by kernel_rfl)) (by kernel_rfl) Gt hH (AD hF (by kernel_rfl)) fun I=>?_
  refine Aa (Aq (AB hF (by kernel_rfl)) (Ly "object" hK (AD hF (by kernel_rfl)) (by kernel_rfl) (by decide +kernel) (by decide) (GP fun S'=>?_)))
  refine Ge (bt:=Cu) (P7 G F.A) (LD) hK hFh (AD hF (by kernel_rfl)) (by kernel_rfl) (by decide +kernel) (by decide) Gt Gt Gt hH (KV _ ⟨by show F.A.depth<_;exact Nat.lt_add_left _ hFA.1,by show F.A.units+1<_;exact Nat.lt_of_le_of_lt hFA.2 (by decide)⟩) (AD hF (by kernel_rfl)) ?_
  have hb:=E1 (bt:=Cu) (kx:=kx) T.swo xs
  have hQ1:∀ a,H a=none→Q (.ref a) (H.set a (.lst ((Ax Cu kx xs).toList.map g))):=fun a ha=>by
   have:=hQ a ha
   rwa [h1,show(1:Int).toNat=1 from rfl,hb]at this
  generalize Ax Cu kx xs=bo at hQ1 ⊢
  refine AR (Cf ?_)
  (with_reducible refine A7 (AQ Gt) (AQ Gt) ?_)
  cases bo with
  | none =>
   refine GQ ⟨true,rfl,?_⟩
   refine An ?_
   refine B3 (AP ⟨Nat.zero_le _,fun a ha=>hQ1 a ha⟩)
  | some b =>
   have fin:Q (.bool true) H→True:=fun O=>trivial
   rcases hg b with ⟨i,hi⟩ | ⟨us,hi⟩
   ·rw[show Fw g (.obj S') (some b)=.int i from hi]
    refine Fd ⟨false,rfl,?_⟩
    refine A1 ?_
    refine B3 ?_
    (with_reducible refine AN (A0 Gt BV) ?_)
    refine⟨by rw[sizeLine_eq];exact Nat.le_of_ble_eq_true rfl,fun a ha=>?_⟩
    rw[← hi];exact hQ1 a ha
   ·rw[show Fw g (.obj S') (some b)=.tup us from hi]
    refine Fc ⟨false,rfl,?_⟩
    refine A1 ?_
    refine B3 ?_
    (with_reducible refine AN (A0 Gt BV) ?_)
    refine⟨by rw[sizeLine_eq];exact Nat.le_of_ble_eq_true rfl,fun a ha=>?_⟩
    rw[← hi];exact hQ1 a ha
 ·refine⟨false,by simp[h1],?_⟩
  refine A1 ?_
  refine AF (AI (Gf ?_))
  refine AG (AB hF (by kernel_rfl)) (BN "len" hK (AD hF (by kernel_rfl)) (by kernel_rfl) (by decide +kernel) (by decide) ?_) rfl
  (with_reducible refine AN (A0 Gt BV) ?_)
  refine DG hH ?_
  refine AF (AI (Af ?_))
  (with_reducible refine A7 (AQ Gt) (AQ Gt) ?_;apply Mx)
  by_cases h2:(xs.length:Int)≤n
  ·refine⟨true,by simp[h2],?_⟩
   refine An ?_
   refine AR (Ev.drop (Gi ?_))
   refine L4 "sorted" [Str.ofString "key"] hK (AD hF (by kernel_rfl)) (by kernel_rfl) (by decide +kernel) (by decide) ?_
   (with_reducible refine AN (A0 Gt BV) ?_)
   refine Bq ?_
   (with_reducible refine V ?_ Gt)
   refine Cp (Jf ?_)
   refine Ir hu9 (CY _) hH (KV _ ⟨by show F.A.depth<_;exact Nat.lt_add_left _ hFA.1,by show F.A.units+1+1<_;exact Ka hFA⟩) fun a' ha'=>?_
   (with_reducible apply C9;apply EI;refine V ?_ Gt)
   refine⟨n,rfl,a',_,rfl,AA _ _ _,fun a2 ha2=>⟨_,?_,hQ a2 ?_⟩⟩
   ·have k1:a2≠a':=by rintro rfl;rw[AA]at ha2;injection ha2
    rw[AC,DF,← Int.toNat_of_nonneg (show 0≤n by exact Int.le_trans (Int.natCast_nonneg _) h2),Ci,Int.toNat_natCast,Gq]
    exact AH.le_set _ _ (AT ha')
   ·have k1:a2≠a':=by rintro rfl;rw[AA]at ha2;injection ha2
    rwa [AE _ _ k1]at ha2
  ·refine⟨false,by simp[h2],?_⟩
   refine A1 ?_
   refine AF (AF (Exs.le (htail (by exact Int.lt_of_not_ge h2)) ?_))
   (exact Le)
theorem E8{G:Cx}{A:Around}{H:AH}{Q:PV→AH→Prop}{l:Addr}{β:Type}{xs:List β}{g:β→PV}{kx:β→Int}{o:Obj}{n:Int}(hK:G.K=KK G)(hA:A.depth<850∧A.units<8500)(hh:A.handled=none)
  (hg:∀ x,∃ i j:Int,g x=.tup [.int i,.int j]) (hkey:∀[Zz] (A':Around),A'.depth<900∧A'.units<9000→∀ x∈xs,∀ H',AH.le H H'→OpC G A' (.fnc o) [g x] H' (fun p H''=>p=.int (kx x)∧H''=H'))
  (hH:H l=some (.fro (xs.map g))) (hz:xs.length<100000) (hQ:∀ a,H a=none→Q (.ref a) (H.set a (.lst (((AO (fun x y=>Cu (kx x) (kx y)) xs).take n.toNat).map g)))) :
  OpL G A (fun vs=>call (.ref 90) (vs.take 2) ([Str.ofString "key"].zip (vs.drop 2))) [.int n,.ref l,.fnc o] H Q:=by
 refine EA (ns:=["n", "iterable", "key"]) (pb:=[("n", .int n),("iterable", .ref l),("key", .fnc o)]) (ar:=fun vs=>⟨vs.take 2,[Str.ofString "key"].zip (vs.drop 2)⟩) hK (by kernel_rfl) (Nat.lt_of_lt_of_le hA.1 (by decide)) (by simp) ?_ ?_
 ·intro h vs hvs
  obtain⟨v1,v2,v3,rfl,h1,h2,h3⟩:=hvs.three_inv
  exact⟨[("n", v1),("iterable", v2),("key", v3)],by kernel_rfl,fun h' hm=>⟨_,_,rfl,hm _ _ h1,_,_,rfl,hm _ _ h2,_,_,rfl,hm _ _ h3,rfl⟩⟩
 intro F hF hE
 ((simp only[Av,List.zip_cons_cons,List.zip_nil_right,List.zip_nil_left,List.cons_append,List.nil_append];rw[show(fun O=>none:Loc)=Loc.nil from rfl]))
 refine C0 hK hF hA hh (fun x=>?_) (fun A' hA'=>.inr ⟨⟨o,rfl⟩,fun x hx H' hle=>hkey A' hA' x hx H' hle⟩) hH hQ fun hn=>?_
 ·obtain⟨i,j,e⟩:=hg x;exact .inr ⟨_,e⟩
 show Exs G F (_::_) _ _ _
 refine AI (Af ?_)
 (with_reducible refine A7 (AQ Gt) L8 ?_)
 refine B1 (by simp) (by simp) ⟨false,rfl,?_⟩
 refine A1 ?_
 refine AF (F9 hK hF hA hh (fun x=>?_) hkey hH hz hn hQ)
 obtain⟨i,j,e⟩:=hg x
 rw[e];simp[BU,FD,Dg,IN]
theorem E7{G:Cx}{A:Around}{H:AH}{Q:PV→AH→Prop}{l:Addr}{xs:List Int}{n:Int}(hK:G.K=KK G)(hA:A.depth<850∧A.units<8500)(hh:A.handled=none)
  (hH:H l=some (.fro (xs.map PV.int))) (hz:xs.length<100000) (hQ:∀ a,H a=none→Q (.ref a) (H.set a (.lst (((AO (fun x y=>Cu ((fun x:Int=>x) x) ((fun x:Int=>x) y)) xs).take n.toNat).map PV.int)))) :
  OpL G A (fun vs=>call (.ref 90) vs) [.int n,.ref l] H Q:=by
 refine Az (ns:=["n", "iterable", "key"]) (dps:=[.none]) (dvs:=Cw (KK G) 85) hK (by kernel_rfl) (Nat.lt_of_lt_of_le hA.1 (by decide)) (fun O=>⟨_,_,rfl,rfl,rfl⟩) ?_ ?_
 ·intro h vs hvs
  obtain⟨v1,v2,rfl,_,_⟩:=hvs.two_inv
  kernel_rfl
 intro F hF
 ((dsimp only[Av,List.zip_cons_cons,List.zip_nil_right,List.zip_nil_left,List.cons_append,List.nil_append];rw[show(fun O=>none:Loc)=Loc.nil from rfl]))
 refine C0 (g:=PV.int) (kx:=fun x:Int=>x) hK hF hA hh (fun x=>.inl ⟨_,rfl⟩) (fun A' hA'=>.inl ⟨rfl,fun x hx=>rfl⟩) hH hQ fun hn=>?_
 show Exs G F (_::_) _ _ _
 refine AI (Af ?_)
 (with_reducible refine A7 (AQ Gt) L8 ?_)
 refine Bg ⟨true,rfl,?_⟩
 refine An ?_
 have:=F8 hK hF hA hh hH hz hn hQ
 exact this.mono fun f σ H' h=>by
  cases f with
  | ret p=>exact h
  | next=>exact h.elim
  | brk=>exact h.elim
  | cont=>exact h.elim

theorem DV{G:Cx}{A:Around}{F:Fx}{H:AH}{Q:PV→AH→Prop}{l:Addr}{β:Type}{xs:List β}{g:β→PV}{kx:β→Int}{kf:PV}{n:Int}(hK:G.K=KK G)(hF:FnF A (fnOf (KK G) 96).scope F)(hA:A.depth<850∧A.units<8500)(hh:A.handled=none)
  (hg:∀ x,(∃ i,g x=.int i)∨∃ ps,g x=.tup ps) (KV:∀ A':Around,A'.depth<900∧A'.units<9000→KeyV G A' kf H xs g kx) (hH:H l=some (.fro (xs.map g))) (hQ:∀ a,H a=none→Q (.ref a) (H.set a (.lst (((AO (fun x y=>Cg (kx x) (kx y)) xs).take n.toNat).map g))))
  (htail:n<xs.length→Exs G F ((BC (fnOf (KK G) 96)).drop 2) (((Loc.nil.set "n" (.int n)).set "iterable" (.ref l)).set "key" kf) H (fun f O H'=>match f with | .ret p=>Q p H' | _=>Q .none H')) :
  Exs G F (BC (fnOf (KK G) 96)) (((Loc.nil.set "n" (.int n)).set "iterable" (.ref l)).set "key" kf) H (fun f O H'=>match f with | .ret p=>Q p H' | _=>Q .none H'):=by
 have hFA:F.A.depth<880∧F.A.units<8800:=hF.room hA (by decide) (by decide)
 have hu9:F.A.units+9<cLine:=hF.lt9 hA.2 (by decide)
 have hFh:F.A.handled=none:=by rw[hF.handled];exact hh
 have T:Tot Cg:=Ij
 show Exs G F (_::_) _ _ _
 refine AI (Af ?_)
 (with_reducible refine A7 (AQ Gt) Bl ?_;apply Hv)
 by_cases h1:n=1
 ·refine⟨true,by simp[h1],?_⟩
  refine An ?_
  refine Ce (l:=l) (ho:=.fro (xs.map g)) hK (AD hF (by kernel_rfl)) (by kernel_rfl) Gt hH (AD hF (by kernel_rfl)) fun I=>?_
  refine Aa (Aq (AB hF (by kernel_rfl)) (Ly "object" hK (AD hF (by kernel_rfl)) (by kernel_rfl) (by decide +kernel) (by decide) (GP fun S'=>?_)))
  refine Ge (bt:=Cg) (P8 G F.A) (LG) hK hFh (AD hF (by kernel_rfl)) (by kernel_rfl) (by decide +kernel) (by decide) Gt Gt Gt hH (KV _ ⟨by show F.A.depth<_;exact Nat.lt_add_left _ hFA.1,by show F.A.units+1<_;exact Nat.lt_of_le_of_lt hFA.2 (by decide)⟩) (AD hF (by kernel_rfl)) ?_
  have hb:=E1 (bt:=Cg) (kx:=kx) T.swo xs
  have hQ1:∀ a,H a=none→Q (.ref a) (H.set a (.lst ((Ax Cg kx xs).toList.map g))):=fun a ha=>by
   have:=hQ a ha
   rwa [h1,show(1:Int).toNat=1 from rfl,hb]at this
  generalize Ax Cg kx xs=bo at hQ1 ⊢
  refine AR (Cf ?_)
  (with_reducible refine A7 (AQ Gt) (AQ Gt) ?_)
  cases bo with
  | none =>
   refine GQ ⟨true,rfl,?_⟩
   refine An ?_
   refine B3 (AP ⟨Nat.zero_le _,fun a ha=>hQ1 a ha⟩)
  | some b =>
   have fin:Q (.bool true) H→True:=fun O=>trivial
   rcases hg b with ⟨i,hi⟩ | ⟨us,hi⟩
   ·rw[show Fw g (.obj S') (some b)=.int i from hi]
    refine Fd ⟨false,rfl,?_⟩
    refine A1 ?_
    refine B3 ?_
    (with_reducible refine AN (A0 Gt BV) ?_)
    refine⟨by rw[sizeLine_eq];exact Nat.le_of_ble_eq_true rfl,fun a ha=>?_⟩
    rw[← hi];exact hQ1 a ha
   ·rw[show Fw g (.obj S') (some b)=.tup us from hi]
    refine Fc ⟨false,rfl,?_⟩
    refine A1 ?_
    refine B3 ?_
    (with_reducible refine AN (A0 Gt BV) ?_)
    refine⟨by rw[sizeLine_eq];exact Nat.le_of_ble_eq_true rfl,fun a ha=>?_⟩
    rw[← hi];exact hQ1 a ha
 ·refine⟨false,by simp[h1],?_⟩
  refine A1 ?_
  refine AF (AI (Gf ?_))
  refine AG (AB hF (by kernel_rfl)) (BN "len" hK (AD hF (by kernel_rfl)) (by kernel_rfl) (by decide +kernel) (by decide) ?_) rfl
  (with_reducible refine AN (A0 Gt BV) ?_)
  refine DG hH ?_
  refine AF (AI (Af ?_))
  (with_reducible refine A7 (AQ Gt) (AQ Gt) ?_;apply Mx)
  by_cases h2:(xs.length:Int)≤n
  ·refine⟨true,by simp[h2],?_⟩
   refine An ?_
   refine AR (Ev.drop (Gi ?_))
   refine L4 "sorted" [Str.ofString "key", Str.ofString "reverse"] hK (AD hF (by kernel_rfl)) (by kernel_rfl) (by decide +kernel) (by decide) ?_
   (with_reducible refine AN (A0 Gt BV) ?_)
   refine Bq ?_
   (with_reducible refine V ?_ Gt)
   refine Bq ?_
   (with_reducible apply HX)
   refine Cp (Jf ?_)
   refine Iq hu9 (CY _) hH (KV _ ⟨by show F.A.depth<_;exact Nat.lt_add_left _ hFA.1,by show F.A.units+1+1<_;exact Ka hFA⟩) fun a' ha'=>?_
   (with_reducible apply C9;apply EI;refine V ?_ Gt)
   refine⟨n,rfl,a',_,rfl,AA _ _ _,fun a2 ha2=>⟨_,?_,hQ a2 ?_⟩⟩
   ·have k1:a2≠a':=by rintro rfl;rw[AA]at ha2;injection ha2
    rw[AC,DF,← Int.toNat_of_nonneg (show 0≤n by exact Int.le_trans (Int.natCast_nonneg _) h2),Ci,Int.toNat_natCast,En (tot_lt.swo (kx:=kx))]
    exact AH.le_set _ _ (AT ha')
   ·have k1:a2≠a':=by rintro rfl;rw[AA]at ha2;injection ha2
    rwa [AE _ _ k1]at ha2
  ·refine⟨false,by simp[h2],?_⟩
   refine A1 ?_
   refine AF (AF (Exs.le (htail (by exact Int.lt_of_not_ge h2)) ?_))
   (exact Le)
theorem Ff{G:Cx}{A:Around}{H:AH}{Q:PV→AH→Prop}{l:Addr}{β:Type}{xs:List β}{g:β→PV}{kx:β→Int}{o:Obj}{n:Int}(hK:G.K=KK G)(hA:A.depth<850∧A.units<8500)(hh:A.handled=none)
  (hg:∀ x,∃ i j:Int,g x=.tup [.int i,.int j]) (hkey:∀[Zz] (A':Around),A'.depth<900∧A'.units<9000→∀ x∈xs,∀ H',AH.le H H'→OpC G A' (.fnc o) [g x] H' (fun p H''=>p=.int (kx x)∧H''=H'))
  (hH:H l=some (.fro (xs.map g))) (hz:xs.length<100000) (hQ:∀ a,H a=none→Q (.ref a) (H.set a (.lst (((AO (fun x y=>Cg (kx x) (kx y)) xs).take n.toNat).map g)))) :
  OpL G A (fun vs=>call (.ref 96) (vs.take 2) ([Str.ofString "key"].zip (vs.drop 2))) [.int n,.ref l,.fnc o] H Q:=by
 refine EA (ns:=["n", "iterable", "key"]) (pb:=[("n", .int n),("iterable", .ref l),("key", .fnc o)]) (ar:=fun vs=>⟨vs.take 2,[Str.ofString "key"].zip (vs.drop 2)⟩) hK (by kernel_rfl) (Nat.lt_of_lt_of_le hA.1 (by decide)) (by simp) ?_ ?_
 ·intro h vs hvs
  refine AJ fun WW9 hW9=>?_
  obtain⟨v1,v2,v3,eq9_0,h1,h2,h3⟩:=hvs.three_inv
  refine hW9 ?_
  clear hW9 WW9
  subst eq9_0
  exact⟨[("n", v1),("iterable", v2),("key", v3)],by kernel_rfl,fun h' hm=>⟨_,_,rfl,hm _ _ h1,_,_,rfl,hm _ _ h2,_,_,rfl,hm _ _ h3,rfl⟩⟩
 intro F hF hE
 ((simp only[Av,List.zip_cons_cons,List.zip_nil_right,List.zip_nil_left,List.cons_append,List.nil_append];rw[show(fun O=>none:Loc)=Loc.nil from rfl]))
 refine DV hK hF hA hh (fun x=>?_) (fun A' hA'=>.inr ⟨⟨o,rfl⟩,fun x hx H' hle=>hkey A' hA' x hx H' hle⟩) hH hQ fun hn=>?_
 ·obtain⟨i,j,e⟩:=hg x;exact .inr ⟨_,e⟩
 show Exs G F (_::_) _ _ _
 refine AI (Af ?_)
 (with_reducible refine A7 (AQ Gt) L8 ?_)
 refine B1 (by simp) (by simp) ⟨false,rfl,?_⟩
 refine A1 ?_
 refine AF (HD hK hF hA hh (fun x=>?_) hkey hH hz hn hQ)
 refine AJ fun WW9 hW9=>?_
 obtain⟨i,j,e⟩:=hg x
 refine hW9 ?_
 clear hW9 WW9
 rw[e];simp[BU,FD,Dg,IN]
theorem Fe{G:Cx}{A:Around}{H:AH}{Q:PV→AH→Prop}{l:Addr}{xs:List Int}{n:Int}(hK:G.K=KK G)(hA:A.depth<850∧A.units<8500)(hh:A.handled=none)
  (hH:H l=some (.fro (xs.map PV.int))) (hz:xs.length<100000) (hQ:∀ a,H a=none→Q (.ref a) (H.set a (.lst (((AO (fun x y=>Cg ((fun x:Int=>x) x) ((fun x:Int=>x) y)) xs).take n.toNat).map PV.int)))) :
  OpL G A (fun vs=>call (.ref 96) vs) [.int n,.ref l] H Q:=by
 refine Az (ns:=["n", "iterable", "key"]) (dps:=[.none]) (dvs:=Cw (KK G) 91) hK (by kernel_rfl) (Nat.lt_of_lt_of_le hA.1 (by decide)) (fun O=>⟨_,_,rfl,rfl,rfl⟩) ?_ ?_
 ·intro h vs hvs
  obtain⟨v1,v2,rfl,_,_⟩:=hvs.two_inv
  kernel_rfl
 intro F hF
 ((dsimp only[Av,List.zip_cons_cons,List.zip_nil_right,List.zip_nil_left,List.cons_append,List.nil_append];rw[show(fun O=>none:Loc)=Loc.nil from rfl]))
 refine DV (g:=PV.int) (kx:=fun x:Int=>x) hK hF hA hh (fun x=>.inl ⟨_,rfl⟩) (fun A' hA'=>.inl ⟨rfl,fun x hx=>rfl⟩) hH hQ fun hn=>?_
 show Exs G F (_::_) _ _ _
 refine AI (Af ?_)
 (with_reducible refine A7 (AQ Gt) L8 ?_)
 refine Bg ⟨true,rfl,?_⟩
 refine An ?_
 have:=HC hK hF hA hh hH hz hn hQ
 exact this.mono fun f σ H' h=>by
  cases f with
  | ret p=>exact h
  | next=>exact h.elim
  | brk=>exact h.elim
  | cont=>exact h.elim

section

noncomputable def CU(f:Nat × Nat→Int)(p q:Nat × Nat):Bool:=Jt [f p,p.1,p.2] [f q,q.1,q.2]
variable {f:Nat × Nat→Int}
theorem CD(p q:Nat × Nat):CU f p q=true↔f p<f q∨(f p=f q∧(p.1<q.1∨(p.1=q.1∧p.2<q.2))):=by
 unfold CU
 simp only[Jt]
 by_cases e:f p=f q
 ·rw[if_pos e]
  by_cases e1:(p.1:Int)=q.1
  ·rw[if_pos e1]
   by_cases e2:(p.2:Int)=q.2
   ·rw[if_pos e2];simp;exact OM e1 e2 e
   ·rw[if_neg e2];simp only[decide_eq_true_eq];exact OL e1 e
  ·rw[if_neg e1];simp only[decide_eq_true_eq];exact OK e e1
 ·rw[if_neg e];simp only[decide_eq_true_eq];exact OJ e
theorem ltR_swo:SWO (CU f):=ltI_swo.comap fun p:Nat × Nat=>[f p,(p.1:Int),(p.2:Int)]
theorem Js(p q:Nat × Nat):CU f p q=false↔¬ (f p<f q∨(f p=f q∧(p.1<q.1∨(p.1=q.1∧p.2<q.2)))):=by
 simp only[← CD,Bool.not_eq_true]
theorem Mb{p q:Nat × Nat}(h1:CU f p q=false)(h2:CU f q p=false):p=q:=by
 rw[Js]at h1 h2
 obtain⟨a,b⟩:=p;obtain⟨c,d⟩:=q
 simp only at h1 h2
 have:a=c∧b=d:=by exact OI h1 h2
 rw[this.1,this.2]

noncomputable def Be(k:Nat):Nat→List (Nat × Nat)
 | 0=>[]
 | m+1=>Be k m++(List.range k).map fun j=>(m,j)
theorem Dx(k:Nat):∀(m:Nat) (p:Nat × Nat),p∈Be k m↔p.1<m∧p.2<k
 | 0,p=>by simp[Be]
 | m+1,(a,b)=>by
  simp only[Be,List.mem_append,Dx k m,List.mem_map,List.mem_range,Prod.mk.injEq]
  constructor
  ·rintro(h | ⟨j,hj,rfl,rfl⟩)<;>(first | exact OH h | exact OG hj)
  ·intro h
   by_cases e:a=m
   ·exact .inr ⟨b,h.2,e.symm,rfl⟩
   ·exact .inl ⟨by exact OF h e,h.2⟩
theorem Gv(k:Nat):∀ m,(Be k m).Pairwise fun p q=>p.1<q.1∨(p.1=q.1∧p.2<q.2)
 | 0=>List.Pairwise.nil
 | m+1=>by
  refine List.pairwise_append.mpr ⟨Gv k m,?_,fun p hp q hq=>?_⟩
  ·refine List.pairwise_map.mpr ((List.pairwise_lt_range (n:=k)).imp fun h=>.inr ⟨rfl,h⟩)
  ·obtain⟨j,_,rfl⟩:=List.mem_map.mp hq
   exact .inl ((Dx k m p).mp hp).1
theorem Jp(k m:Nat):(Be k m).Nodup:=(Gv k m).imp fun h e=>by subst e;exact OE h
theorem FG(k:Nat):∀ m,(Be k m).length=m*k
 | 0=>by simp[Be]
 | m+1=>by simp[Be,FG k m,Nat.succ_mul]
theorem Ho{α:Type}(g:Nat × Nat→α)(k:Nat):∀ m,((List.range m).flatMap fun i=>(List.range k).map fun j=>g (i,j))=(Be k m).map g
 | 0=>rfl
 | m+1=>by simp only[List.range_succ,List.flatMap_append,Ho g k m];simp[Be]

theorem GU{B:Nat × Nat→Nat × Nat→Prop}{L:Nat × Nat→Nat × Nat→Bool}(o:SWO L):∀{l:List (Nat × Nat)},l.Pairwise B→(AO L l).Pairwise fun p q=>L p q=true∨(L q p=false∧B p q)
 | [],_=>List.Pairwise.nil
 | x::l,h=>by
  obtain⟨h1,h2⟩:=List.pairwise_cons.mp h
  have ih:=GU o h2
  obtain⟨a,b,e,e2,ha,hb⟩:=DJ (L:=L) x (AO L l)
  show(I0 L x (AO L l)).Pairwise _
  have hs:=Ba o l
  rw[e]at ih hs
  simp only[e2]
  obtain⟨ia,ib,iab⟩:=List.pairwise_append.mp ih
  refine List.pairwise_append.mpr ⟨ia,List.pairwise_cons.mpr ⟨fun y hy=>?_,ib⟩,fun p hp q hq=>?_⟩
  ·refine .inr ⟨?_,h1 y ((AX l).mem_iff.mp (by rw[e];exact List.mem_append_right _ hy))⟩
   cases b with
   | nil=>cases hy
   | cons z r =>
    have hz:=hb z rfl
    rcases List.mem_cons.mp hy with rfl | hy
    ·exact hz
    ·have h3:=(List.pairwise_cons.mp (Srt.append.mp hs).2.1).1 y hy
     exact o.ntr _ _ _ h3 hz
  ·rcases List.mem_cons.mp hq with rfl | hq
   ·exact .inl (ha p hp)
   ·exact iab p hp q hq
noncomputable def Hh(f:Nat × Nat→Int)(k m:Nat):List (Nat × Nat):=AO (fun p q=>decide (f p<f q)) (Be k m)
theorem LT:SWO fun p q:Nat × Nat=>decide (f p<f q):=ltZ_swo.comap f
theorem FQ(k m:Nat):(Hh f k m).Pairwise fun p q=>CU f p q=true :=
 (GU LT (Gv k m)).imp fun{p q} h=>by
  rw[CD]
  simp only[decide_eq_true_eq,decide_eq_false_iff_not]at h
  exact OD h
theorem EM(k m:Nat):(Hh f k m).Perm (Be k m):=AX _
theorem IB:∀{l r:List (Nat × Nat)},(l.Pairwise fun p q=>CU f p q=true)→(r.Pairwise fun p q=>CU f p q=true)→l.Perm r→l=r
 | [],_,_,_,h=>h.nil_eq
 | x::l,[],_,_,h=>by cases h.symm.nil_eq
 | x::l,y::r,h1,h2,h=>by
  have e:x=y:=by
   by_cases e:x=y
   ·exact e
   ·exfalso
    have hx:x∈r:=(List.mem_cons.mp (h.mem_iff.mp List.mem_cons_self)).resolve_left e
    have hy:y∈l:=(List.mem_cons.mp (h.mem_iff.mpr List.mem_cons_self)).resolve_left (Ne.symm e)
    have a:=(List.pairwise_cons.mp h1).1 y hy
    have b:=(List.pairwise_cons.mp h2).1 x hx
    have:=ltR_swo.asym _ _ a
    rw[this]at b;injection b
  subst e
  rw[IB (List.pairwise_cons.mp h1).2 (List.pairwise_cons.mp h2).2 h.cons_inv]

theorem KO{l:List (Nat × Nat)}(h:l.Pairwise fun p q=>CU f p q=true){i:Nat}{p:Nat × Nat}(hi:l[i]?=some p):l.countP (fun q=>CU f q p)=i:=by
 have hlt:=(List.getElem?_eq_some_iff.mp hi).1
 have e:l=l.take i++p::l.drop (i+1):=by
  have hp:l[i]=p:=(List.getElem?_eq_some_iff.mp hi).2
  simp only[← hp,List.getElem_cons_drop,List.take_append_drop]
 have hl:(l.take i).length=i:=by rw[List.length_take];exact Nat.min_eq_left (Nat.le_of_lt hlt)
 rw[e]at h ⊢
 obtain⟨h1,h2,h3⟩:=List.pairwise_append.mp h
 rw[List.countP_append,List.countP_cons,ltR_swo.irr,List.countP_eq_length.mpr fun q hq=>h3 q hq p List.mem_cons_self,hl,
  List.countP_eq_zero.mpr fun q hq=>by rw[ltR_swo.asym _ _ ((List.pairwise_cons.mp h2).1 q hq)];decide]
 simp
theorem places{l r:List (Nat × Nat)}(h:l.Pairwise fun p q=>CU f p q=true)(hp:l.Perm r):l.map (fun p=>((r.countP fun q=>CU f q p:Nat):Int))=(List.range l.length).map fun i:Nat=>(i:Int):=by
 refine List.ext_getElem (by simp) fun i h1 h2=>?_
 rw[List.length_map]at h1
 simp only[List.getElem_map,List.getElem_range]
 rw[← hp.countP_eq,KO h (List.getElem?_eq_getElem h1)]
end
section

noncomputable def L9:Nat × Nat→Option (Nat × Nat)
 | (i,j+1)=>some (i,j)
 | (i+1,0)=>some (i,0)
 | (0,0)=>none
noncomputable def D5(m k:Nat)(r:Nat × Nat):List (Nat × Nat):=(if r.2=0∧r.1+1<m then[(r.1+1,0)] else[])++(if r.2+1<k then[(r.1,r.2+1)] else[])
structure Fr (R:Nat × Nat→Nat × Nat→Bool) (m k:Nat) (dn hp:List (Nat × Nat)):Prop where
 val:∀ p∈hp++dn,p.1<m∧p.2<k
 nd:(hp++dn).Nodup
 up:∀ q∈hp++dn,∀ p,L9 q=some p→p∈dn
 all:∀ q:Nat × Nat,q.1<m→q.2<k→(∀ p,L9 q=some p→p∈dn)→q∈hp++dn
 lt:∀ p∈dn,∀ q∈hp,R p q=true
 srt:dn.Pairwise fun p q=>R p q=true
variable {R:Nat × Nat→Nat × Nat→Bool} {m k:Nat} {dn hp:List (Nat × Nat)}
theorem Fr.start(hm:0<m)(hk:0<k):Fr R m k [] [(0,0)]:=by
 refine⟨by simp[hm,hk],by simp,fun q hq p hp=>?_,fun q h1 h2 h=>?_,by simp,List.Pairwise.nil⟩
 ·simp at hq;subst hq;injection hp
 ·obtain⟨i,j⟩:=q
  cases j with
  | succ j=>cases h (i,j) rfl
  | zero =>
   cases i with
   | succ i=>cases h (i,0) rfl
   | zero=>simp
theorem Gd(h:m=0∨k=0):Fr R m k [] []:=⟨by simp,by simp,by simp,fun q h1 h2 O=>by exact(OC h h1 h2).elim,by simp,List.Pairwise.nil⟩
set_option tactic.hygienic true in
theorem D0{q r:Nat × Nat}:q∈D5 m k r→L9 q=some r:=by
 obtain⟨i,j⟩:=r
 intro h
 rcases List.mem_append.mp h with h | h
 ·split at h
  ·rename_i c;rw[List.mem_singleton.mp h];obtain rfl:j=0:=c.1;rfl
  ·cases h
 ·split at h
  ·rw[List.mem_singleton.mp h];rfl
  ·cases h
theorem Iz(r:Nat × Nat):(D5 m k r).Nodup:=by
 unfold D5
 split<;>split<;>simp
theorem LI{q r:Nat × Nat}(h:L9 q=some r)(h1:q.1<m)(h2:q.2<k):q∈D5 m k r:=by
 obtain⟨i,j⟩:=q
 cases j with
 | succ j=>(replace h:=Option.some.inj h;subst h);exact List.mem_append_right _ (by rw[if_pos h2];simp)
 | zero=>cases i with
  | succ i=>(replace h:=Option.some.inj h;subst h);exact List.mem_append_left _ (by rw[if_pos ⟨rfl,h1⟩];simp)
  | zero=>injection h
set_option tactic.hygienic true in
theorem C1{q r:Nat × Nat}(hr:r.1<m∧r.2<k)(h:q∈D5 m k r):q.1<m∧q.2<k:=by
 rcases List.mem_append.mp h with h | h
 ·split at h
  ·rename_i c;rw[List.mem_singleton.mp h];exact⟨c.2,by show 0<k;exact Nat.zero_lt_of_lt hr.2⟩
  ·cases h
 ·split at h
  ·rename_i c;rw[List.mem_singleton.mp h];exact⟨hr.1,c⟩
  ·cases h
theorem Fr.step(o:SWO R)(tot:∀ p q,R p q=false→R q p=false→p=q)(mono:∀ p q,L9 q=some p→q.1<m→q.2<k→R p q=true){r:Nat × Nat}{hp':List (Nat × Nat)}(F:Fr R m k dn (r::hp))(hr:∀ u∈hp,R u r=false)(h:hp'.Perm (D5 m k r++hp)):Fr R m k (dn++[r]) hp':=by
 have hmem:∀ q,q∈hp'++(dn++[r])↔q∈D5 m k r∨q∈(r::hp)++dn:=fun q=>by
  simp only[List.mem_append,h.mem_iff,List.mem_cons,List.not_mem_nil,or_false]
  constructor
  ·rintro((h | h) | h | h)
   ·exact .inl h
   ·exact .inr (.inl (.inr h))
   ·exact .inr (.inr h)
   ·exact .inr (.inl (.inl h))
  ·rintro(h | (h | h) | h)
   ·exact .inl (.inl h)
   ·exact .inr (.inr h)
   ·exact .inl (.inr h)
   ·exact .inr (.inl h)
 have hrv:=F.val r (by simp)
 have hnd:=F.nd
 rw[List.cons_append,List.nodup_cons]at hnd
 have hrd:r∉dn:=fun hm=>hnd.1 (List.mem_append_right _ hm)
 have hrh:r∉hp:=fun hm=>hnd.1 (List.mem_append_left _ hm)
 have hkn:∀ q∈D5 m k r,q∉(r::hp)++dn:=fun q hq hm=>hrd (F.up q hm r (D0 hq))
 refine⟨fun p hp=>?_,?_,fun q hq p hpar=>?_,fun q h1 h2 hpar=>?_,fun p hpd q hq=>?_,?_⟩
 ·rcases(hmem p).mp hp with hp | hp
  ·exact C1 hrv hp
  ·exact F.val p hp
 ·have hperm:(hp'++(dn++[r])).Perm (D5 m k r++((r::hp)++dn)):=by
   refine(List.Perm.append_right _ h).trans ?_
   rw[List.append_assoc]
   refine List.Perm.append_left _ ?_
   refine List.Perm.trans ?_ (List.perm_middle (l₁:=hp) (l₂:=dn) (a:=r))
   exact List.Perm.append_left _ List.perm_append_comm
  refine hperm.nodup_iff.mpr (List.nodup_append.mpr ⟨Iz r,F.nd,fun a ha b hb e=>hkn a ha (e▸hb)⟩)
 ·rcases(hmem q).mp hq with hq | hq
  ·have:=D0 hq
   rw[this]at hpar;(replace hpar:=Option.some.inj hpar;subst hpar)
   simp
  ·exact List.mem_append_left _ (F.up q hq p hpar)
 ·rw[hmem]
  by_cases e:L9 q=some r
  ·exact .inl (LI e h1 h2)
  ·refine .inr (F.all q h1 h2 fun p hp=>?_)
   rcases List.mem_append.mp (hpar p hp)with h | h
   ·exact h
   ·rw[List.mem_singleton.mp h]at hp;exact absurd hp e
 ·have hpr:p=r∨R p r=true:=by
   rcases List.mem_append.mp hpd with hp | hp
   ·exact .inr (F.lt p hp r List.mem_cons_self)
   ·exact .inl (List.mem_singleton.mp hp)
  have hrq:p∈dn∧q∈hp∨R r q=true:=by
   rcases List.mem_append.mp (h.mem_iff.mp hq)with hq | hq
   ·exact .inr (mono r q (D0 hq) (C1 hrv hq).1 (C1 hrv hq).2)
   ·cases hc:R r q with
    | true=>exact .inr rfl
    | false=>exact absurd (tot r q hc (hr q hq)▸hq) hrh
  rcases hrq with ⟨h1,h2⟩ | hrq
  ·exact F.lt p h1 q (List.mem_cons_of_mem _ h2)
  ·rcases hpr with rfl | hpr
   ·exact hrq
   ·exact o.tr hpr hrq
 ·refine List.pairwise_append.mpr ⟨F.srt,by simp,fun p hp q hq=>?_⟩
  rw[List.mem_singleton.mp hq];exact F.lt p hp r List.mem_cons_self
theorem Fr.fin(F:Fr R m k dn []):dn.Perm (Be k m):=by
 refine(List.perm_ext_iff_of_nodup F.nd (Jp k m)).mpr fun p=>?_
 rw[Dx]
 constructor
 ·exact F.val p
 ·obtain⟨i,j⟩:=p
  have h0:∀ i,i<m→0<k→(i,0)∈dn:=fun i=>by
   induction i with
   | zero=>exact fun h1 h2=>F.all (0,0) h1 h2 fun p hp=>by injection hp
   | succ i ih=>exact fun h1 h2=>F.all (i+1,0) h1 h2 fun p hp=>by(replace hp:=Option.some.inj hp;subst hp);exact ih (by exact Nat.le_of_lt h1) h2
  rintro⟨h1,h2⟩
  simp only at h1 h2
  induction j with
  | zero=>exact h0 i h1 h2
  | succ j ih=>exact F.all (i,j+1) h1 h2 fun p hp=>by(replace hp:=Option.some.inj hp;subst hp);exact ih (by exact Nat.le_of_lt h2)
theorem Fr.len(F:Fr R m k dn hp):hp.length+dn.length≤m*k:=by
 simp only[← FG k m,← List.length_append]
 exact List.Nodup.length_le_of_subset F.nd fun p hp=>(Dx k m p).mpr (F.val p hp)
end

section

theorem Di(x:Int){xs:List Int}(hs:Srt CC xs):xs.countP (fun y=>decide (y≤x))=Bi CC x xs 0 xs.length:=by
 obtain⟨h1,h2,h3⟩:=IZ ltZ_swo x hs
 generalize Bi CC x xs 0 xs.length=b at h1 h2 h3 ⊢
 have hl:(xs.take b).length=b:=by rw[List.length_take];exact Nat.min_eq_left h1
 conv=>lhs;rw[← List.take_append_drop b xs]
 rw[List.countP_append,List.countP_eq_length.mpr fun y hy=>?_,List.countP_eq_zero.mpr fun y hy=>?_,hl,Nat.add_zero]
 ·have:=of_decide_eq_true (h3 y hy);simp only[decide_eq_true_eq];exact Int.not_le.mpr this
 ·have:=of_decide_eq_false (h2 y hy);simp only[decide_eq_true_eq];exact Int.not_lt.mp this
theorem Dj(x:Int){xs:List Int}(hs:Srt CC xs):xs.countP (fun y=>decide (y<x))=Bz CC x xs 0 xs.length:=by
 obtain⟨h1,h2,h3⟩:=Lk ltZ_swo x hs
 generalize Bz CC x xs 0 xs.length=b at h1 h2 h3 ⊢
 have hl:(xs.take b).length=b:=by rw[List.length_take];exact Nat.min_eq_left h1
 conv=>lhs;rw[← List.take_append_drop b xs]
 rw[List.countP_append,List.countP_eq_length.mpr fun y hy=>?_,List.countP_eq_zero.mpr fun y hy=>?_,hl,Nat.add_zero]
 ·have:=of_decide_eq_false (h3 y hy);simp only[decide_eq_true_eq];exact this
 ·have:=of_decide_eq_true (h2 y hy);simp only[decide_eq_true_eq];exact this
theorem Cc(T:Int→Bool)(xs:List Int):(List.range xs.length).countP (fun j=>T (xs.getD j 0))=xs.countP T:=by
 conv=>rhs;rw[← CI xs 0,List.countP_map]
 rfl
theorem Fq(j:Nat):∀ k,(List.range k).countP (fun i=>decide (i<j))=if j≤k then j else k
 | 0=>by simp;exact fun h=>h.symm
 | k+1=>by
  simp only[List.range_succ,List.countP_append,Fq j k,List.countP_singleton]
  by_cases h:k<j
  ·rw[decide_eq_true h]
   simp only[if_true]
   split<;>split<;>(first | exact OB (by assumption) h | exact OA (by assumption) h | exact N9 h (by assumption) | exact rfl)
  ·rw[decide_eq_false h]
   simp only[Bool.false_eq_true,if_false]
   split<;>split<;>(first | exact rfl | exact N8 (by assumption) h | exact N7 h (by assumption) | exact N6 h (by assumption))
theorem Fs{α:Type}(P R S T:α→Bool):∀ l:List α,(∀ x∈l,(if P x=true then 1 else 0)+(if R x=true then 1 else 0)+(if S x=true then 1 else 0)=1+(if T x=true then 1 else 0))→l.countP P+l.countP R+l.countP S=l.length+l.countP T
 | [],_=>rfl
 | x::l,h=>by
  have ih:=Fs P R S T l fun y hy=>h y (List.mem_cons_of_mem _ hy)
  have hx:=h x List.mem_cons_self
  simp only[List.countP_cons,List.length_cons]
  exact N5 ih hx
theorem Ga{α:Type}(P:α→Bool)(l:List α):((l.countP fun x=>!P x:Nat):Int)=(l.length:Int) - l.countP P:=by
 have:=List.length_eq_countP_add_countP P (l:=l)
 have e:(l.countP fun x=>!P x)=l.countP fun a=>decide ¬P a=true:=by
  congr 1;funext a;cases P a<;>rfl
 rw[e];exact N4 this
theorem GZ(T:Nat × Nat→Bool)(k r:Nat):(Be k (r+1)).countP T=(Be k r).countP T+(List.range k).countP fun j=>T (r,j):=by
 simp only[Be,List.countP_append,List.countP_map];rfl
variable {one other:List Int}
noncomputable def sm(one other:List Int)(p:Nat × Nat):Int:=one.getD p.1 0+other.getD p.2 0
theorem EN{xs:List Int}(hs:Srt CC xs){a b:Nat}(h:a≤b)(hb:b<xs.length):xs.getD a 0≤xs.getD b 0:=by
 rcases Nat.lt_or_eq_of_le h with h | h
 ·rw[List.getD_eq_getElem?_getD,List.getD_eq_getElem?_getD,List.getElem?_eq_getElem (by exact Nat.lt_trans h hb),List.getElem?_eq_getElem hb]
  have:=List.pairwise_iff_getElem.mp hs a b (by exact Nat.lt_trans h hb) hb h
  have:=of_decide_eq_false this
  simpa using this
 ·rw[h];exact Int.le_refl _
theorem KC(h2:Srt CC other){r i j:Nat}(h:r<i):(List.range other.length).countP (fun b=>CU (sm one other) (r,b) (i,j))=Bi CC (sm one other (i,j) - one.getD r 0) other 0 other.length:=by
 rw[← Di _ h2,← Cc]
 congr 1;funext b
 apply BG
 rw[CD,decide_eq_true_iff]
 simp only[sm];exact N2 h
theorem KD(h2:Srt CC other){r i j:Nat}(h:i<r):(List.range other.length).countP (fun b=>CU (sm one other) (r,b) (i,j))=Bz CC (sm one other (i,j) - one.getD r 0) other 0 other.length:=by
 rw[← Dj _ h2,← Cc]
 congr 1;funext b
 apply BG
 rw[CD,decide_eq_true_iff]
 simp only[sm];exact N1 h
theorem KF(h2:Srt CC other){i j:Nat}(hj:j<other.length):(List.range other.length).countP (fun b=>CU (sm one other) (i,b) (i,j))=j:=by
 have:(List.range other.length).countP (fun b=>CU (sm one other) (i,b) (i,j))=(List.range other.length).countP (fun b=>decide (b<j)):=by
  refine List.countP_congr fun b hb=>?_
  have hb:=List.mem_range.mp hb
  rw[CD,decide_eq_true_iff]
  simp only[sm,true_and,Nat.lt_irrefl,false_or]
  rcases Nat.lt_trichotomy b j with h | h | h
  ·have:=EN h2 (Nat.le_of_lt h) hj;exact N0 this h
  ·subst h;exact Nz
  ·have:=EN h2 (Nat.le_of_lt h) hb;exact Ny this h
 rw[this,Fq,if_pos (Nat.le_of_lt hj)]
theorem MT(h2:Srt CC other){r i j:Nat}(h:r<i):(((List.range other.length).countP (fun b=>CU (fun p => -(sm one other p)) (r,b) (i,j)):Nat):Int)=(other.length:Int) - Bz CC (sm one other (i,j) - one.getD r 0) other 0 other.length:=by
 rw[← Dj _ h2,← Ga,← Cc]
 congr 2;funext b
 apply BG
 rw[CD,Bool.not_eq_true',decide_eq_false_iff_not]
 simp only[sm];exact Nx h
theorem MU(h2:Srt CC other){r i j:Nat}(h:i<r):(((List.range other.length).countP (fun b=>CU (fun p => -(sm one other p)) (r,b) (i,j)):Nat):Int)=(other.length:Int) - Bi CC (sm one other (i,j) - one.getD r 0) other 0 other.length:=by
 rw[← Di _ h2,← Ga,← Cc]
 congr 2;funext b
 apply BG
 rw[CD,Bool.not_eq_true',decide_eq_false_iff_not]
 simp only[sm];exact Nw h
theorem MV(h2:Srt CC other){i j:Nat}(hj:j<other.length):(((List.range other.length).countP (fun b=>CU (fun p => -(sm one other p)) (i,b) (i,j)):Nat):Int)=(other.length:Int) - Bi CC (other.getD j 0) other 0 other.length+j - Bz CC (other.getD j 0) other 0 other.length:=by
 simp only[← Di _ h2,← Dj _ h2,← Cc,← Cc]
 have:=Fs (fun b=>CU (fun p => -(sm one other p)) (i,b) (i,j)) (fun b=>decide (other.getD b 0≤other.getD j 0)) (fun b=>decide (other.getD b 0<other.getD j 0)) (fun b=>decide (b<j)) (List.range other.length) fun b hb=>?_
 ·rw[Fq,if_pos (Nat.le_of_lt hj),List.length_range]at this
  exact Nv this
 ·have hb:=List.mem_range.mp hb
  simp only[CD,decide_eq_true_iff,sm,true_and,Nat.lt_irrefl,false_or]
  rcases Nat.lt_trichotomy b j with h | h | h
  ·have:=EN h2 (Nat.le_of_lt h) hj
   simp only[if_pos h]
   by_cases e:other.getD b 0=other.getD j 0
   ·rw[if_pos (by exact Nu e h),if_pos (by exact this),if_neg (by exact Int.not_lt.mpr (Int.le_of_eq e.symm))]
   ·rw[if_neg (by exact Nt this e),if_pos (by exact this),if_pos (by exact Nr this e)]
  ·subst h
   rw[if_neg (by exact Nq),if_pos (by exact Int.le_refl _),if_neg (by exact Int.lt_irrefl _),if_neg (by exact Nat.lt_irrefl _)]
  ·have:=EN h2 (Nat.le_of_lt h) hb
   rw[if_neg (show ¬ b<j by exact Nat.lt_asymm h)]
   by_cases e:other.getD b 0=other.getD j 0
   ·rw[if_neg (by exact Np e h),if_pos (by exact Int.le_of_eq e),if_neg (by exact Int.not_lt.mpr (Int.le_of_eq e.symm))]
   ·rw[if_pos (by exact No this e),if_neg (by exact Nn this e),if_neg (by exact Int.not_lt.mpr this)]
end
section
variable {one other:List Int}

theorem Ii(h2:Srt CC other){i j:Nat}(hj:j<other.length)(r:Nat) :
  (((Be other.length (r+1)).countP (fun q=>CU (sm one other) q (i,j)):Nat):Int)+(if r+1≤i then(j:Int) else 0) =
   ((Be other.length r).countP (fun q=>CU (sm one other) q (i,j)):Nat)+(if r≤i then(j:Int) else 0)+(if r<i then(Bi CC (sm one other (i,j) - one.getD r 0) other 0 other.length:Int) else 0)+(if r>i then(Bz CC (sm one other (i,j) - one.getD r 0) other 0 other.length:Int) else 0):=by
 simp only[GZ]
 rcases Nat.lt_trichotomy r i with h | h | h
 ·rw[KC h2 h,if_pos (by exact h),if_pos (by exact Nat.le_of_lt h),if_pos h,if_neg (by exact Nat.lt_asymm h)];exact Nm
 ·subst h;rw[KF h2 hj,if_neg (by exact Nat.lt_irrefl _),if_pos (by exact Nat.le_refl _),if_neg (by exact Nat.lt_irrefl _),if_neg (by exact Nat.lt_irrefl _)];exact rfl
 ·rw[KD h2 h,if_neg (by exact Nat.lt_asymm h),if_neg (by exact Nat.not_le_of_lt h),if_neg (by exact Nat.lt_asymm h),if_pos h];exact rfl
theorem Jq(h2:Srt CC other){i j:Nat}(hj:j<other.length)(r:Nat) :
  (((Be other.length (r+1)).countP (fun q=>CU (fun p => -(sm one other p)) q (i,j)):Nat):Int)+(if r+1≤i then(other.length:Int) - Bi CC (other.getD j 0) other 0 other.length+j - Bz CC (other.getD j 0) other 0 other.length else 0) =
   ((Be other.length r).countP (fun q=>CU (fun p => -(sm one other p)) q (i,j)):Nat)+(if r≤i then(other.length:Int) - Bi CC (other.getD j 0) other 0 other.length+j - Bz CC (other.getD j 0) other 0 other.length else 0) +
   (if r<i then(other.length:Int) - Bz CC (sm one other (i,j) - one.getD r 0) other 0 other.length else 0)+(if r>i then(other.length:Int) - Bi CC (sm one other (i,j) - one.getD r 0) other 0 other.length else 0):=by
 simp only[GZ,Int.natCast_add]
 rcases Nat.lt_trichotomy r i with h | h | h
 ·rw[MT h2 h,if_pos (by exact h),if_pos (by exact Nat.le_of_lt h),if_pos h,if_neg (by exact Nat.lt_asymm h)];exact Nl
 ·subst h;rw[MV h2 hj,if_neg (by exact Nat.lt_irrefl _),if_pos (by exact Nat.le_refl _),if_neg (by exact Nat.lt_irrefl _),if_neg (by exact Nat.lt_irrefl _)];exact Nk
 ·rw[MU h2 h,if_neg (by exact Nat.lt_asymm h),if_neg (by exact Nat.not_le_of_lt h),if_neg (by exact Nat.lt_asymm h),if_pos h];exact Int.add_zero _
end

section
variable {G:Cx} {A:Around} {F:Fx} {σ:Loc} {H:AH}
theorem DP{Q:Bool→AH→Prop}{x:Str}{np lp pos:Pos}{a:Addr}{ho:HO}(hu:F.A.units+1<cLine)(hx:σ x=some (.ref a))(hH:H a=some ho)(h:Q (!ho.items.isEmpty) H):EvB G F (.Compare (.Name x np) [.NotEq] [.List [] lp] pos) σ H Q:=by
 refine EvB.drop (Am (BT hx (B3 (AP ⟨Nat.zero_le _,fun t ht=>?_⟩))) (by rfl))
 have hne:a≠t:=by rintro rfl;rw[hH]at ht;injection ht
 refine Fb hu (ha:=by rw[AE _ _ hne];exact hH) (hb:=AA ..) (r:=ho.items.isEmpty) ?_ ⟨_,rfl,H,AT ht,h⟩
 cases ho.items with
 | nil=>rfl
 | cons p r=>rfl
variable {Q:PV→AH→Prop}
theorem I9{a:Addr}{ho:HO}{xs:List Int}{x:Int}(hK:G.K=KK G)(hA:A.depth<890∧A.units<8900)(hH:H a=some ho)(hi:ho.items=xs.map PV.int)(hQ:Q (.int (Bi CC x xs 0 xs.length)) H):OpL G A (fun vs=>call (.ref 114) vs) [.ref a,.int x] H Q:=by
 refine Eh hK hA (QL G) hH (fun y hy=>?_) ⟨_,rfl⟩ ?_
 ·rw[hi]at hy;obtain⟨z,_,rfl⟩:=List.mem_map.mp hy;exact⟨z,rfl⟩
 rw[hi,IY (lt:=CC) (ltb:=Mc) PV.int (fun O O=>rfl),List.length_map];exact hQ
theorem JA{a:Addr}{ho:HO}{xs:List Int}{x:Int}(hK:G.K=KK G)(hA:A.depth<890∧A.units<8900)(hH:H a=some ho)(hi:ho.items=xs.map PV.int)(hQ:Q (.int (Bz CC x xs 0 xs.length)) H):OpL G A (fun vs=>call (.ref 123) vs) [.ref a,.int x] H Q:=by
 refine FE hK hA (QL G) hH (fun y hy=>?_) ⟨_,rfl⟩ ?_
 ·rw[hi]at hy;obtain⟨z,_,rfl⟩:=List.mem_map.mp hy;exact⟨z,rfl⟩
 rw[hi,Lj (lt:=CC) (ltb:=Mc) PV.int (fun O O=>rfl),List.length_map];exact hQ
theorem A8{xs:List Int}{i:Nat}(h:i<xs.length):CK (xs.map PV.int) (i:Int)=some (.int (xs.getD i 0)):=by
 simp only[BD,List.getElem?_map,List.getD_eq_getElem?_getD,List.getElem?_eq_getElem h];rfl
theorem Iy{l:Addr}{ns:List Int}{w:Int}(hK:G.K=KK G)(hA:A.depth<850∧A.units<8500)(hh:A.handled=none)(hH:H l=some (.fro (ns.map .int)))(hlen:ns.length≤63)
  (hQ:∀ row:List Int,Srt CC row→row.length=ns.length→∀ a,H a=none→Q (.ref a) (H.set a (.lst (row.map .int)))):OpL G A (fun vs=>call (.ref 130) vs) [.ref l,.int w] H Q:=by
 refine Az (ns:=["numbers", "width"]) (dps:=[]) (dvs:=[]) hK (by kernel_rfl) (Nat.lt_of_lt_of_le hA.1 (by decide)) (fun O=>rfl) ?_ ?_
 ·intro h vs hvs
  refine AJ fun WW9 hW9=>?_
  obtain⟨v1,v2,eq9_0,_,_⟩:=hvs.two_inv
  refine hW9 ?_
  clear hW9 WW9
  subst eq9_0
  kernel_rfl
 intro F hF
 have hFA:F.A.depth<880∧F.A.units<8800:=hF.room hA (by decide) (by decide)
 have hFh:F.A.handled=none:=by rw[hF.handled];exact hh
 ((dsimp only[Av,List.zip_cons_cons,List.zip_nil_right,List.zip_nil_left,List.cons_append,List.nil_append];rw[show(fun O=>none:Loc)=Loc.nil from rfl]))
 refine AG (AB hF (by kernel_rfl)) (B3 (AP ⟨Nat.zero_le _,fun a ha=>?_⟩)) rfl
 have hne:l≠a:=by rintro rfl;rw[hH]at ha;injection ha
 have hl:∀ o,(H.set a o) l=some (.fro (ns.map .int)):=fun o=>by rw[AE _ _ hne];exact hH
 refine AI (HU ?_ fun O=>rfl)
 (with_reducible refine V ?_ Gt)
 refine⟨ns.map .int,fun i σ' H'=>∃ row:List Int,σ'=((Loc.nil.set "numbers" (.ref l)).set "width" (.int w)).set "row" (.ref a)∧H'=H.set a (.lst (row.map .int))∧Srt CC row∧row.length=i,BH hFh (hl _) (AS (hl _)),⟨_,?_,[],rfl,rfl,List.Pairwise.nil,rfl⟩,?_,?_⟩
 ·(exact Le)
 ·intro i p _ _ hp zq9
  refine AJ fun WW9 hW9=>?_
  obtain⟨row,eq9_0,eq9_1,hs,hrl⟩:=zq9
  refine hW9 ?_
  clear hW9 WW9
  subst eq9_0 eq9_1
  rw[List.getElem?_map]at hp
  refine AJ fun WW9 hW9=>?_
  obtain⟨x,hx,eq9_0⟩:=Option.map_eq_some_iff.mp hp
  refine hW9 ?_
  clear hW9 WW9
  subst eq9_0
  have hi:=(List.getElem?_eq_some_iff.mp hx).1
  refine AL (AB hF (by kernel_rfl)) ?_
  refine Ae (A9 (fa:=105) hK (AD hF (by kernel_rfl)) (by kernel_rfl) (by kernel_rfl) ?_) rfl
  have fin:∀(y:Int) (Qs:PV→AH→Prop),Qs .none (H.set a (.lst ((GD CC y row).map .int)))→OpL G F.A (fun vs=>call (.ref 105) vs) [.ref a,.int y] (H.set a (.lst (row.map .int))) Qs:=fun y Qs hq=>by
   refine FA hK hFA (QL G) (AA ..) (fun z hz=>?_) ⟨_,rfl⟩ (by rw[List.length_map,sizeLine_eq];exact Nj hrl hi hlen) ?_
   ·obtain⟨z',_,rfl⟩:=List.mem_map.mp hz;exact⟨z',rfl⟩
   rw[LL (lt:=CC) (ltb:=Mc) PV.int (fun O O=>rfl),AH.set_set];exact hq
  have nxt:∀(y:Int) (σ3:Loc),Loc.le (((Loc.nil.set "numbers" (.ref l)).set "width" (.int w)).set "row" (.ref a)) σ3→∃ σ'',Loc.le σ'' σ3∧∃ row':List Int,σ''=((Loc.nil.set "numbers" (.ref l)).set "width" (.int w)).set "row" (.ref a)∧H.set a (.lst ((GD CC y row).map .int))=H.set a (.lst (row'.map .int))∧Srt CC row'∧row'.length=i+1:=fun y σ3 h3 =>
   ⟨_,h3,_,rfl,rfl,LK ltZ_swo y hs,by rw[(Ju y row).length_eq,List.length_cons,hrl]⟩
  (with_reducible refine BR (AQ Gt) ?_;refine AM ?_;apply Cf;refine A7 (AQ Gt) Bl ?_;apply Hv)
  by_cases hw:w=0
  ·refine⟨true,by simp[hw],?_⟩
   refine An ?_
   (with_reducible refine V ?_ Gt;apply AP)
   refine fin x _ (AF (nxt x _ ?_))
   (exact Le)
  ·refine⟨false,by simp[hw],?_⟩
   refine A1 ?_
   (with_reducible refine FF (AQ Gt) (AQ Gt) ?_)
   refine Gx hw ?_
   (with_reducible apply AP)
   refine fin (x.fmod w) _ (AF (nxt (x.fmod w) _ ?_))
   (exact Le)
 ·intro _ _ zq9
  refine AJ fun WW9 hW9=>?_
  obtain⟨row,eq9_0,eq9_1,hs,hrl⟩:=zq9
  refine hW9 ?_
  clear hW9 WW9
  subst eq9_0 eq9_1
  rw[List.length_map]at hrl
  refine AR ?_
  (with_reducible refine V ?_ Gt)
  exact hQ row hs hrl a ha
theorem HF{a1 a2:Addr}{ho1 ho2:HO}{one other:List Int}{i j:Nat}(hK:G.K=KK G)(hA:A.depth<850∧A.units<8500)(hh:A.handled=none)(h1:H a1=some ho1)(e1:ho1.items=one.map .int)(h2:H a2=some ho2)(e2:ho2.items=other.map .int)
  (hs:Srt CC other) (hz:one.length≤63) (hi:i<one.length) (hj:j<other.length) (hQ:Q (.int ((Be other.length one.length).countP (fun q=>CU (sm one other) q (i,j)):Nat)) H):OpL G A (fun vs=>call (.ref 144) vs) [.ref a1,.ref a2,.int i,.int j] H Q:=by
 refine Az (ns:=["one", "other", "i", "j"]) (dps:=[]) (dvs:=[]) hK (by kernel_rfl) (Nat.lt_of_lt_of_le hA.1 (by decide)) (fun O=>rfl) ?_ ?_
 ·intro h vs zq9
  refine AJ fun WW9 hW9=>?_
  obtain⟨v1,_,eq9_0,_,v2,_,eq9_1,_,v3,_,eq9_2,_,v4,_,eq9_3,_,eq9_4⟩:=zq9
  refine hW9 ?_
  clear hW9 WW9
  subst eq9_0 eq9_1 eq9_2 eq9_3 eq9_4
  kernel_rfl
 intro F hF
 have hFA:F.A.depth<890∧F.A.units<8900:=hF.room hA (by decide) (by decide)
 have hFh:F.A.handled=none:=by rw[hF.handled];exact hh
 ((dsimp only[Av,List.zip_cons_cons,List.zip_nil_right,List.zip_nil_left,List.cons_append,List.nil_append];rw[show(fun O=>none:Loc)=Loc.nil from rfl]))
 ((refine AG (AB (by assumption) (by kernel_rfl)) ?_ rfl;(with_reducible apply AZ;refine A3 (AQ Gt) (AQ Gt) ?_)))
 refine AK h1 (p:=.int (one.getD i 0)) (by rw[e1];exact A8 hi) ?_
 (with_reducible refine A3 (AQ Gt) (AQ Gt) ?_)
 refine AK h2 (p:=.int (other.getD j 0)) (by rw[e2];exact A8 hj) ?_
 (with_reducible apply Bh)
 ((refine AG (AB (by assumption) (by kernel_rfl)) ?_ rfl;(with_reducible refine V ?_ Gt)))
 refine AI (HU ?_ fun O=>rfl)
 refine CQ "range" hK (AD hF (by kernel_rfl)) (by kernel_rfl) (by decide +kernel) (by decide) ?_
 (with_reducible refine AM ?_)
 refine BN "len" hK (AD hF (by kernel_rfl)) (by kernel_rfl) (by decide +kernel) (by decide) ?_
 (with_reducible refine AN (A0 Gt BV) ?_)
 refine Cj h1 e1 ?_
 (with_reducible apply AP)
 refine BO ?_
 refine⟨_,fun r σ' H'=>H'=H∧σ'=(((((Loc.nil.set "one" (.ref a1)).set "other" (.ref a2)).set "i" (.int i)).set "j" (.int j)).set "total" (.int (sm one other (i,j)))).set "under" (.int (((Be other.length r).countP (fun q=>CU (sm one other) q (i,j)):Nat)+(if r≤i then(j:Int) else 0))),Gc hFh (by exact Nat.lt_of_le_of_lt hz (by decide)),⟨_,?_,rfl,rfl⟩,?_,?_⟩
 ·rw[if_pos (Nat.zero_le _)]
  simp only[Be,List.countP_nil,Int.natCast_zero,Int.zero_add,sm]
  (exact Le)
 ·rintro r p _ _ hp ⟨rfl,rfl⟩
  rw[List.getElem?_map]at hp
  refine AJ fun WW9 hW9=>?_
  obtain⟨r',hr',eq9_0⟩:=Option.map_eq_some_iff.mp hp
  refine hW9 ?_
  clear hW9 WW9
  subst eq9_0
  have hrl:=(List.getElem?_eq_some_iff.mp hr').1
  rw[List.length_range]at hrl
  rw[List.getElem?_range hrl]at hr';(replace hr':=Option.some.inj hr';subst hr')
  have hst:=Ii (one:=one) hs (i:=i) hj r
  refine AL (AB hF (by kernel_rfl)) ?_
  rcases Nat.lt_trichotomy r i with h | h | h
  ·rw[if_pos h,if_neg (show ¬ r>i by exact Nat.lt_asymm h),Int.add_zero]at hst
   refine AI (Af ?_)
   (with_reducible refine A7 (AQ Gt) (AQ Gt) ?_;apply Bf)
   refine⟨true,by simp[h],?_⟩
   refine An ?_
   refine BI (p:=.int (((Be other.length r).countP (fun q=>CU (sm one other) q (i,j)):Nat)+(if r≤i then(j:Int) else 0))) (AB hF (by kernel_rfl)) Gt (A9 (fa:=114) hK (AD hF (by kernel_rfl)) (by kernel_rfl) (by kernel_rfl) ?_)
   (with_reducible refine BR (AQ Gt) ?_;refine AM ?_;refine L6 (AQ Gt) ?_;refine A3 (AQ Gt) (AQ Gt) ?_)
   refine AK h1 (p:=.int (one.getD r 0)) (by rw[e1];exact A8 hrl) ?_
   (with_reducible apply CL;apply AP)
   refine I9 hK hFA h2 e2 ?_
   refine DH ?_
   refine AF (AI (Af ?_))
   (with_reducible refine A7 (AQ Gt) (AQ Gt) ?_;apply D1)
   refine⟨false,by simp;exact Nat.le_of_lt h,?_⟩
   refine A1 ?_
   refine AF (AF ⟨_,?_,rfl,rfl⟩)
   simp only[hst]
   (exact Le)
  ·rw[if_neg (show ¬ r<i by exact Nat.not_lt_of_le (Nat.le_of_eq h.symm)),if_neg (show ¬ r>i by exact Nat.not_lt_of_le (Nat.le_of_eq h)),Int.add_zero,Int.add_zero]at hst
   refine AI (Af ?_)
   (with_reducible refine A7 (AQ Gt) (AQ Gt) ?_;apply Bf)
   refine⟨false,by simp;exact Nat.le_of_eq h.symm,?_⟩
   refine A1 ?_
   refine AF (AI (Af ?_))
   (with_reducible refine A7 (AQ Gt) (AQ Gt) ?_;apply D1)
   refine⟨false,by simp;exact Nat.le_of_eq h,?_⟩
   refine A1 ?_
   refine AF (AF ⟨_,?_,rfl,rfl⟩)
   simp only[hst]
   (exact Le)
  ·rw[if_neg (show ¬ r<i by exact Nat.lt_asymm h),if_pos (show r>i from h),Int.add_zero]at hst
   refine AI (Af ?_)
   (with_reducible refine A7 (AQ Gt) (AQ Gt) ?_;apply Bf)
   refine⟨false,by simp;exact Nat.le_of_lt h,?_⟩
   refine A1 ?_
   refine AF (AI (Af ?_))
   (with_reducible refine A7 (AQ Gt) (AQ Gt) ?_;apply D1)
   refine⟨true,by simp;exact h,?_⟩
   refine An ?_
   refine BI (p:=.int (((Be other.length r).countP (fun q=>CU (sm one other) q (i,j)):Nat)+(if r≤i then(j:Int) else 0))) (AB hF (by kernel_rfl)) Gt (A9 (fa:=123) hK (AD hF (by kernel_rfl)) (by kernel_rfl) (by kernel_rfl) ?_)
   (with_reducible refine BR (AQ Gt) ?_;refine AM ?_;refine L6 (AQ Gt) ?_;refine A3 (AQ Gt) (AQ Gt) ?_)
   refine AK h1 (p:=.int (one.getD r 0)) (by rw[e1];exact A8 hrl) ?_
   (with_reducible apply CL;apply AP)
   refine JA hK hFA h2 e2 ?_
   refine DH ?_
   refine AF (AF ⟨_,?_,rfl,rfl⟩)
   simp only[hst]
   (exact Le)
 ·rintro _ _ ⟨rfl,rfl⟩
  rw[List.length_map,List.length_range,if_neg (by exact Nat.not_le_of_lt hi),Int.add_zero]
  refine AR ?_
  (with_reducible refine V ?_ Gt)
  exact hQ
theorem ID{a1 a2:Addr}{ho1 ho2:HO}{one other:List Int}{i j:Nat}(hK:G.K=KK G)(hA:A.depth<850∧A.units<8500)(hh:A.handled=none)(h1:H a1=some ho1)(e1:ho1.items=one.map .int)(h2:H a2=some ho2)(e2:ho2.items=other.map .int)
  (hs:Srt CC other) (hz:one.length≤63) (hi:i<one.length) (hj:j<other.length) (hQ:Q (.int ((Be other.length one.length).countP (fun q=>CU (fun p => -(sm one other p)) q (i,j)):Nat)) H):OpL G A (fun vs=>call (.ref 151) vs) [.ref a1,.ref a2,.int i,.int j] H Q:=by
 refine Az (ns:=["one", "other", "i", "j"]) (dps:=[]) (dvs:=[]) hK (by kernel_rfl) (Nat.lt_of_lt_of_le hA.1 (by decide)) (fun O=>rfl) ?_ ?_
 ·intro h vs zq9
  refine AJ fun WW9 hW9=>?_
  obtain⟨v1,_,eq9_0,_,v2,_,eq9_1,_,v3,_,eq9_2,_,v4,_,eq9_3,_,eq9_4⟩:=zq9
  refine hW9 ?_
  clear hW9 WW9
  subst eq9_0 eq9_1 eq9_2 eq9_3 eq9_4
  kernel_rfl
 intro F hF
 have hFA:F.A.depth<890∧F.A.units<8900:=hF.room hA (by decide) (by decide)
 have hFh:F.A.handled=none:=by rw[hF.handled];exact hh
 obtain⟨c0,hc0⟩:∃ c0:Int,(other.length:Int) - Bi CC (other.getD j 0) other 0 other.length+j - Bz CC (other.getD j 0) other 0 other.length=c0:=⟨_,rfl⟩
 ((dsimp only[Av,List.zip_cons_cons,List.zip_nil_right,List.zip_nil_left,List.cons_append,List.nil_append];rw[show(fun O=>none:Loc)=Loc.nil from rfl]))
 ((refine AG (AB (by assumption) (by kernel_rfl)) ?_ rfl;(with_reducible apply AZ;refine A3 (AQ Gt) (AQ Gt) ?_)))
 refine AK h1 (p:=.int (one.getD i 0)) (by rw[e1];exact A8 hi) ?_
 (with_reducible refine A3 (AQ Gt) (AQ Gt) ?_)
 refine AK h2 (p:=.int (other.getD j 0)) (by rw[e2];exact A8 hj) ?_
 (with_reducible apply Bh)
 ((refine AG (AB (by assumption) (by kernel_rfl)) ?_ rfl;(with_reducible apply AZ;apply AZ;apply AZ)))
 refine BN "len" hK (AD hF (by kernel_rfl)) (by kernel_rfl) (by decide +kernel) (by decide) ?_
 (with_reducible refine AN (A0 Gt BV) ?_)
 refine Cj h2 e2 ?_
 refine A9 (fa:=114) hK (AD hF (by kernel_rfl)) (by kernel_rfl) (by kernel_rfl) ?_
 (with_reducible refine BR (AQ Gt) ?_;refine AM ?_;refine A3 (AQ Gt) (AQ Gt) ?_)
 refine AK h2 (p:=.int (other.getD j 0)) (by rw[e2];exact A8 hj) ?_
 (with_reducible apply AP)
 refine I9 hK hFA h2 e2 ?_
 (with_reducible apply CL;refine V ?_ Gt;apply Bh)
 refine A9 (fa:=123) hK (AD hF (by kernel_rfl)) (by kernel_rfl) (by kernel_rfl) ?_
 (with_reducible refine BR (AQ Gt) ?_;refine AM ?_;refine A3 (AQ Gt) (AQ Gt) ?_)
 refine AK h2 (p:=.int (other.getD j 0)) (by rw[e2];exact A8 hj) ?_
 (with_reducible apply AP)
 refine JA hK hFA h2 e2 ?_
 (with_reducible apply CL)
 simp only[hc0]
 refine AI (HU ?_ fun O=>rfl)
 refine CQ "range" hK (AD hF (by kernel_rfl)) (by kernel_rfl) (by decide +kernel) (by decide) ?_
 (with_reducible refine AM ?_)
 refine BN "len" hK (AD hF (by kernel_rfl)) (by kernel_rfl) (by decide +kernel) (by decide) ?_
 (with_reducible refine AN (A0 Gt BV) ?_)
 refine Cj h1 e1 ?_
 (with_reducible apply AP)
 refine BO ?_
 refine⟨_,fun r σ' H'=>H'=H∧σ'=(((((Loc.nil.set "one" (.ref a1)).set "other" (.ref a2)).set "i" (.int i)).set "j" (.int j)).set "total" (.int (sm one other (i,j)))).set "over" (.int (((Be other.length r).countP (fun q=>CU (fun p => -(sm one other p)) q (i,j)):Nat)+(if r≤i then c0 else 0))),Gc hFh (by exact Nat.lt_of_le_of_lt hz (by decide)),⟨_,?_,rfl,rfl⟩,?_,?_⟩
 ·rw[if_pos (Nat.zero_le _)]
  simp only[Be,List.countP_nil,Int.natCast_zero,Int.zero_add,sm]
  (exact Le)
 ·rintro r p _ _ hp ⟨rfl,rfl⟩
  rw[List.getElem?_map]at hp
  refine AJ fun WW9 hW9=>?_
  obtain⟨r',hr',eq9_0⟩:=Option.map_eq_some_iff.mp hp
  refine hW9 ?_
  clear hW9 WW9
  subst eq9_0
  have hrl:=(List.getElem?_eq_some_iff.mp hr').1
  rw[List.length_range]at hrl
  rw[List.getElem?_range hrl]at hr';(replace hr':=Option.some.inj hr';subst hr')
  have hst:=Jq (one:=one) hs (i:=i) hj r
  rw[hc0]at hst
  refine AL (AB hF (by kernel_rfl)) ?_
  rcases Nat.lt_trichotomy r i with h | h | h
  ·rw[if_pos h,if_neg (show ¬ r>i by exact Nat.lt_asymm h),Int.add_zero]at hst
   refine AI (Af ?_)
   (with_reducible refine A7 (AQ Gt) (AQ Gt) ?_;apply Bf)
   refine⟨true,by simp[h],?_⟩
   refine An ?_
   refine BI (p:=.int (((Be other.length r).countP (fun q=>CU (fun p => -(sm one other p)) q (i,j)):Nat)+(if r≤i then c0 else 0))) (AB hF (by kernel_rfl)) Gt (AZ (BN "len" hK (AD hF (by kernel_rfl)) (by kernel_rfl) (by decide +kernel) (by decide) ?_))
   (with_reducible refine AN (A0 Gt BV) ?_)
   refine Cj h2 e2 ?_
   refine A9 (fa:=123) hK (AD hF (by kernel_rfl)) (by kernel_rfl) (by kernel_rfl) ?_
   (with_reducible refine BR (AQ Gt) ?_;refine AM ?_;refine L6 (AQ Gt) ?_;refine A3 (AQ Gt) (AQ Gt) ?_)
   refine AK h1 (p:=.int (one.getD r 0)) (by rw[e1];exact A8 hrl) ?_
   (with_reducible apply CL;apply AP)
   refine JA hK hFA h2 e2 ?_
   (with_reducible apply CL;apply DH)
   refine AF (AI (Af ?_))
   (with_reducible refine A7 (AQ Gt) (AQ Gt) ?_;apply D1)
   refine⟨false,by simp;exact Nat.le_of_lt h,?_⟩
   refine A1 ?_
   refine AF (AF ⟨_,?_,rfl,rfl⟩)
   simp only[hst]
   (exact Le)
  ·rw[if_neg (show ¬ r<i by exact Nat.not_lt_of_le (Nat.le_of_eq h.symm)),if_neg (show ¬ r>i by exact Nat.not_lt_of_le (Nat.le_of_eq h)),Int.add_zero,Int.add_zero]at hst
   refine AI (Af ?_)
   (with_reducible refine A7 (AQ Gt) (AQ Gt) ?_;apply Bf)
   refine⟨false,by simp;exact Nat.le_of_eq h.symm,?_⟩
   refine A1 ?_
   refine AF (AI (Af ?_))
   (with_reducible refine A7 (AQ Gt) (AQ Gt) ?_;apply D1)
   refine⟨false,by simp;exact Nat.le_of_eq h,?_⟩
   refine A1 ?_
   refine AF (AF ⟨_,?_,rfl,rfl⟩)
   simp only[hst]
   (exact Le)
  ·rw[if_neg (show ¬ r<i by exact Nat.lt_asymm h),if_pos (show r>i from h),Int.add_zero]at hst
   refine AI (Af ?_)
   (with_reducible refine A7 (AQ Gt) (AQ Gt) ?_;apply Bf)
   refine⟨false,by simp;exact Nat.le_of_lt h,?_⟩
   refine A1 ?_
   refine AF (AI (Af ?_))
   (with_reducible refine A7 (AQ Gt) (AQ Gt) ?_;apply D1)
   refine⟨true,by simp;exact h,?_⟩
   refine An ?_
   refine BI (p:=.int (((Be other.length r).countP (fun q=>CU (fun p => -(sm one other p)) q (i,j)):Nat)+(if r≤i then c0 else 0))) (AB hF (by kernel_rfl)) Gt (AZ (BN "len" hK (AD hF (by kernel_rfl)) (by kernel_rfl) (by decide +kernel) (by decide) ?_))
   (with_reducible refine AN (A0 Gt BV) ?_)
   refine Cj h2 e2 ?_
   refine A9 (fa:=114) hK (AD hF (by kernel_rfl)) (by kernel_rfl) (by kernel_rfl) ?_
   (with_reducible refine BR (AQ Gt) ?_;refine AM ?_;refine L6 (AQ Gt) ?_;refine A3 (AQ Gt) (AQ Gt) ?_)
   refine AK h1 (p:=.int (one.getD r 0)) (by rw[e1];exact A8 hrl) ?_
   (with_reducible apply CL;apply AP)
   refine I9 hK hFA h2 e2 ?_
   (with_reducible apply CL;apply DH)
   refine AF (AF ⟨_,?_,rfl,rfl⟩)
   simp only[hst]
   (exact Le)
 ·rintro _ _ ⟨rfl,rfl⟩
  rw[List.length_map,List.length_range,if_neg (by exact Nat.not_le_of_lt hi),Int.add_zero]
  refine AR ?_
  (with_reducible refine V ?_ Gt)
  exact hQ
end

section
theorem MQ{R:Nat × Nat→Nat × Nat→Bool}(o:SWO R)(tot:∀ p q,R p q=false→R q p=false→p=q){r y:Nat × Nat}{l:List (Nat × Nat)}(hh:HeapAt R 0 (y::l))(hm:r∈y::l)(hr:∀ u∈y::l,R u r=false):y=r :=
 tot y r (hr y List.mem_cons_self) ((Bo o y hh).2.2 r hm)
noncomputable def CG(one other:List Int)(p:Nat × Nat):PV:=.tup [.int (sm one other p),.int p.1,.int p.2]
theorem Gp(one other:List Int)(p:Nat × Nat):JG (CG one other p):=⟨[sm one other p,p.1,p.2],rfl⟩
theorem NI(one other:List Int)(p q:Nat × Nat):E9 (CG one other p) (CG one other q)=CU (sm one other) p q:=JR [sm one other p,p.1,p.2] [sm one other q,q.1,q.2]
theorem MN{one other:List Int}(h1:Srt CC one)(h2:Srt CC other):∀ p q:Nat × Nat,L9 q=some p→q.1<one.length→q.2<other.length→CU (sm one other) p q=true:=by
 rintro⟨a,b⟩ ⟨i,j⟩ h hi hj
 rw[CD]
 cases j with
 | succ j =>
  simp only[L9,Option.some.injEq,Prod.mk.injEq]at h
  obtain⟨rfl,rfl⟩:=h
  have:=EN h2 (show j≤j+1 by exact Nat.le_succ _) hj
  simp only[sm,true_and,Nat.lt_irrefl,false_or]at this ⊢;exact Ni this
 | zero =>
  cases i with
  | succ i =>
   simp only[L9,Option.some.injEq,Prod.mk.injEq]at h
   obtain⟨rfl,rfl⟩:=h
   have:=EN h1 (show i≤i+1 by exact Nat.le_succ _) hi
   simp only[sm,true_and,Nat.lt_irrefl,false_or]at this ⊢;exact Nh this
  | zero=>injection h
variable {G:Cx} {A:Around} {H:AH} {Q:PV→AH→Prop}
theorem GC{a1 a2:Addr}{ho1 ho2:HO}{one other:List Int}(hK:G.K=KK G)(hA:A.depth<850∧A.units<8500)(hh:A.handled=none)(h1:H a1=some ho1)(e1:ho1.items=one.map .int)(h2:H a2=some ho2)(e2:ho2.items=other.map .int)
  (hs1:Srt CC one) (hs2:Srt CC other) (hz1:one.length≤63) (hz2:other.length≤63) (hQ:∀ a,H a=none→Q (.ref a) (H.set a (.lst ((Hh (sm one other) other.length one.length).map (CG one other))))):OpL G A (fun vs=>call (.ref 137) vs) [.ref a1,.ref a2] H Q:=by
 refine OpL.drop (Az (ns:=["one", "other"]) (dps:=[]) (dvs:=[]) hK (by kernel_rfl) (Nat.lt_of_lt_of_le hA.1 (by decide)) (fun O=>rfl) ?_ ?_)
 ·intro h vs hvs
  refine AJ fun WW9 hW9=>?_
  obtain⟨v1,v2,eq9_0,_,_⟩:=hvs.two_inv
  refine hW9 ?_
  clear hW9 WW9
  subst eq9_0
  kernel_rfl
 intro F hF
 have hFA:F.A.depth<880∧F.A.units<8800:=hF.room hA (by decide) (by decide)
 have hFh:F.A.handled=none:=by rw[hF.handled];exact hh
 have hu9:F.A.units+9<cLine:=hF.lt9 hA.2 (by decide)
 obtain⟨R,hR⟩:∃ R,CU (sm one other)=R:=⟨_,rfl⟩
 have o:SWO R:=by rw[← hR];exact ltR_swo
 have tot:∀ p q,R p q=false→R q p=false→p=q:=fun p q=>by rw[← hR];exact Mb
 have mono:∀ p q,L9 q=some p→q.1<one.length→q.2<other.length→R p q=true:=by rw[← hR];exact MN hs1 hs2
 have hlt:∀ p q,E9 (CG one other p) (CG one other q)=R p q:=by rw[← hR];exact NI one other
 have hmk:one.length*other.length≤63*63:=Nat.mul_le_mul hz1 hz2
 ((dsimp only[Av,List.zip_cons_cons,List.zip_nil_right,List.zip_nil_left,List.cons_append,List.nil_append];rw[show(fun O=>none:Loc)=Loc.nil from rfl]))
 refine AG (AB hF (by kernel_rfl)) (B3 (AP ⟨Nat.zero_le _,fun ah hah=>?_⟩)) rfl
 refine AG (AB hF (by kernel_rfl)) (B3 (AP ⟨Nat.zero_le _,fun ac hac=>?_⟩)) rfl
 have n1:ah≠ac:=by rintro rfl;rw[AA]at hac;injection hac
 have hcH:H ac=none:=by rw[AE _ _ (Ne.symm n1)]at hac;exact hac
 have m1:a1≠ah:=by rintro rfl;rw[h1]at hah;injection hah
 have m2:a2≠ah:=by rintro rfl;rw[h2]at hah;injection hah
 have m3:a1≠ac:=by rintro rfl;rw[h1]at hcH;injection hcH
 have m4:a2≠ac:=by rintro rfl;rw[h2]at hcH;injection hcH
 have gh:∀ x y,((H.set ah x).set ac y) ah=some x:=fun x y=>by rw[AE _ _ n1,AA]
 have g1:∀ x y,((H.set ah x).set ac y) a1=some ho1:=fun x y=>by rw[AE _ _ m3,AE _ _ m1];exact h1
 have g2:∀ x y,((H.set ah x).set ac y) a2=some ho2:=fun x y=>by rw[AE _ _ m4,AE _ _ m2];exact h2
 have sh:∀ x y x',((H.set ah x).set ac y).set ah x'=(H.set ah x').set ac y:=fun x y x'=>by rw[DA _ _ _ (Ne.symm n1),AH.set_set]
 have i1:∀ i,i<one.length→CK ho1.items (i:Int)=some (.int (one.getD i 0)):=fun i hi=>by rw[e1];exact A8 hi
 have i2:∀ i,i<other.length→CK ho2.items (i:Int)=some (.int (other.getD i 0)):=fun i hi=>by rw[e2];exact A8 hi
 have em1:ho1.items.isEmpty=decide (one.length=0):=by rw[e1];cases one<;>simp
 have em2:ho2.items.isEmpty=decide (other.length=0):=by rw[e2];cases other<;>simp
 have hS:∀ l:List (Nat × Nat),∀ z∈l.map (CG one other),JG z:=fun l z hz=>by obtain⟨q,_,rfl⟩:=List.mem_map.mp hz;exact Gp ..
 -- the loop
 have loop:∀(σ':Loc) (hp:List (Nat × Nat)),Loc.le ((((Loc.nil.set "one" (.ref a1)).set "other" (.ref a2)).set "heap" (.ref ah)).set "course" (.ref ac)) σ'→Fr R one.length other.length [] hp→HeapAt R 0 hp →
   Exs G F ((BC (fnOf (KK G) 137)).drop 3) σ' ((H.set ah (.lst (hp.map (CG one other)))).set ac (.lst [])) (fun f O H'=>match f with | .ret p=>∃ H'',AH.le H'' H'∧Q p H'' | _=>∃ H'',AH.le H'' H'∧Q .none H''):=by
  intro σ' hp0 hσ F0 hh0
  refine Exs.le ?_ hσ
  show Exs G F (_::_) _ _ _
  refine AI (B0 (fun n σ' H'=>∃ dn hp,n=one.length*other.length - dn.length∧Fr R one.length other.length dn hp∧HeapAt R 0 hp∧H'=(H.set ah (.lst (hp.map (CG one other)))).set ac (.lst (dn.map (CG one other))) ∧
   σ'=(((Loc.nil.set "one" (.ref a1)).set "other" (.ref a2)).set "heap" (.ref ah)).set "course" (.ref ac)) _ ⟨_,Loc.le_refl _,[],hp0,rfl,F0,hh0,rfl,rfl⟩ ?_)
  intro n _ _ zq9
  refine AJ fun WW9 hW9=>?_
  obtain⟨dn,hp,eq9_0,Fr0,hhp,eq9_1,eq9_2⟩:=zq9
  refine hW9 ?_
  clear hW9 WW9
  subst eq9_0 eq9_1 eq9_2
  refine DP (by exact Iv hu9) Gt (gh _ _) ?_
  have hlen:=Fr0.len
  cases hp with
  | nil =>
   simp only[AC,List.map_nil,List.isEmpty_nil,Bool.not_true,Bool.false_eq_true,if_false]
   refine AR ?_
   (with_reducible refine V ?_ Gt)
   have hdn:dn=Hh (sm one other) other.length one.length:=IB (by rw[hR];exact Fr0.srt) (FQ _ _) (Fr0.fin.trans (EM _ _).symm)
   rw[hdn]
   exact⟨_,AH.le_set _ _ (AT hah),hQ ac hcH⟩
  | cons r t =>
   simp only[AC,List.map_cons,List.isEmpty_cons,Bool.not_false,if_true]
   have hrv:=Fr0.val r (by simp)
   have hr0:∀ u∈r::t,R u r=false:=(Bo o r hhp).2.2
   refine AI (BW ?_)
   (with_reducible refine A3 (AQ Gt) Bl ?_)
   refine AK (gh _ _) (p:=CG one other r) rfl ?_
   refine Aj hFh rfl (AL (AB hF (by kernel_rfl)) (AL (AB hF (by kernel_rfl)) (AL (AB hF (by kernel_rfl)) ?_)))
   refine Ae (F3 PySem.F.slot_list_append rfl ?_ rfl rfl) rfl
   (with_reducible refine V ?_ Gt)
   refine⟨ac,_,rfl,AA ..,?_⟩
   refine AM (BB ?_) (by with_unfolding_all rfl)
   (with_reducible refine AN (A0 Gt (A0 Gt (A0 Gt BV))) ?_)
   refine⟨by simp only[sizeLine_eq];exact Nat.le_of_ble_eq_true rfl,?_⟩
   (with_reducible apply AP)
   refine GR (AA ..) (by rw[List.length_map,sizeLine_eq];simp only[List.length_cons]at hlen;exact Ng hlen hmk) ?_
   simp only[AH.set_set,show dn.map (CG one other)++[PV.tup [.int (sm one other r),.int r.1,.int r.2]]=(dn++[r]).map (CG one other)by rw[List.map_append];rfl]
   -- what is left once the heap has its new row
   have tail:∀(Post:PF→Loc→AH→Prop) (σ2:Loc) (pre hp1:List (Nat × Nat)),pre=(if r.2=0∧r.1+1<one.length then[(r.1+1,0)] else[])→hp1.Perm (pre++(r::t))→HeapAt R 0 hp1→Loc.le ((((((((Loc.nil.set "one" (.ref a1)).set "other" (.ref a2)).set "heap" (.ref ah)).set "course" (.ref ac)).set "total" (.int (sm one other r))).set "i" (.int r.1)).set "j" (.int r.2))) σ2 →
     (∀ hp',hp'.Perm (D5 one.length other.length r++t)→HeapAt R 0 hp'→∀ σ3,Loc.le ((((Loc.nil.set "one" (.ref a1)).set "other" (.ref a2)).set "heap" (.ref ah)).set "course" (.ref ac)) σ3→Post .next σ3 ((H.set ah (.lst (hp'.map (CG one other)))).set ac (.lst ((dn++[r]).map (CG one other))))) →
     Exs G F (EK (BC (fnOf (KK G) 137)) 3 3) σ2 ((H.set ah (.lst (hp1.map (CG one other)))).set ac (.lst ((dn++[r]).map (CG one other)))) Post:=by
    intro Post σ2 pre hp1 hpre hp1p hh1 hσ2 nxt
    have hr1:∀ u∈hp1,R u r=false:=fun u hu=>by
     rcases List.mem_append.mp (hp1p.mem_iff.mp hu)with hu | hu
     ·rw[hpre]at hu
      have hk:u∈D5 one.length other.length r:=List.mem_append_left _ hu
      exact o.asym _ _ (mono r u (D0 hk) (C1 hrv hk).1 (C1 hrv hk).2)
     ·exact hr0 u hu
    have hrm:r∈hp1:=hp1p.mem_iff.mpr (List.mem_append_right _ List.mem_cons_self)
    refine Exs.le ?_ hσ2
    show Exs G F (_::_) _ _ _
    refine AI (Af ?_)
    (with_reducible refine QN (Cs (AQ Gt) Bl) ?_ (by with_unfolding_all rfl))
    refine BN "len" hK (AD hF (by kernel_rfl)) (by kernel_rfl) (by decide +kernel) (by decide) ?_
    (with_reducible refine AN (A0 Gt BV) ?_)
    refine Cj (g2 _ _) e2 ?_
    (with_reducible apply Bf)
    by_cases hj:r.2+1<other.length
    ·refine⟨true,by simp;exact Int.ofNat_lt.mpr hj,?_⟩
     refine An ?_
     cases hp1 with
     | nil=>cases hrm
     | cons y t1 =>
      obtain rfl:=MQ o tot hh1 hrm hr1
      have ht1:t1.Perm (pre++t):=(hp1p.trans List.perm_middle).cons_inv
      refine Ae (A9 (fa:=35) hK (AD hF (by kernel_rfl)) (by kernel_rfl) (by kernel_rfl) ?_) rfl
      (with_reducible refine BR (AQ Gt) ?_;refine AM ?_)
      refine BB ?_
      (with_reducible refine AM ?_;apply AZ;refine A3 (AQ Gt) (AQ Gt) ?_)
      refine AK (g1 _ _) (i1 _ hrv.1) ?_
      (with_reducible refine A3 (AQ Gt) (Cs (AQ Gt) Bl) ?_)
      refine AK (g2 _ _) (p:=.int (other.getD (y.2+1) 0)) (by rw[show(y.2:Int)+1=((y.2+1:Nat):Int)by exact rfl];exact i2 _ hj) ?_
      (with_reducible apply Bh;refine AN (A0 Gt (JK (Cs (AQ Gt) Bl) BV)) ?_)
      refine⟨by simp only[sizeLine_eq];exact Nat.le_of_ble_eq_true rfl,?_⟩
      (with_reducible apply AP)
      simp only[show PV.tup [.int (one.getD y.1 0+other.getD (y.2+1) 0),.int y.1,.int ((y.2:Int)+1)]=CG one other (y.1,y.2+1)from rfl]
      refine CN (S:=JG) (lt:=E9) (y:=CG one other y) (r:=t1.map (CG one other)) hK hFA (Mm G) (gh _ _) (hS t1) (Gp ..) ?_
      refine AJ fun WW9 hW9=>?_
      obtain⟨q1,q2,_⟩:=Bo o (y.1,y.2+1) hh1
      refine hW9 ?_
      clear hW9 WW9
      simp only[show(CG one other (y.1,y.2+1)::t1.map (CG one other))=((y.1,y.2+1)::t1).map (CG one other)from rfl,CS (lt:=R) (ltb:=E9) (CG one other) hlt,sh]
      refine AF (AF (nxt _ (q1.trans ?_) q2 _ ?_))
      ·unfold D5
       rw[← hpre,if_pos hj]
       exact(List.Perm.cons _ ht1).trans (by simp only[List.append_assoc];exact List.perm_middle.symm)
      ·(exact Le)
    ·refine⟨false,by simp;exact KZ hj,?_⟩
     refine A1 ?_
     refine Ae (A9 (fa:=28) hK (AD hF (by kernel_rfl)) (by kernel_rfl) (by kernel_rfl) ?_) rfl
     (with_reducible refine AN (A0 Gt BV) ?_)
     obtain⟨ys,last,rfl⟩:∃ ys last,hp1=ys++[last]:=⟨_,_,(List.dropLast_concat_getLast (List.ne_nil_of_mem hrm)).symm⟩
     refine I2 (S:=JG) (lt:=E9) (ys:=ys.map (CG one other)) (x:=CG one other last) hK hFA (Mm G) (by rw[gh,List.map_append];rfl) (fun z hz=>hS (ys++[last]) z (by rw[List.map_append];exact hz)) ?_
     refine AJ fun WW9 hW9=>?_
     obtain⟨q1,q2,q3⟩:=LP o hh1
     refine hW9 ?_
     clear hW9 WW9
     rw[LO (lt:=R) (ltb:=E9) (CG one other) hlt,sh]
     have hroot:(FB R ys last).1=r:=tot _ _ (hr1 _ (q1.mem_iff.mp List.mem_cons_self)) (q3 r hrm)
     rw[hroot]at q1
     have ht1:(FB R ys last).2.Perm (pre++t):=(q1.trans (hp1p.trans List.perm_middle)).cons_inv
     refine AF (AF (nxt _ (ht1.trans ?_) q2 _ ?_))
     ·unfold D5
      rw[← hpre,if_neg hj,List.append_nil]
     ·(exact Le)
   have nxt:∀ hp',hp'.Perm (D5 one.length other.length r++t)→HeapAt R 0 hp'→∀ σ3,Loc.le ((((Loc.nil.set "one" (.ref a1)).set "other" (.ref a2)).set "heap" (.ref ah)).set "course" (.ref ac)) σ3→∃ m,m<one.length*other.length - dn.length∧∃ σ'',Loc.le σ'' σ3∧∃ dn' hp'',m=one.length*other.length - dn'.length∧Fr R one.length other.length dn' hp''∧HeapAt R 0 hp''∧(H.set ah (.lst (hp'.map (CG one other)))).set ac (.lst ((dn++[r]).map (CG one other)))=(H.set ah (.lst (hp''.map (CG one other)))).set ac (.lst (dn'.map (CG one other))) ∧
      σ''=(((Loc.nil.set "one" (.ref a1)).set "other" (.ref a2)).set "heap" (.ref ah)).set "course" (.ref ac):=fun hp' hp'p hh' σ3 h3 =>
    ⟨_,by rw[List.length_append] ; simp only[List.length_cons,List.length_nil]at hlen ⊢;exact Nf hlen,_,h3,dn++[r],hp',rfl,Fr0.step o tot mono (fun u hu=>hr0 u (List.mem_cons_of_mem _ hu)) hp'p,hh',rfl,rfl⟩
   refine AI (Af (FL ?_))
   (with_reducible refine A7 (AQ Gt) Bl ?_;apply Hv)
   by_cases hj0:r.2=0
   ·refine⟨true,by simp[hj0],?_⟩
    refine An ?_
    (with_reducible refine QN (Cs (AQ Gt) Bl) ?_ (by with_unfolding_all rfl))
    refine BN "len" hK (AD hF (by kernel_rfl)) (by kernel_rfl) (by decide +kernel) (by decide) ?_
    (with_reducible refine AN (A0 Gt BV) ?_)
    refine Cj (g1 _ _) e1 ?_
    (with_reducible apply Bf)
    by_cases hi1:r.1+1<one.length
    ·refine⟨true,by simp;exact Int.ofNat_lt.mpr hi1,?_⟩
     refine An ?_
     refine Ae (A9 (fa:=21) hK (AD hF (by kernel_rfl)) (by kernel_rfl) (by kernel_rfl) ?_) rfl
     (with_reducible refine BR (AQ Gt) ?_;refine AM ?_)
     refine BB ?_
     (with_reducible refine AM ?_;apply AZ;refine A3 (AQ Gt) (Cs (AQ Gt) Bl) ?_)
     refine AK (g1 _ _) (p:=.int (one.getD (r.1+1) 0)) (by rw[show(r.1:Int)+1=((r.1+1:Nat):Int)by exact rfl];exact i1 _ hi1) ?_
     (with_reducible refine A3 (AQ Gt) Bl ?_)
     refine AK (g2 _ _) (p:=.int (other.getD 0 0)) (i2 0 (by exact Nat.zero_lt_of_lt hrv.2)) ?_
     (with_reducible apply Bh;refine AN (JK (Cs (AQ Gt) Bl) (JK Bl BV)) ?_)
     refine⟨by simp only[sizeLine_eq];exact Nat.le_of_ble_eq_true rfl,?_⟩
     (with_reducible apply AP)
     simp only[show PV.tup [.int (one.getD (r.1+1) 0+other.getD 0 0),.int ((r.1:Int)+1),.int 0]=CG one other (r.1+1,0)from rfl]
     refine Es (S:=JG) (lt:=E9) (xs:=(r::t).map (CG one other)) hK hFA (Mm G) (gh _ _) (hS (r::t)) (Gp ..) (by simp only[List.length_map,sizeLine_eq];exact Nd hlen hmk) ?_
     simp only[GW (lt:=R) (ltb:=E9) (CG one other) hlt,sh]
     refine AF (tail _ _ _ _ rfl ?_ (I1 o _ hhp) ?_ nxt)
     ·rw[if_pos ⟨hj0,hi1⟩];exact Fm _ _
     ·(exact Le)
    ·refine⟨false,by simp;exact KZ hi1,?_⟩
     refine A1 ?_
     refine AF (tail _ _ _ (r::t) rfl ?_ hhp ?_ nxt)
     ·rw[if_neg (fun h=>hi1 h.2)];exact List.Perm.refl _
     ·(exact Le)
   ·refine⟨false,by simp;exact hj0,?_⟩
    refine A1 ?_
    refine AF (tail _ _ _ (r::t) rfl ?_ hhp ?_ nxt)
    ·rw[if_neg (fun h=>hj0 h.1)];exact List.Perm.refl _
    ·(exact Le)
 refine AI (Af (FL ?_))
 refine DP (by exact Iv hu9) Gt (g1 _ _) ?_
 rw[em1]
 by_cases z1:one.length=0
 ·rw[decide_eq_true z1]
  refine A1 ?_
  refine AF (loop _ [] ?_ (Gd (.inl z1)) (by rintro k u v h;simp at h))
  (exact Le)
 rw[decide_eq_false z1]
 refine An ?_
 refine DP (by exact Iv hu9) Gt (g2 _ _) ?_
 rw[em2]
 by_cases z2:other.length=0
 ·rw[decide_eq_true z2]
  refine A1 ?_
  refine AF (loop _ [] ?_ (Gd (.inr z2)) (by rintro k u v h;simp at h))
  (exact Le)
 rw[decide_eq_false z2]
 refine An ?_
 refine Ae (A9 (fa:=21) hK (AD hF (by kernel_rfl)) (by kernel_rfl) (by kernel_rfl) ?_) rfl
 (with_reducible refine BR (AQ Gt) ?_;refine AM ?_)
 refine BB ?_
 (with_reducible refine AM ?_;apply AZ;refine A3 (AQ Gt) Bl ?_)
 refine AK (g1 _ _) (p:=.int (one.getD 0 0)) (i1 0 (by exact Nat.pos_of_ne_zero z1)) ?_
 (with_reducible refine A3 (AQ Gt) Bl ?_)
 refine AK (g2 _ _) (p:=.int (other.getD 0 0)) (i2 0 (by exact Nat.pos_of_ne_zero z2)) ?_
 (with_reducible apply Bh;refine AN (JK Bl (JK Bl BV)) ?_)
 refine⟨by simp only[sizeLine_eq];exact Nat.le_of_ble_eq_true rfl,?_⟩
 (with_reducible apply AP)
 simp only[show PV.tup [.int (one.getD 0 0+other.getD 0 0),.int 0,.int 0]=CG one other (0,0)from rfl]
 refine Es (S:=JG) (lt:=E9) (xs:=[]) hK hFA (Mm G) (gh _ _) (by simp) (Gp ..) (by rw[sizeLine_eq];simp) ?_
 simp only[show([]:List PV)=([]:List (Nat × Nat)).map (CG one other)from rfl,GW (lt:=R) (ltb:=E9) (CG one other) hlt,sh]
 have e0:D6 R (0,0) []=[(0,0)]:=List.perm_singleton.mp (Fm _ _)
 simp only[e0]
 refine AF (loop _ [(0,0)] ?_ (Fr.start (by exact Nat.pos_of_ne_zero z1) (by exact Nat.pos_of_ne_zero z2)) (by
  rintro k u v h1 h2 h3
  have:=(List.getElem?_eq_some_iff.mp h1).1
  simp only[List.length_cons,List.length_nil]at this;exact False.elim (absurd h3 (Nat.not_le_of_lt this))))
 (exact Le)
end

section
variable {G:Cx} {A:Around} {F:Fx} {σ:Loc} {H:AH} {Q:PV→AH→Prop}
theorem Ep{n:Nat}(hh:A.handled=none)(hn:n≤10000)(h:∀ a,H a=none→Q (.ref a) (H.set a (.lst ((List.range n).map fun i:Nat=>.int i)))):OpL G A (fun vs=>call (.type "list") vs) [.rng 0 n 1] H Q:=by
 intro s _ ok zq9
 refine AJ fun WW9 hW9=>?_
 obtain⟨v,_,eq9_0,⟨r,t,u,w,eq9_1,hr⟩,eq9_2⟩:=zq9
 refine hW9 ?_
 clear hW9 WW9
 subst eq9_0 eq9_1 eq9_2
 refine call_list_range hh hr (small_one (by exact Int.natCast_nonneg _) (by exact Int.natCast_nonneg _) (by exact Int.natCast_nonneg _) (by exact Nc hn)) (n:=n) (by rw[rangeSize_one];split<;>(first | exact rfl | exact Nb hn (by assumption))) (Nat.le_trans hn (by decide)) fun h' tk acc' c' hk hS hI=>?_
 have hvs:VRs h' ((List.range n).map fun i:Nat=>PV.int i) acc'.toList:=by
  have:=MR (h':=h') hI
  simpa using this
 have hb:∀ b o,G.base.get? b=some o→b≠s.heap.objs.size:=fun b o e=>Nat.ne_of_lt (Heap.lt_size (ok.keep b o e))
 refine⟨.ref s.heap.objs.size,H.set s.heap.objs.size (.lst ((List.range n).map fun i:Nat=>.int i)),rfl,⟨fun b o e=>hk b o (ok.keep b o e),fun a o e=>?_,ok.gens,ok.dat.all hk,ok.tab.keep fun b o O e=>hk b o e⟩,⟨rfl,fun b o e O=>.of (hk b o e),fun b o hb=>?_⟩,h _ (Co ok)⟩
 ·by_cases ha:a=s.heap.objs.size
  ·subst ha
   rw[AA]at e;(replace e:=Option.some.inj e;subst e)
   refine⟨⟨acc'.toList,c',by rw[Array.toArray_toList];exact hS,hvs,by simp only[AC,List.length_map,List.length_range,sizeLine_eq];exact Nat.le_add_left_of_le hn⟩,fun O O=>?_⟩
   cases e:G.base.get? s.heap.objs.size with
   | none=>rfl
   | some o=>exact absurd rfl (hb _ _ e)
  ·rw[AE _ _ ha]at e
   exact(ok.hr.other fun b o e O=>hk b o e) a o e
 ·by_cases ha:b=s.heap.objs.size
  ·left;rw[ha];exact Bx (Nat.le_refl _)
  ·rw[AE _ _ ha]at hb;exact .inr ⟨o,hb,id⟩
theorem EC{sts:List Stmt}{a:Addr}{ho:HO}{R:PF→Loc→AH→Prop}(hH:H a=some ho)(h:Exs G F sts σ (H.set a (.fro ho.items)) (fun f σ' H'=>R f σ' (H'.set a ho))):Exs G F sts σ H R :=
 fun s ok lr=>wpAny_mono (h s (HJ ok hH) lr) (fun O O x=>x.thaw ok lr hH) fun O O x=>x
noncomputable def ER(p:Nat × Nat):PV:=.tup [.int p.1,.int p.2]

theorem IE{ko:Obj}{name qual:Str}{params:Arguments}{q1 q2 q3 q4 q5 q6 q7 q8 q9 q10 q11:Pos}{scope:Scope}{pm ctv:Value}{c1 c2 c' a1 a2:Addr}{o1 o2:Obj}{ho1 ho2:HO}{one other:List Int}{clos:List (Str × Addr)}{p:Nat × Nat}
  (hko:ko=kla_obj name qual params (.BinOp (.Subscript (.Name "one" q1) (.Subscript (.Name "pair" q2) (.Constant (.int 0) 0 q3) q4) q5) .Add (.Subscript (.Name "other" q6) (.Subscript (.Name "pair" q7) (.Constant (.int 1) 0 q8) q9) q10) q11) scope clos pm c' ctv) (hcl:clos=[(Str.ofString "other", c2),(Str.ofString "one", c1)])
  (hsc:Ao scope=true) (hco:scope.isCoroutine=false) (hgen:scope.isGenerator=false) (hnames:scope.names=[(Str.ofString "pair", NameKind.local),(Str.ofString "one", NameKind.free),(Str.ofString "other", NameKind.free)])
  (hbind:∀ v,bindArgs (kla_fn name qual params (.BinOp (.Subscript (.Name "one" q1) (.Subscript (.Name "pair" q2) (.Constant (.int 0) 0 q3) q4) q5) .Add (.Subscript (.Name "other" q6) (.Subscript (.Name "pair" q7) (.Constant (.int 1) 0 q8) q9) q10) q11) scope [(Str.ofString "other", c2),(Str.ofString "one", c1)] pm (.ref c') ctv) ⟨[v],[]⟩=pure [(Str.ofString "pair", v)])
  (hD1:G.D c1 o1) (hd1:o1.data=.cell (some (.ref a1))) (hD2:G.D c2 o2) (hd2:o2.data=.cell (some (.ref a2))) (hne:a1≠a2)
  (h1:H a1=some ho1) (e1:ho1.items=one.map .int) (h2:H a2=some ho2) (e2:ho2.items=other.map .int) (hp:p.1<one.length∧p.2<other.length) (hA:A.depth<960) :
  OpC G A (.fnc ko) [ER p] H (fun v H'=>v=.int (sm one other p)∧H'=H):=by
 subst hcl
 intro s v vs ok hv hvs
 have hcc:c1≠c2:=by
  rintro rfl
  obtain⟨x,g1,g1'⟩:=ok.dat c1 o1 hD1
  obtain⟨y,g2,g2'⟩:=ok.dat c1 o2 hD2
  rw[g1]at g2;(replace g2:=Option.some.inj g2;subst g2)
  rw[g1',hd1]at g2';rw[hd2]at g2'
  injection g2' with e;injection e with e;injection e with e
  exact hne e
 refine Lh (pb:=[("pair", ER p)]) ((Loc.nil.set "one" (.ref a1)).set "other" (.ref a2)) hko (Nat.lt_of_lt_of_le hA (by decide)) hsc hco hgen ?_ ?_ ?_ ?_ ?_ ?_ ?_ s v vs ok hv hvs
 ·rw[hnames];decide
 ·rw[hnames];intro x hx;rw[List.mem_singleton.mp hx];rfl
 ·intro h vs hvs
  obtain⟨v,rfl,hv⟩:=hvs.one_inv
  exact⟨_,hbind v,fun h' hm=>⟨v,[],rfl,hm _ _ hv,rfl⟩⟩
 ·intro x hx
  rw[hnames]at hx
  have hxf:x=Str.ofString "one" ∨ x=Str.ofString "other" := by
   by_cases h1:x=Str.ofString "pair"
   ·subst h1;simp at hx
   ·by_cases h2:x=Str.ofString "one"
    ·exact .inl h2
    ·by_cases h3:x=Str.ofString "other"
     ·exact .inr h3
     ·rw[List.lookup_cons,beq_eq_false_iff_ne.mpr h1,List.lookup_cons,beq_eq_false_iff_ne.mpr h2,List.lookup_cons,beq_eq_false_iff_ne.mpr h3]at hx;injection hx
  rcases hxf with rfl | rfl
  ·exact⟨c1,o1,_,by with_unfolding_all rfl,hD1,hd1,fun p hp=>⟨a1,by
    have e:((Loc.nil.set "one" (.ref a1)).set "other" (.ref a2)) (Str.ofString "one")=some (.ref a1):=by(with_reducible repeat (first | exact Loc.here | refine Gb (by decide) ?_))
    rw[e]at hp;(replace hp:=Option.some.inj hp;subst hp);rfl,rfl⟩⟩
  ·exact⟨c2,o2,_,by simp,hD2,hd2,fun p hp=>⟨a2,by rw[Loc.here]at hp;(replace hp:=Option.some.inj hp;subst hp);rfl,rfl⟩⟩
 ·intro x p hp
  rw[hnames]
  by_cases h2:x=Str.ofString "other"
  ·subst h2;rfl
  ·rw[C7,if_neg h2]at hp
   by_cases h1:x=Str.ofString "one"
   ·subst h1;rfl
   ·rw[C7,if_neg h1]at hp;injection hp
 ·exact List.pairwise_cons.mpr ⟨fun x hx=>by rw[List.mem_singleton.mp hx];exact Ne.symm hcc,by simp⟩
 ·intro F h1' h2'
  simp only[Av]
  (with_reducible apply AZ;refine Rj (AQ Gt) ?_;refine A3 (AQ Gt) Bl ?_)
  refine DB (by exact Nat.le_of_ble_eq_true rfl) (p:=.int p.1) rfl ?_
  refine AK h1 (p:=.int (one.getD p.1 0)) (by rw[e1];exact A8 hp.1) ?_
  (with_reducible refine Rj (AQ Gt) ?_;refine A3 (AQ Gt) Bl ?_)
  refine DB (by exact Nat.le_of_ble_eq_true rfl) (p:=.int p.2) rfl ?_
  refine AK h2 (p:=.int (other.getD p.2 0)) (by rw[e2];exact A8 hp.2) ?_
  (with_reducible apply Bh)
  exact⟨rfl,rfl⟩
end

section
variable {G:Cx} {A:Around} {F:Fx} {σ:Loc} {H:AH} {Q:PV→AH→Prop}
theorem Lw{x0:Int}{k1 k2 k3:Nat}{p1 p2 p3 p4 p5 p6 p7 p8 p9 p10 p11 p12 p13 p14 p15 p16 p17:Pos}{scope:Scope}{a:Addr}{ns:List Int}{w:Int}(hK:G.K=KK G)(hFA:F.A.depth<850∧F.A.units<8500)(hFh:F.A.handled=none)
  (hk:F.env.kindOf "_law_row" = some .globalImplicit) (hkr:F.env.kindOf "range" = some .globalImplicit) (hkl:F.env.kindOf "len" = some .globalImplicit) (hsc:Ao scope=true) (hfree:By F scope) (hle:Loc.le (Loc.nil.set "script" (.ref a)) (σ.fr scope)) (hlk:scope.names.lookup (Str.ofString "k")=some NameKind.local)
  (hx0:0≤x0) (hx1:x0≤3) (hσ:σ "script" = some (.ref a)) (hσ2:σ "second" = some (.int w)) (hH:H a=some (.fro (ns.map .int))) (hlen:ns.length≤63)
  (h:∀ row:List Int,Srt CC row→row.length≤63→∀ r,H r=none→Q (.ref r) (H.set r (.lst (row.map .int)))) :
  Ev G F (.Call (.Name "_law_row" p1) [.ListComp (.Subscript (.Name "script" p2) (.Name "k" p3) p4) [⟨.Name "k" p5,.Call (.Name "range" p6) [.Constant (.int x0) k1 p7,.Call (.Name "len" p8) [.Name "script" p9] [] p10,.Constant (.int 2) k2 p11] [] p12,[],0⟩] scope p13,.BinOp (.Name "second" p14) .Mod (.Constant (.int 8) k3 p15) p16] [] p17) σ H Q:=by
 obtain⟨c,hc,hcb,hcn⟩:∃ c:Nat,Builtin.Range.rangeSize x0 (ns.length:Int) 2=(c:Int)∧(∀ i:Nat,i<c→x0+(i:Int)*2<ns.length)∧c≤ns.length:=by
  unfold Builtin.Range.rangeSize
  rw[if_pos (by decide)]
  split
  ·exact⟨(((ns.length:Int) - x0 - 1) / 2+1).toNat,by exact Na (by assumption),fun i hi=>by exact NZ hi,by exact NY hx0 hlen (by assumption) hx1⟩
  ·exact⟨0,rfl,fun i hi=>by exact(Nat.not_lt_zero _ hi).elim,by exact Nat.zero_le _⟩
 have hsm:Builtin.Range.small x0 (ns.length:Int) 2=true:=by
  have f:∀ x:Int,-1000≤x→x≤1000→Builtin.Range.rangeFitsLong x=true:=fun x h1 h2=>by
   unfold Builtin.Range.rangeFitsLong
   simp only[Bool.and_eq_true,decide_eq_true_eq,decide_eq_true_eq]
   exact⟨Int.le_trans (by decide) h1,Int.lt_of_le_of_lt h2 (by decide)⟩
  unfold Builtin.Range.small
  rw[hc,f x0 (by exact Int.le_trans (by decide) hx0) (by exact Int.le_trans hx1 (by decide)),f (ns.length:Int) (by exact Int.natCast_nonneg _) (by exact Int.ofNat_le.mpr (Nat.le_trans hlen (by decide))),f 2 (by exact Int.natCast_nonneg _) (by exact Int.natCast_nonneg _),f (c:Int) (by exact Int.natCast_nonneg _) (by exact NX hcn hlen),if_pos (by decide),f ((ns.length:Int)+(2 - 1)) (by exact Int.natCast_nonneg _) (by exact NW hlen),Bool.or_true]
  rfl
 refine Ev.drop (A9 (fa:=130) hK hk (by kernel_rfl) (by kernel_rfl) ?_)
 refine AM (Dk (B4 (α:=Nat) (τ:=Loc.nil.set "script" (.ref a)) (fun i=>.int (x0+(i:Int)*2)) (fun O=>true) (fun i=>.int (ns.getD (x0.toNat+i*2) 0)) hsc hfree hle ?_)) (by with_unfolding_all rfl)
 refine CQ "range" hK hkr (by kernel_rfl) (by decide +kernel) (by decide) ?_
 refine AM (Au ?_) (by with_unfolding_all rfl)
 refine AM (BN "len" hK hkl (by kernel_rfl) (by decide +kernel) (by decide) ?_) (by with_unfolding_all rfl)
 refine AM (BT hσ (AP ?_)) (by with_unfolding_all rfl)
 refine DG hH ?_
 refine AM (Au (AP ?_)) (by with_unfolding_all rfl)
 refine ET (by decide) (by decide) ?_
 refine⟨List.range c,Fz hFh hsm hc,by rw[List.length_range,sizeLine_eq];exact Nat.le_trans hcn (Nat.le_trans hlen (by decide)),?_,?_⟩
 ·intro F' hF' i hi
  have hi:=hcb i (List.mem_range.mp hi)
  refine AL (hF'.sto _ (.inl hlk)) ?_
  refine⟨rfl,?_⟩
  refine An ?_
  (with_reducible refine A3 (AQ Gt) (AQ Gt) ?_)
  refine AK hH (p:=.int (ns.getD (x0.toNat+i*2) 0)) ?_ ⟨rfl,AH.le_refl _⟩
  rw[Bc,show x0+(i:Int)*2=((x0.toNat+i*2:Nat):Int)by exact NV hx0]
  exact A8 (by exact NU hx0 hi)
 intro l hl
 rw[A2]
 refine⟨l,_,AA _ _ _,?_⟩
 simp only[AH.set_set,AC]
 refine AM (AZ (BT hσ2 (Au (Gx (by decide) (AP ?_))))) (by with_unfolding_all rfl)
 refine Iy (ns:=(List.range c).map fun i=>ns.getD (x0.toNat+i*2) 0) hK hFA hFh (by simp only[AA,List.map_map];rfl) (by simp;exact Nat.le_trans hcn hlen) fun row hs hrl r hr=>?_
 have hrl':r≠l:=by rintro rfl;rw[AA]at hr;injection hr
 rw[AE _ _ hrl']at hr
 exact⟨_,AH.le_set _ _ (AT hl),h row hs (by rw[hrl];simp;exact Nat.le_trans hcn hlen) r hr⟩
end

section
theorem QG(x y:Nat × Nat):FD (ER x) (ER y)=some (decide (x=y)):=by
 obtain⟨a,b⟩:=x;obtain⟨c,d⟩:=y
 simp only[ER,FD,Dg,IN,List.isEmpty_nil,Bool.and_true,Prod.mk.injEq]
 congr 1;apply BG
 simp only[Bool.and_eq_true,beq_iff_eq,beq_iff_eq,decide_eq_true_iff];exact NT
theorem Hs{f:Nat × Nat→Int}{l r:List (Nat × Nat)}(h:l.Pairwise fun p q=>CU f p q=true)(hp:l.Perm r){t:Nat}(ht:t≤l.length):(l.take t).map (fun p=>((r.countP fun q=>CU f q p:Nat):Int))=(List.range t).map fun i:Nat=>(i:Int):=by
 rw[List.map_take,places h hp,← List.map_take,List.take_range,Nat.min_eq_left ht]
theorem QB(f:Nat × Nat→Int)(l:List (Nat × Nat)):AO (fun x y=>Cg (f x) (f y)) l=AO (fun x y=>decide (-(f x) < -(f y))) l:=by
 congr 1;funext x y;unfold Cg;congr 1;exact propext (by exact NS)
theorem MS{k m:Nat}(hk:k≤63)(hm:m≤63):(Be k m).length≤3969:=by rw[FG];exact Nat.mul_le_mul hm hk
variable {G:Cx} {A:Around} {H:AH} {Q:PV→AH→Prop}
theorem law_ok{a:Addr}{ns:List Int}(hK:G.K=KK G)(hst:SX G A)(hA:A.depth<840∧A.units<8400)(hh:A.handled=none)
  (hT:G.T 153) (htq:∀ l c,G.tq 153 l c=(fnOf (KK G) 156).qualname ++ ".<locals>." ++ "<lambda>") (hbm:BM G) (hH:H a=some (.fro (ns.map .int))) (hlen:ns.length≤63) (hQ:∀ H',Q (.bool true) H') :
  OpL G A (fun vs=>call (.ref 156) vs) [.ref a] H Q:=by
 refine EA (ns:=["script"]) (pb:=[("script", .ref a)]) (ar:=fun vs=>⟨vs,[]⟩) hK (by kernel_rfl) (Nat.lt_of_lt_of_le hA.1 (by decide)) (by simp) ?_ ?_
 ·intro h _ zq9
  refine AJ fun WW9 hW9=>?_
  obtain⟨v1,_,eq9_0,h1,eq9_1⟩:=zq9
  refine hW9 ?_
  clear hW9 WW9
  subst eq9_0 eq9_1
  exact⟨[("script", v1)],by kernel_rfl,fun h' hm=>⟨_,_,rfl,hm _ _ h1,rfl⟩⟩
 intro F hF hE
 have hu1:F.A.units+1<cLine:=hF.lt1 hA.2 (by decide)
 have hFA:F.A.depth<850∧F.A.units<8500:=hF.room hA (by decide) (by decide)
 have hFh:F.A.handled=none:=by rw[hF.handled];exact hh
 have hcode:F.env.code=.ref 155:=hE.code.trans (by kernel_rfl)
 have hhd:CodeHd G.base 155 153:=codeHd_of_K G.kin (by rw[hK];kernel_rfl)
 ((simp only[Av,List.zip_cons_cons,List.zip_nil_right,List.zip_nil_left,List.cons_append,List.nil_append];rw[show(fun O=>none:Loc)=Loc.nil from rfl]))
 -- first,second
 refine AG (AB hF (by kernel_rfl)) (Ev.mono (Q:=fun p H1=>∃ v:Int,p=.int v∧H1=H) (Cf (DP hu1 Gt hH ?_)) ?_) rfl
 ·dsimp only[Bc]
  cases ns with
  | nil =>
   simp only[List.map_nil,List.isEmpty_nil,Bool.not_true,Bool.false_eq_true,if_false]
   (with_reducible apply Au)
   exact⟨_,rfl,rfl⟩
  | cons x r =>
   simp only[List.map_cons,List.isEmpty_cons,Bool.not_false,if_true]
   (with_reducible refine A3 (AQ Gt) Bl ?_)
   exact AK hH (p:=.int x) rfl ⟨_,rfl,rfl⟩
 refine LX fun fi=>?_
 refine AG (AB hF (by kernel_rfl)) (Ev.mono (Q:=fun p H1=>∃ v:Int,p=.int v∧H1=H) (Cf ?_) ?_) rfl
 ·(with_reducible refine Am ?_)
  refine BN "len" hK (AD hF (by kernel_rfl)) (by kernel_rfl) (by decide +kernel) (by decide) ?_
  (with_reducible refine AN (A0 Gt BV) ?_)
  refine DG hH ?_
  (with_reducible apply Au;apply D1)
  by_cases h1:1<ns.length
  ·refine⟨true,by simp;exact Int.ofNat_lt.mpr h1,?_⟩
   refine An ?_
   (with_reducible refine A3 (AQ Gt) Bl ?_)
   exact AK hH (p:=.int (ns.getD 1 0)) (A8 h1) ⟨_,rfl,rfl⟩
  ·refine⟨false,by simp;exact NR h1,?_⟩
   refine A1 ?_
   (with_reducible apply Au)
   exact⟨_,rfl,rfl⟩
 refine LX fun se=>?_
 -- the rows
 refine AG (Hg hF (by kernel_rfl)) (Lw (a:=a) (ns:=ns) (w:=se) hK hFA hFh (AD hF (by kernel_rfl)) (AD hF (by kernel_rfl)) (AD hF (by kernel_rfl)) (by kernel_rfl) (A4 hF (by kernel_rfl)) (by(repeat (first | exact Ad _ | (refine Loc.le_set (BK (by kernel_rfl) Gt) ?_)))) (by kernel_rfl) (by decide) (by decide) Gt Gt hH hlen fun one hs1 hz1 a1 ha1=>?_) rfl
 have n1:a≠a1:=by rintro rfl;rw[hH]at ha1;injection ha1
 refine AG (Hg hF (by kernel_rfl)) (Lw (a:=a) (ns:=ns) (w:=se) hK hFA hFh (AD hF (by kernel_rfl)) (AD hF (by kernel_rfl)) (AD hF (by kernel_rfl)) (by kernel_rfl) (A4 hF (by kernel_rfl)) (by(repeat (first | exact Ad _ | (refine Loc.le_set (BK (by kernel_rfl) Gt) ?_)))) (by kernel_rfl) (by decide) (by decide) Gt Gt (by rw[AE _ _ n1];exact hH) hlen fun other hs2 hz2 a2 ha2=>?_) rfl
 have n2:a1≠a2:=by rintro rfl;rw[AA]at ha2;injection ha2
 have g1:((H.set a1 (.lst (one.map .int))).set a2 (.lst (other.map .int))) a1=some (.lst (one.map .int)):=by rw[AE _ _ n2,AA]
 have g2:((H.set a1 (.lst (one.map .int))).set a2 (.lst (other.map .int))) a2=some (.lst (other.map .int)):=AA ..
 generalize (H.set a1 (.lst (one.map .int))).set a2 (.lst (other.map .int))=H2 at g1 g2 ⊢
 have hcell:∀{τ:Loc} {D:Addr→Obj→Prop},L7 G F τ D→τ "one" = some (.ref a1)→τ "other" = some (.ref a2)→∃ c1 o1 c2 o2,F.env.cells.lookup (Str.ofString "one")=some c1∧D c1 o1∧o1.data=.cell (some (.ref a1))∧F.env.cells.lookup (Str.ofString "other")=some c2∧D c2 o2∧o2.data=.cell (some (.ref a2)):=fun{τ D} b h1 h2=>by
  refine AJ fun WW9 hW9=>?_
  obtain⟨c1,hc1,x1⟩:=b.cell "one" (AD hF (by kernel_rfl))
  refine hW9 ?_
  clear hW9 WW9
  obtain⟨o1,v1,x2,x3,x4⟩:=x1 (by rw[hF.W];exact .inr ⟨_,hc1⟩)
  rw[x4 a1 h1]at x3
  refine AJ fun WW9 hW9=>?_
  obtain⟨c2,hc2,y1⟩:=b.cell "other" (AD hF (by kernel_rfl))
  refine hW9 ?_
  clear hW9 WW9
  obtain⟨o2,v2,y2,y3,y4⟩:=y1 (by rw[hF.W];exact .inr ⟨_,hc2⟩)
  rw[y4 a2 h2]at y3
  exact⟨c1,o1,c2,o2,hc1,x2,x3,hc2,y2,y3⟩
 have hN:=MS hz2 hz1
 -- pairs
 refine AI (Lv (n:=one.length) (m:=other.length) (fy:=fun i j=>ER (i,j)) (Loc.nil.set "other" (.ref a2)) hFh (by kernel_rfl) (A4 hF (by kernel_rfl)) (by(repeat (first | exact Ad _ | (refine Loc.le_set (BK (by kernel_rfl) Gt) ?_)))) (AD hF (by kernel_rfl)) (by kernel_rfl) (by kernel_rfl) (by kernel_rfl) (by kernel_rfl) (by decide) (by exact Nat.lt_of_le_of_lt hz1 (by decide)) (by exact Nat.lt_of_le_of_lt hz2 (by decide)) (by simp only[← FG,sizeLine_eq];exact Nat.le_add_left_of_le hN) (by rw[sizeLine_eq];exact Nat.le_add_left_of_le hz1) ?_ ?_ fun ap hap=>?_)
 ·refine CQ "range" hK (AD hF (by kernel_rfl)) (by kernel_rfl) (by decide +kernel) (by decide) ?_
  (with_reducible refine AM ?_)
  refine BN "len" hK (AD hF (by kernel_rfl)) (by kernel_rfl) (by decide +kernel) (by decide) ?_
  (with_reducible refine AN (A0 Gt BV) ?_)
  refine FH g1 ?_
  (with_reducible apply AP)
  exact BO ⟨rfl,rfl⟩
 ·intro F' hF'
  refine⟨fun O=>rfl,fun i hi=>⟨?_,fun j hj=>?_⟩⟩
  ·refine CQ "range" hK (hF'.kind _ _ (by kernel_rfl) (by decide)) (by kernel_rfl) (by decide +kernel) (by decide) ?_
   (with_reducible refine AM ?_)
   refine BN "len" hK (hF'.kind _ _ (by kernel_rfl) (by decide)) (by kernel_rfl) (by decide +kernel) (by decide) ?_
   (with_reducible refine AN (A0 Gt BV) ?_)
   refine FH g2 ?_
   (with_reducible apply AP)
   exact BO ⟨rfl,rfl⟩
  ·refine BB ?_
   (with_reducible refine AN (A0 Gt (A0 Gt BV)) ?_)
   exact⟨by simp only[sizeLine_eq];exact Nat.le_of_ble_eq_true rfl,rfl,rfl⟩
 rw[Ho ER]
 have np1:a1≠ap:=by rintro rfl;rw[g1]at hap;injection hap
 have np2:a2≠ap:=by rintro rfl;rw[g2]at hap;injection hap
 refine EC (AA ..) ?_
 simp only[AH.set_set,AC]
 have gp:(H2.set ap (.fro ((Be other.length one.length).map ER))) ap=some (.fro ((Be other.length one.length).map ER)):=AA ..
 replace g1:(H2.set ap (.fro ((Be other.length one.length).map ER))) a1=some (.lst (one.map .int)):=by rw[AE _ _ np1];exact g1
 replace g2:(H2.set ap (.fro ((Be other.length one.length).map ER))) a2=some (.lst (other.map .int)):=by rw[AE _ _ np2];exact g2
 generalize H2.set ap (.fro ((Be other.length one.length).map ER))=H3 at g1 g2 gp ⊢
 have hval:∀ p∈Be other.length one.length,p.1<one.length∧p.2<other.length:=fun p hp=>(Dx _ _ p).mp hp
 have i1:∀ i,i<one.length→CK (HO.lst (one.map PV.int)).items (i:Int)=some (.int (one.getD i 0)):=fun i hi=>A8 hi
 have i2:∀ i,i<other.length→CK (HO.lst (other.map PV.int)).items (i:Int)=some (.int (other.getD i 0)):=fun i hi=>A8 hi
 -- sums
 refine AI (Lu (α:=Nat × Nat) ((Loc.nil.set "one" (.ref a1)).set "other" (.ref a2)) ER (fun O=>true) (fun p=>.int (sm one other p)) hF (by kernel_rfl) (by kernel_rfl) (by kernel_rfl) (by(repeat (first | exact Ad _ | (refine Loc.le_set (BK (by kernel_rfl) Gt) ?_)))) (by kernel_rfl) (by kernel_rfl) ?_)
 (with_reducible refine V ?_ Gt)
 refine⟨Be other.length one.length,BH hFh gp (AS gp),by rw[sizeLine_eq];exact Nat.le_add_left_of_le hN,?_,?_⟩
 ·intro F' hF' p hp
  refine Aj (by rw[hF'.A];exact hFh) rfl (AL (hF'.sto _ (.inl (by kernel_rfl))) (AL (hF'.sto _ (.inl (by kernel_rfl))) ?_))
  refine⟨rfl,?_⟩
  refine An ?_
  (with_reducible apply AZ;refine A3 (AQ Gt) (AQ Gt) ?_)
  refine AK g1 (i1 _ (hval p hp).1) ?_
  (with_reducible refine A3 (AQ Gt) (AQ Gt) ?_)
  refine AK g2 (i2 _ (hval p hp).2) ?_
  (with_reducible apply Bh)
  exact⟨rfl,AH.le_refl _⟩
 intro as has
 rw[A2]
 have ns1:a1≠as:=by rintro rfl;rw[g1]at has;injection has
 have ns2:a2≠as:=by rintro rfl;rw[g2]at has;injection has
 have ns3:ap≠as:=by rintro rfl;rw[gp]at has;injection has
 refine EC (AA ..) ?_
 rw[AH.set_set,AC,show(Be other.length one.length).map (fun p=>PV.int (sm one other p))=((Be other.length one.length).map (sm one other)).map PV.int by rw[List.map_map];rfl]
 have gs:(H3.set as (.fro (((Be other.length one.length).map (sm one other)).map PV.int))) as=some (.fro (((Be other.length one.length).map (sm one other)).map PV.int)):=AA ..
 replace g1:(H3.set as (.fro (((Be other.length one.length).map (sm one other)).map PV.int))) a1=some (.lst (one.map .int)):=by rw[AE _ _ ns1];exact g1
 replace g2:(H3.set as (.fro (((Be other.length one.length).map (sm one other)).map PV.int))) a2=some (.lst (other.map .int)):=by rw[AE _ _ ns2];exact g2
 replace gp:(H3.set as (.fro (((Be other.length one.length).map (sm one other)).map PV.int))) ap=some (.fro ((Be other.length one.length).map ER)):=by rw[AE _ _ ns3];exact gp
 generalize H3.set as (.fro (((Be other.length one.length).map (sm one other)).map PV.int))=H4 at g1 g2 gp gs ⊢
 -- wish,taken
 refine AG (AB hF (by kernel_rfl)) (Ev.mono (Q:=fun p H1=>∃ v:Int,p=.int v∧H1=H4) (Cf ?_) ?_) rfl
 ·(with_reducible refine Am ?_;apply AZ;refine FF (AQ Gt) Bl ?_)
  refine B6 (by decide) (by decide) ?_
  (with_reducible apply Au)
  refine Gx (by decide) ?_
  (with_reducible apply Au;apply Hv)
  refine⟨_,rfl,?_⟩
  split
  ·(with_reducible refine V ?_ Gt)
   exact⟨_,rfl,rfl⟩
  ·(with_reducible apply AZ;refine L6 (AQ Gt) ?_;apply AZ)
   refine BN "len" hK (AD hF (by kernel_rfl)) (by kernel_rfl) (by decide +kernel) (by decide) ?_
   (with_reducible refine AN (A0 Gt BV) ?_)
   refine Ck gp ?_
   (with_reducible apply Au;apply Bh)
   refine Gx (by exact NQ) ?_
   (with_reducible apply Au;apply CL)
   exact⟨_,rfl,rfl⟩
 refine LX fun wi=>?_
 refine AG (AB hF (by kernel_rfl)) (BN "max" hK (AD hF (by kernel_rfl)) (by kernel_rfl) (by decide +kernel) (by decide) ?_) rfl
 (with_reducible refine BR Bl ?_;refine AM ?_)
 refine BN "min" hK (AD hF (by kernel_rfl)) (by kernel_rfl) (by decide +kernel) (by decide) ?_
 (with_reducible refine BR (AQ Gt) ?_;refine AM ?_)
 refine BN "len" hK (AD hF (by kernel_rfl)) (by kernel_rfl) (by decide +kernel) (by decide) ?_
 (with_reducible refine AN (A0 Gt BV) ?_)
 refine DG gp ?_
 (with_reducible apply AP)
 refine MX hFh ?_
 (with_reducible apply AP)
 refine MY hFh ?_
 obtain⟨N,hNe⟩:∃ N,(Be other.length one.length).length=N:=⟨_,rfl⟩
 rw[hNe]at hN ⊢
 obtain⟨tk,htk,htN,htl⟩:∃ tk:Nat,max 0 (min wi (N:Int))=(tk:Int)∧tk≤N∧∀ l:List (Nat × Nat),l.length=N→l.take wi.toNat=l.take tk:=by
  refine⟨min wi.toNat N,by exact NP,Nat.min_le_right _ _,fun l hl=>?_⟩
  rw[← hl,List.take_eq_take_iff]
  exact NO
 simp only[htk]
 -- the course
 refine AG (AB hF (by kernel_rfl)) (A9 (fa:=137) hK (AD hF (by kernel_rfl)) (by kernel_rfl) (by kernel_rfl) ?_) rfl
 (with_reducible refine AN (A0 Gt (A0 Gt BV)) ?_)
 refine GC hK hFA hFh g1 rfl g2 rfl hs1 hs2 hz1 hz2 fun ac hac=>?_
 have nc1:a1≠ac:=by rintro rfl;rw[g1]at hac;injection hac
 have nc2:a2≠ac:=by rintro rfl;rw[g2]at hac;injection hac
 have nc3:ap≠ac:=by rintro rfl;rw[gp]at hac;injection hac
 have nc4:as≠ac:=by rintro rfl;rw[gs]at hac;injection hac
 have hCl:=FQ (f:=sm one other) other.length one.length
 have hCp:=EM (f:=sm one other) other.length one.length
 have hCe:AO (fun x y=>Cu (sm one other x) (sm one other y)) (Be other.length one.length)=Hh (sm one other) other.length one.length:=rfl
 generalize Hh (sm one other) other.length one.length=C at hCl hCp hCe ⊢
 have hCn:C.length=N:=by rw[hCp.length_eq,hNe]
 have hCv:∀ p∈C,p.1<one.length∧p.2<other.length:=fun p hp=>hval p (hCp.mem_iff.mp hp)
 refine EC (AA ..) ?_
 simp only[AH.set_set,AC]
 have gc:(H4.set ac (.fro (C.map (CG one other)))) ac=some (.fro (C.map (CG one other))):=AA ..
 replace g1:(H4.set ac (.fro (C.map (CG one other)))) a1=some (.lst (one.map .int)):=by rw[AE _ _ nc1];exact g1
 replace g2:(H4.set ac (.fro (C.map (CG one other)))) a2=some (.lst (other.map .int)):=by rw[AE _ _ nc2];exact g2
 replace gp:(H4.set ac (.fro (C.map (CG one other)))) ap=some (.fro ((Be other.length one.length).map ER)):=by rw[AE _ _ nc3];exact gp
 replace gs:(H4.set ac (.fro (C.map (CG one other)))) as=some (.fro (((Be other.length one.length).map (sm one other)).map PV.int)):=by rw[AE _ _ nc4];exact gs
 generalize H4.set ac (.fro (C.map (CG one other)))=H5 at g1 g2 gp gs gc ⊢
 -- each pair at its KO
 refine AI (Af (EvB.drop ?_))
 refine Am ?_
 refine B4 (α:=Nat × Nat) ((Loc.nil.set "one" (.ref a1)).set "other" (.ref a2)) (CG one other) (fun O=>true) (fun p=>.int (((Be other.length one.length).countP (fun q=>CU (sm one other) q p):Nat))) (by kernel_rfl) (A4 hF (by kernel_rfl)) (by(repeat (first | exact Ad _ | (refine Loc.le_set (BK (by kernel_rfl) Gt) ?_)))) ?_
 (with_reducible refine V ?_ Gt)
 refine⟨C,BH hFh gc (AS gc),by rw[sizeLine_eq];exact Nat.le_trans (Nat.le_of_eq hCn) (Nat.le_trans hN (by decide)),?_,fun b1 hb1=>?_⟩
 ·intro F' hF' p hp
  refine Aj (by rw[hF'.A];exact hFh) rfl (AL (hF'.sto _ (.inl (by kernel_rfl))) (AL (hF'.sto _ (.inl (by kernel_rfl))) (AL (hF'.sto _ (.inl (by kernel_rfl))) ?_)))
  refine⟨rfl,?_⟩
  refine An ?_
  refine A9 (fa:=144) hK (hF'.kind _ _ (by kernel_rfl) (by decide)) (by kernel_rfl) (by kernel_rfl) ?_
  (with_reducible refine AN (A0 Gt (A0 Gt (A0 Gt (A0 Gt BV)))) ?_)
  exact HF hK (by rw[hF'.A];exact hFA) (by rw[hF'.A];exact hFh) g1 rfl g2 rfl hs2 hz1 (hCv p hp).1 (hCv p hp).2 ⟨rfl,AH.le_refl _⟩
 simp only[A2]
 refine CQ "list" hK (AD hF (by kernel_rfl)) (by kernel_rfl) (by decide +kernel) (by decide) ?_
 refine AM (CQ "range" hK (AD hF (by kernel_rfl)) (by kernel_rfl) (by decide +kernel) (by decide) ?_) (by with_unfolding_all rfl)
 refine AM (BN "len" hK (AD hF (by kernel_rfl)) (by kernel_rfl) (by decide +kernel) (by decide) ?_) (by with_unfolding_all rfl)
 (with_reducible refine AN (A0 Gt BV) ?_)
 have nb1:ap≠b1:=by rintro rfl;rw[gp]at hb1;injection hb1
 refine DG (by rw[AE _ _ nb1];exact gp) ?_
 simp only[hNe]
 (with_reducible apply AP)
 refine BO ?_
 (with_reducible apply AP)
 refine Ep hFh (by exact Nat.le_add_left_of_le hN) fun b2 hb2=>?_
 have nb2:b1≠b2:=by rintro rfl;rw[AA]at hb2;injection hb2
 refine Fb hu1 (ha:=by rw[AE _ _ nb2];exact AA ..) (hb:=AA ..) (r:=true) ?_ ⟨false,rfl,H5,AH.le_trans (AT hb1) (AT hb2),?_⟩
 ·have e:=places hCl hCp
  rw[hCn]at e
  rw[AC,AC,show C.map (fun p=>PV.int (((Be other.length one.length).countP (fun q=>CU (sm one other) q p):Nat)))=(C.map fun p=>(((Be other.length one.length).countP (fun q=>CU (sm one other) q p):Nat):Int)).map PV.int by simp only[List.map_map];rfl,e,
   show(List.range N).map (fun i:Nat=>PV.int i)=((List.range N).map fun i:Nat=>(i:Int)).map PV.int by rw[List.map_map];rfl,DL]
  simp
 refine A1 ?_
 refine AF ?_
 -- the least,by the sum
 refine AI (Af (EvB.drop ?_))
 refine Am ?_
 refine Lz (fa:=90) [Str.ofString "key"] hK (AD hF (by kernel_rfl)) (by kernel_rfl) (by kernel_rfl) ?_
 (with_reducible refine AN (A0 Gt (A0 Gt BV)) ?_)
 refine Bq (Gk (c:=155) (P:=153) (by kernel_rfl) (A4 hF (by kernel_rfl)) hcode hhd hT (by rw[hE.qual];exact htq _ _) hbm (fun c' ctv=>?_) rfl)
 refine Cp (under fun D dD b=>?_)
 refine AJ fun WW9 hW9=>?_
 obtain⟨c1,o1,c2,o2,hc1,hD1,hd1,hc2,hD2,hd2⟩:=hcell b Gt Gt
 refine hW9 ?_
 clear hW9 WW9
 refine E8 (G:=G.with D dD) (β:=Nat × Nat) (xs:=Be other.length one.length) (g:=ER) (kx:=sm one other) hK (by exact⟨by have:=hFA.1;exact this,by have:=hFA.2;exact this⟩) hFh (fun x=>⟨_,_,rfl⟩) (fun A' hA' p hp H' hle=>IE (G:=G.with D dD) (c1:=c1) (c2:=c2) (clos:=BF F.env [(Str.ofString "pair", NameKind.local),(Str.ofString "one", NameKind.free),(Str.ofString "other", NameKind.free)] []) rfl (by show[(Str.ofString "other", (F.env.cells.lookup (Str.ofString "other")).getD 0),(Str.ofString "one", (F.env.cells.lookup (Str.ofString "one")).getD 0)]=_;rw[hc1,hc2];rfl) (by kernel_rfl) rfl rfl rfl (fun v=>rfl) hD1 hd1 hD2 hd2 n2 (hle _ _ g1) rfl (hle _ _ g2) rfl (hval p hp) (by exact Nat.lt_add_left _ hA'.1)) gp (by exact Gz hNe hN) fun d1 hd1'=>?_
 simp only[hCe,htl C hCn]
 refine B4 (α:=Nat × Nat) Loc.nil (CG one other) (fun O=>true) ER (by kernel_rfl) (A4 hF (by kernel_rfl)) (Ad _) (Dk (Ie ?_ fun O O=>rfl))
 (with_reducible refine V ?_ Gt;apply C9;apply EI;refine V ?_ Gt)
 have nd1:ac≠d1:=by rintro rfl;rw[gc]at hd1';injection hd1'
 refine⟨_,rfl,by simp,ac,_,rfl,by rw[AE _ _ nd1];exact gc,fun d2 hd2'=>⟨d2,_,AA _ _ _,?_⟩⟩
 rw[AH.set_set,AC,Bc,DF,Ci]
 have nd2:d1≠d2:=by rintro rfl;rw[AA]at hd2';injection hd2'
 refine⟨C.take tk,BH hFh (AA _ _ _) (AS (AA _ _ _)),by simp only[List.length_take,sizeLine_eq];exact KY hCn hN,?_,fun d3 hd3=>?_⟩
 ·intro F' hF' p hp
  refine Aj (by rw[hF'.A];exact hFh) rfl (AL (hF'.sto _ (.inl (by kernel_rfl))) (AL (hF'.sto _ (.inl (by kernel_rfl))) (AL (hF'.sto _ (.inl (by kernel_rfl))) ?_)))
  refine⟨rfl,?_⟩
  refine An ?_
  refine BB ?_
  (with_reducible refine AN (A0 Gt (A0 Gt BV)) ?_)
  exact⟨by simp only[sizeLine_eq];exact Nat.le_of_ble_eq_true rfl,rfl,AH.le_refl _⟩
 simp only[A2]
 have nd3:d1≠d3:=by rintro rfl;rw[AE _ _ nd2,AA]at hd3;injection hd3
 refine Fb hu1 (ha:=by rw[AE _ _ nd3,AE _ _ nd2];exact AA ..) (hb:=AA ..) (r:=true) ?_ ⟨false,rfl,H5,AH.le_trans (AH.le_trans (AT hd1') (AT hd2')) (AT hd3),?_⟩
 ·rw[AC,Fp QG];simp
 refine A1 ?_
 refine AF ?_
 clear hc1 hc2 hD1 hD2 hd1 hd2 c1 c2 o1 o2 b
 -- the least sums
 refine AI (Af (EvB.drop ?_))
 refine Am ?_
 refine A9 (fa:=90) hK (AD hF (by kernel_rfl)) (by kernel_rfl) (by kernel_rfl) ?_
 (with_reducible refine AN (A0 Gt (A0 Gt BV)) ?_)
 refine E7 (xs:=(Be other.length one.length).map (sm one other)) hK (by exact⟨by have:=hFA.1;exact this,by have:=hFA.2;exact this⟩) hFh gs (by rw[List.length_map];exact Gz hNe hN) fun e1 he1=>?_
 simp only[BA (L:=fun x y=>Cu (sm one other x) (sm one other y)) (sm one other) (Be other.length one.length) (fun x O y O=>rfl),hCe,← List.map_take,htl C hCn]
 refine B4 (α:=Nat × Nat) Loc.nil (CG one other) (fun O=>true) (fun p=>.int (sm one other p)) (by kernel_rfl) (A4 hF (by kernel_rfl)) (Ad _) (Dk (Ie ?_ fun O O=>rfl))
 (with_reducible refine V ?_ Gt;apply C9;apply EI;refine V ?_ Gt)
 have ne1:ac≠e1:=by rintro rfl;rw[gc]at he1;injection he1
 refine⟨_,rfl,by simp,ac,_,rfl,by rw[AE _ _ ne1];exact gc,fun e2 he2=>⟨e2,_,AA _ _ _,?_⟩⟩
 rw[AH.set_set,AC,Bc,DF,Ci]
 have ne2:e1≠e2:=by rintro rfl;rw[AA]at he2;injection he2
 refine⟨C.take tk,BH hFh (AA _ _ _) (AS (AA _ _ _)),by simp only[List.length_take,sizeLine_eq];exact KY hCn hN,?_,fun e3 he3=>?_⟩
 ·intro F' hF' p hp
  refine Aj (by rw[hF'.A];exact hFh) rfl (AL (hF'.sto _ (.inl (by kernel_rfl))) (AL (hF'.sto _ (.inl (by kernel_rfl))) (AL (hF'.sto _ (.inl (by kernel_rfl))) ?_)))
  refine⟨rfl,?_⟩
  refine An ?_
  (with_reducible refine V ?_ Gt)
  exact⟨rfl,AH.le_refl _⟩
 simp only[A2]
 have ne3:e1≠e3:=by rintro rfl;rw[AE _ _ ne2,AA]at he3;injection he3
 refine Fb hu1 (ha:=by rw[AE _ _ ne3,AE _ _ ne2];exact AA ..) (hb:=AA ..) (r:=true) ?_ ⟨false,rfl,H5,AH.le_trans (AH.le_trans (AT he1) (AT he2)) (AT he3),?_⟩
 ·rw[AC,AC,show(C.take tk).map (fun p=>PV.int (sm one other p))=((C.take tk).map (sm one other)).map PV.int by rw[List.map_map];rfl,DL];simp
 refine A1 ?_
 refine AF ?_
 -- the greatest
 refine AG (AB hF (by kernel_rfl)) (Lz (fa:=96) [Str.ofString "key"] hK (AD hF (by kernel_rfl)) (by kernel_rfl) (by kernel_rfl) ?_) rfl
 (with_reducible refine AN (A0 Gt (A0 Gt BV)) ?_)
 refine Bq (Gk (c:=155) (P:=153) (by kernel_rfl) (A4 hF (by kernel_rfl)) hcode hhd hT (by rw[hE.qual];exact htq _ _) hbm (fun c' ctv=>?_) rfl)
 refine Cp (under fun D dD b=>?_)
 refine AJ fun WW9 hW9=>?_
 obtain⟨c1,o1,c2,o2,hc1,hD1,hd1,hc2,hD2,hd2⟩:=hcell b Gt Gt
 refine hW9 ?_
 clear hW9 WW9
 refine Ff (G:=G.with D dD) (β:=Nat × Nat) (xs:=Be other.length one.length) (g:=ER) (kx:=sm one other) hK (by exact⟨by have:=hFA.1;exact this,by have:=hFA.2;exact this⟩) hFh (fun x=>⟨_,_,rfl⟩) (fun A' hA' p hp H' hle=>IE (G:=G.with D dD) (c1:=c1) (c2:=c2) (clos:=BF F.env [(Str.ofString "pair", NameKind.local),(Str.ofString "one", NameKind.free),(Str.ofString "other", NameKind.free)] []) rfl (by show[(Str.ofString "other", (F.env.cells.lookup (Str.ofString "other")).getD 0),(Str.ofString "one", (F.env.cells.lookup (Str.ofString "one")).getD 0)]=_;rw[hc1,hc2];rfl) (by kernel_rfl) rfl rfl rfl (fun v=>rfl) hD1 hd1 hD2 hd2 n2 (hle _ _ g1) rfl (hle _ _ g2) rfl (hval p hp) (by exact Nat.lt_add_left _ hA'.1)) gp (by exact Gz hNe hN) fun ag hag=>?_
 clear hc1 hc2 hD1 hD2 hd1 hd2 c1 c2 o1 o2 b
 have hGl:=FQ (f:=fun p => -(sm one other p)) other.length one.length
 have hGp:=EM (f:=fun p => -(sm one other p)) other.length one.length
 have hGe:AO (fun x y=>Cg (sm one other x) (sm one other y)) (Be other.length one.length)=Hh (fun p => -(sm one other p)) other.length one.length:=QB (sm one other) _
 simp only[hGe]
 generalize Hh (fun p => -(sm one other p)) other.length one.length=Gr at hGl hGp hGe ⊢
 have hGn:Gr.length=N:=by rw[hGp.length_eq,hNe]
 simp only[htl Gr hGn]
 have hGv:∀ p∈Gr.take tk,p.1<one.length∧p.2<other.length:=fun p hp=>hval p (hGp.mem_iff.mp (List.mem_of_mem_take hp))
 have ng1:a1≠ag:=by rintro rfl;rw[g1]at hag;injection hag
 have ng2:a2≠ag:=by rintro rfl;rw[g2]at hag;injection hag
 have ng4:as≠ag:=by rintro rfl;rw[gs]at hag;injection hag
 refine EC (AA ..) ?_
 simp only[AH.set_set,AC]
 have gg:(H5.set ag (.fro ((Gr.take tk).map ER))) ag=some (.fro ((Gr.take tk).map ER)):=AA ..
 replace g1:(H5.set ag (.fro ((Gr.take tk).map ER))) a1=some (.lst (one.map .int)):=by rw[AE _ _ ng1];exact g1
 replace g2:(H5.set ag (.fro ((Gr.take tk).map ER))) a2=some (.lst (other.map .int)):=by rw[AE _ _ ng2];exact g2
 replace gs:(H5.set ag (.fro ((Gr.take tk).map ER))) as=some (.fro (((Be other.length one.length).map (sm one other)).map PV.int)):=by rw[AE _ _ ng4];exact gs
 generalize H5.set ag (.fro ((Gr.take tk).map ER))=H6 at g1 g2 gs gg ⊢
 -- each at its KO
 refine AI (Af (EvB.drop ?_))
 refine Am ?_
 refine B4 (α:=Nat × Nat) ((Loc.nil.set "one" (.ref a1)).set "other" (.ref a2)) ER (fun O=>true) (fun p=>.int (((Be other.length one.length).countP (fun q=>CU (fun p => -(sm one other p)) q p):Nat))) (by kernel_rfl) (A4 hF (by kernel_rfl)) (by(repeat (first | exact Ad _ | (refine Loc.le_set (BK (by kernel_rfl) Gt) ?_)))) ?_
 (with_reducible refine V ?_ Gt)
 refine⟨Gr.take tk,BH hFh gg (AS gg),by simp only[List.length_take,sizeLine_eq];exact KW hN hGn,?_,fun b1 hb1=>?_⟩
 ·intro F' hF' p hp
  refine Aj (by rw[hF'.A];exact hFh) rfl (AL (hF'.sto _ (.inl (by kernel_rfl))) (AL (hF'.sto _ (.inl (by kernel_rfl))) ?_))
  refine⟨rfl,?_⟩
  refine An ?_
  refine A9 (fa:=151) hK (hF'.kind _ _ (by kernel_rfl) (by decide)) (by kernel_rfl) (by kernel_rfl) ?_
  (with_reducible refine AN (A0 Gt (A0 Gt (A0 Gt (A0 Gt BV)))) ?_)
  exact ID hK (by rw[hF'.A];exact hFA) (by rw[hF'.A];exact hFh) g1 rfl g2 rfl hs2 hz1 (hGv p hp).1 (hGv p hp).2 ⟨rfl,AH.le_refl _⟩
 simp only[A2]
 refine CQ "list" hK (AD hF (by kernel_rfl)) (by kernel_rfl) (by decide +kernel) (by decide) ?_
 refine AM (CQ "range" hK (AD hF (by kernel_rfl)) (by kernel_rfl) (by decide +kernel) (by decide) ?_) (by with_unfolding_all rfl)
 (with_reducible refine AN (A0 Gt BV) ?_)
 refine BO ?_
 (with_reducible apply AP)
 refine Ep hFh (by exact Nat.le_trans htN (Nat.le_trans hN (by decide))) fun b2 hb2=>?_
 have nb2':b1≠b2:=by rintro rfl;rw[AA]at hb2;injection hb2
 refine Fb hu1 (ha:=by rw[AE _ _ nb2'];exact AA ..) (hb:=AA ..) (r:=true) ?_ ⟨false,rfl,H6,AH.le_trans (AT hb1) (AT hb2),?_⟩
 ·have e:=Hs hGl hGp (t:=tk) (by exact Nat.le_trans htN (Nat.le_of_eq hGn.symm))
  rw[AC,AC,show(Gr.take tk).map (fun p=>PV.int (((Be other.length one.length).countP (fun q=>CU (fun p => -(sm one other p)) q p):Nat)))=((Gr.take tk).map fun p=>(((Be other.length one.length).countP (fun q=>CU (fun p => -(sm one other p)) q p):Nat):Int)).map PV.int by simp only[List.map_map];rfl,e,
   show(List.range tk).map (fun i:Nat=>PV.int i)=((List.range tk).map fun i:Nat=>(i:Int)).map PV.int by rw[List.map_map];rfl,DL]
  simp
 refine A1 ?_
 refine AF ?_
 -- the greatest sums
 refine AR ?_
 refine JJ ?_ (by with_unfolding_all rfl)
 refine A9 (fa:=96) hK (AD hF (by kernel_rfl)) (by kernel_rfl) (by kernel_rfl) ?_
 (with_reducible refine AN (A0 Gt (A0 Gt BV)) ?_)
 refine Fe (xs:=(Be other.length one.length).map (sm one other)) hK (by exact⟨by have:=hFA.1;exact this,by have:=hFA.2;exact this⟩) hFh gs (by rw[List.length_map];exact Gz hNe hN) fun e1 he1=>?_
 rw[BA (L:=fun x y=>Cg (sm one other x) (sm one other y)) (sm one other) (Be other.length one.length) (fun x O y O=>rfl),hGe,← List.map_take,htl Gr hGn]
 have m1:a1≠e1:=by rintro rfl;rw[g1]at he1;injection he1
 have m2:a2≠e1:=by rintro rfl;rw[g2]at he1;injection he1
 have m3:ag≠e1:=by rintro rfl;rw[gg]at he1;injection he1
 have gg':(H6.set e1 (.lst (((Gr.take tk).map (sm one other)).map PV.int))) ag=some (.fro ((Gr.take tk).map ER)):=by rw[AE _ _ m3];exact gg
 refine B4 (α:=Nat × Nat) ((Loc.nil.set "one" (.ref a1)).set "other" (.ref a2)) ER (fun O=>true) (fun p=>.int (sm one other p)) (by kernel_rfl) (A4 hF (by kernel_rfl)) (by(repeat (first | exact Ad _ | (refine Loc.le_set (BK (by kernel_rfl) Gt) ?_)))) ?_
 (with_reducible refine V ?_ Gt)
 refine⟨Gr.take tk,BH hFh gg' (AS gg'),by simp only[List.length_take,sizeLine_eq];exact KW hN hGn,?_,fun e2 he2=>?_⟩
 ·intro F' hF' p hp
  refine Aj (by rw[hF'.A];exact hFh) rfl (AL (hF'.sto _ (.inl (by kernel_rfl))) (AL (hF'.sto _ (.inl (by kernel_rfl))) ?_))
  refine⟨rfl,?_⟩
  refine An ?_
  (with_reducible apply AZ;refine A3 (AQ Gt) (AQ Gt) ?_)
  refine AK (by rw[AE _ _ m1];exact g1) (i1 _ (hGv p hp).1) ?_
  (with_reducible refine A3 (AQ Gt) (AQ Gt) ?_)
  refine AK (by rw[AE _ _ m2];exact g2) (i2 _ (hGv p hp).2) ?_
  (with_reducible apply Bh)
  exact⟨rfl,AH.le_refl _⟩
 rw[A2]
 have m4:e1≠e2:=by rintro rfl;rw[AA]at he2;injection he2
 refine NN hu1 (r:=true) (ha:=by rw[AE _ _ m4];exact AA ..) (hb:=AA ..) ?_ (hQ _)
 rw[AC,AC,show(Gr.take tk).map (fun p=>PV.int (sm one other p))=((Gr.take tk).map (sm one other)).map PV.int by rw[List.map_map];rfl,DL]
 simp
end

theorem Jm{P:Params}{h:Heap}{a:Addr}{xs:List WData}(w:Well P h (.ref a) (.list xs)):∃ vs:List Value,h.get? a=some { cls:=.type "list", data:=.seq vs.toArray }:=by
 cases w with
 | list h1 _=>exact⟨_,h1⟩
theorem IG{h:Heap}:∀{vs:List Value} {ns:List Int},IntsAre vs ns→VRs h (ns.map .int) vs
 | _,_,.nil=>rfl
 | _,_,.cons n t r=>⟨_,_,rfl,⟨t,rfl⟩,IG r⟩
theorem HI{h:Heap}{a P:Addr}{m:Str→Option Value}(x:h.Ns a m)(ht:h.get? P=some (tabObj #[])):(hideAll h [P]).Ns a m:=by
 obtain⟨o,es,ep,ho,hd,r⟩:=x
 refine⟨o,es,ep,hideAll_get _ ho ?_,hd,r⟩
 rw[List.mem_singleton];rintro rfl
 rw[ht]at ho;(replace ho:=Option.some.inj ho;subst ho);injection hd

theorem law_endT{prog:Program}{w:World}{K:Frag}{s₁:Shared}{mg mb:Str→Option Value}{c:ClaimW}{cl:Str→Option Addr}{mean:ExcName→Option Value}{args:List WData}{l fa:Addr}{vs:List Value}{ns:List Int}{xs:List WData}(P tc:Addr)(q:Str)(hzz:∀ b,¬ Zz.z b)
  (kin:K.In s₁.heap) (ht:s₁.heap.get? P=some (tabObj #[])) (hKP:K.lookup P=none) (hcd:codeHdIn K tc P=true) (g:s₁.heap.Ns mainGlobals mg) (b:s₁.heap.Ns builtinsNs mb) (nl:s₁.heap.NoLimit) (bu:∀ x:Str,x ≠ "__name__" → mb x=bootBuiltins x)
  (hbm:∃ bm ob,mg "__builtins__" = some (.ref bm)∧bm≠builtinsNs∧s₁.heap.get? bm=some ob∧ob.cls=.type "module" ∧ ob.dict=some builtinsNs∧ob.data=.plain) (hg:s₁.gens=#[])
  (hL:s₁.heap.IsList l vs.toArray) (hw:Well w.params s₁.heap (.ref l) (.list xs)) (hI:IntsAre vs ns) (hz:ns.length≤63)
  (hn:∀ cls,c.raises args cls=false) (hp:c.post args (.bool true) args=true)
  (h:∀(G:Cx),G.prog=prog→G.w=w→G.K=K→G.mg=mg→G.T P→(∀ a b,G.tq P a b=q)→BM G→(∀ b o,¬ G.D b o)→∀ H:AH,H l=some (.fro (ns.map .int))→OpL G callerA (fun vs=>call (.ref fa) vs) [.ref l] H (fun p O=>p=.bool true)) :
  wpAny (model prog w) callerA (call (.ref fa) [.ref l]) (fun v s'=>GoodWG c cl mean args s₁ (.ok (.ret v)) s') (fun e s'=>GoodWG c cl mean args s₁ (.error e) s') s₁:=by
 obtain⟨us,hus⟩:=Jm hw
 have huv:us=vs:=by
  obtain⟨o,ho,_,n,hd⟩:=hL
  rw[hus]at ho;(replace ho:=Option.some.inj ho;subst ho)
  injection hd with hd _
  simpa using hd
 subst huv
 have nP:∀ b o,s₁.heap.get? b=some o→o.cls≠.none→b∉[P]:=fun b o e hc hm=>by
  rw[List.mem_singleton.mp hm,ht]at e;(replace e:=Option.some.inj e;subst e);exact hc rfl
 obtain⟨bm,ob,b1,b2,b3,b4,b5,b6⟩:=hbm
 have hbg:bm≠mainGlobals:=fun e=>by
  obtain⟨o,es,ep,ho,hd,_⟩:=g
  rw[e,ho]at b3;(replace b3:=Option.some.inj b3;subst b3);rw[b6]at hd;injection hd
 have key:=h ⟨prog,w,K,hideAll s₁.heap [P],fun a o e=>hideAll_get _ (kin a o e) (by rw[List.mem_singleton];rintro rfl;rw[hKP]at e;injection e),mg,mb,HI g ht,HI b ht,(let ⟨mc,x,y⟩:=nl;⟨mc,HI x ht,y⟩),bu,fun O O=>False,fun O O h=>h.elim,fun a=>a=P,fun O O O=>q,fun a e=>hideAll_none _ (by rw[e];exact List.mem_singleton.mpr rfl)⟩
  rfl rfl rfl rfl rfl (fun O O=>rfl) ⟨bm,ob,b1,b2,hbg,hideAll_get _ b3 (nP _ _ b3 (by rw[b4];simp)),b4,b5,b6⟩ (fun O O h=>h) (fun a=>if a=l then some (.fro (ns.map .int)) else none) (if_pos rfl) s₁ [.ref l]
  ⟨fun O O e=>of_hideAll _ e,(fun a o e=>by
   by_cases ha:a=l
   ·rw[if_pos ha]at e;(replace e:=Option.some.inj e;subst e);subst ha
    exact⟨⟨us,0,hus,IG hI,by simp only[Bc,List.length_map,sizeLine_eq];exact Nat.le_add_left_of_le hz⟩,fun xs hx=>by cases hx⟩
   ·rw[if_neg ha]at e;injection e),hg,fun O O h=>h.elim,⟨fun b hb=>(hzz b hb).elim,fun a e=>by
    rw[show a=P from e]
    exact⟨#[],ht,trivial,fun pos cv e=>by simp[codeAmong]at e⟩⟩⟩ ⟨_,_,rfl,rfl,rfl⟩
 refine wpAny_mono key (fun v s' zz2=>zz2.on fun p H' hv ok' k' hq=>?_) fun O O x=>x.elim
 subst hq
 rw[show v=.bool true from hv]
 have hcode:=codeHd_of_K kin hcd
 have hold:OldK s₁.heap s'.heap:=by
  have key:∀ b o,s₁.heap.get? b=some o→b≠P→s'.heap.get? b=some o:=fun b o e hb=>ok'.keep b o (hideAll_get _ e (by rw[List.mem_singleton];exact hb))
  obtain⟨ps,h1,_⟩:=ok'.tab.2 P rfl
  refine⟨fun b o e=>?_,fun b o e=>?_⟩
  ·by_cases hb:b=P
   ·subst hb;rw[ht]at e;(replace e:=Option.some.inj e;subst e)
    exact .inr (.inl ⟨(hcode.tab ht).isCodeTable,rfl,#[],ps,rfl,by rw[h1];simp⟩)
   ·exact .inl (key b o e hb)
  ·by_cases hb:b=P
   ·subst hb;exact⟨_,h1⟩
   ·exact⟨o,key b o e hb⟩
 exact⟨.inl ⟨_,.bool true,[],rfl,hn,.bool true,hp,fun O=>⟨List.nodup_nil,by simp⟩⟩,hold,k'.os,.of_eq ok'.gens⟩

end Mine
set_option tactic.hygienic true in
theorem PySem.Challenge.cw_dn0043_11_holds : PySem.Challenge.rw_dn0043_11.Holds := by
 refine PySem.W.holds_law Mine.said11 fun O=>Mine.hd11 ?_
 k_fill
 intro w s₀ s₁ mg mb G Y fa o pm cd doc dV kV ho hd hcd hD hmg hg args vals as hpre hlay hrd hwl hlo
 have KX:=km_in_of Y
 have KT:=km_tabs_of Y 153 (by decide)
 clear hcd hd hD ho Y
 refine Ground.open G ?_
 intro T B D TE TW
 try (refine guard_noD D (by decide +kernel) ?_;clear D)
 clear TE TW B
 have hmg2:mg "law" = some (.ref fa):=hmg
 clear hmg
 wrow_args hpre hlay hrd hwl hlo
 rename_i ns _ _ _ _ _ _ l vs _ hL _ w1 _ hI _ hc _
 have hfa:fa=156:=by
  have this:mg "law" = some (.ref 156):=Mine.Cx.mg_of ⟨PySem.Challenge.rw_dn0043_11.row.prog,w,_,s₁.heap,KX,mg,mb,T.g,T.b,T.nolimit,T.builtins,fun O O=>False,fun O O h=>h.elim,fun O=>False,fun O O O=>Str.empty,fun O h=>h.elim⟩ (x := "law") (r:=some (.ref 156)) (by kernel_rfl)
  exact Mine.faEq hmg2 this
 subst hfa
 letI:Mine.Zz:=⟨fun O=>False⟩
 refine Mine.law_endT 153 155 ((Mine.fnOf (Mine.hd11.heap_1 w.params) 156).qualname ++ ".<locals>." ++ "<lambda>") (fun O h=>h) KX KT (by kernel_rfl) (by kernel_rfl) T.g T.b T.nolimit T.builtins T.bmain hg hL w1 hI (by(first | lia | omega)) (fun O=>rfl) (by with_unfolding_all rfl) fun G' h1 h2 h3 h4 h5 h6 h7 h8 H hH=>?_
 refine Mine.law_ok (by rw[h3,← h2]) ⟨[],rfl,by simp⟩ ⟨by decide,by decide⟩ rfl h5 (by unfold Mine.KK;rw[h2];exact h6) h7 hH (by(first | lia | omega)) fun O=>rfl
