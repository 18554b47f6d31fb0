import PyProof.Rows.All
import Wide.All
import OpenK.AllK
import Wide.FinOn
import KE.KLam
import KE.KEqSeq
import KE.KEqDeep
import PyProof.P3Eq
import KE.IntBitsLaws
import KE.KSortAsk
import KE.KNestM
import KE.KxBytes
import KE.KToBytes
import KE.KIntText
import KE.KFromBytes
import KE.BytesMake
import Wide.BytesFacts
import PySem.Challenge.RW_az0026_01
open PySem PySem.W PyProof.Rows PySem.Calls
set_option Elab.async false
set_option genInjectivity false
set_option genSizeOf false
set_option maxRecDepth 100000
set_option maxHeartbeats 0
set_option linter.all false
set_option compiler.extract_closed false
set_option bootstrap.genMatcherCode false
noncomputable section
section
namespace Az
inductive Lx
 |v (i:Nat)
 |k (c:Int)
 |a (x y:Lx)
 |s (x y:Lx)
 |m (c:Int) (x:Lx)
 |n (x:Lx) (c:Int)
 |g (x:Lx)
noncomputable def gtx {α:Type}(z:α):List α→Nat→α
 |[],_=>z
 |x::_,0=>x
 |_::r,i+1=>gtx z r i
noncomputable def Lx.d(g:List Int):Lx→Int
 | .v i=>gtx 0 g i
 | .k c=>c
 | .a x y=>x.d g+y.d g
 | .s x y=>x.d g-y.d g
 | .m c x=>c*x.d g
 | .n x c=>x.d g*c
 | .g x=> -x.d g
noncomputable def Lx.e(g:List Nat):Lx→Nat
 | .v i=>gtx 0 g i
 | .k c=>c.toNat
 | .a x y=>x.e g+y.e g
 | .m c x=>c.toNat*x.e g
 | .n x c=>x.e g*c.toNat
 | .s _ _=>0
 | .g _=>0
noncomputable def Lx.ok:Lx→Bool
 | .v _=>true
 | .k c=>decide (0≤c)
 | .a x y=>x.ok&&y.ok
 | .m c x=>decide (0≤c)&&x.ok
 | .n x c=>decide (0≤c)&&x.ok
 | .s _ _=>false
 | .g _=>false
noncomputable def xb:List Int→List Int→List Int
 |[],y=>y
 |a::x,[]=>a::x
 |a::x,b::y=>(a+b)::xb x y
noncomputable def psc(c:Int):List Int→List Int
 |[]=>[]
 |a::x=>c*a::psc c x
noncomputable def pun:Nat→List Int
 |0=>[1]
 |i+1=>0::pun i
noncomputable def iM:List Int→List Int→Int
 |c::r,x::g=>c*x+iM r g
 |_,_=>0
noncomputable def Lx.p:Lx→List Int
 | .v i=>pun (i+1)
 | .k c=>[c]
 | .a x y=>xb x.p y.p
 | .s x y=>xb x.p (psc (-1) y.p)
 | .m c x=>psc c x.p
 | .n x c=>psc c x.p
 | .g x=>psc (-1) x.p
theorem AX {g:List Int}(x y:List Int):iM (xb x y) g=iM x g+iM y g:=by
 induction x generalizing y g with
 |nil=>exact(Int.zero_add _).symm
 |cons a x ih=>cases y with
  |nil=>cases g<;>exact(Int.add_zero _).symm
  |cons b y=>cases g with
   |nil=>rfl
   |cons z g=>show(a+b)*z+iM (xb x y) g=a*z+iM x g+(b*z+iM y g);rw[ih,Int.add_mul,Int.add_assoc,Int.add_assoc,Int.add_left_comm (b*z)]
theorem s6 {g:List Int}(c:Int)(x:List Int):iM (psc c x) g=c*iM x g:=by
 induction x generalizing g with
 |nil=>exact(Int.mul_zero c).symm
 |cons a x ih=>cases g with
  |nil=>exact(Int.mul_zero c).symm
  |cons z g=>show c*a*z+iM (psc c x) g=c*(a*z+iM x g);rw[ih,Int.mul_add,Int.mul_assoc]
theorem Mf {g:List Int}(i:Nat):iM (pun i) g=gtx 0 g i:=by
 induction i generalizing g with
 |zero=>cases g with
  |nil=>rfl
  |cons z g=>exact(Int.add_zero _).trans (Int.one_mul z)
 |succ i ih=>cases g with
  |nil=>rfl
  |cons z g=>show 0*z+iM (pun i) g=_;rw[ih,Int.zero_mul,Int.zero_add];rfl
theorem Lx.p_d {g:List Int}(x:Lx):iM x.p (1::g)=x.d g:=by
 induction x with
 |v i=>exact Mf (g:=1::g) (i+1)
 |k c=>exact(Int.add_zero _).trans (Int.mul_one c)
 |a x y h1 h2=>exact(AX _ _).trans (congr (congrArg _ h1) h2)
 |s x y h1 h2=>exact(AX _ _).trans (((congr (congrArg _ h1) ((s6 _ _).trans ((Int.neg_one_mul _).trans (congrArg _ h2))))).trans Int.sub_eq_add_neg.symm)
 |m c x h=>exact(s6 _ _).trans (congrArg _ h)
 |n x c h=>exact(s6 _ _).trans ((congrArg _ h).trans (Int.mul_comm _ _))
 |g x h=>exact(s6 _ _).trans ((Int.neg_one_mul _).trans (congrArg _ h))
noncomputable abbrev Hx:=Nat×Nat×Lx×Lx
noncomputable def Rl(t:Nat)(x y:Int):Prop:=match t with
 |0=>x≤y
 |1=>x<y
 |2=>x=y
 |_=>False
noncomputable def stx:Nat→Lx
 |1=> .k 1
 |_=> .k 0
noncomputable def Hx.q(h:Hx):Lx:= .s h.2.2.2 (.a h.2.2.1 (stx h.2.1))
noncomputable def xc:List Hx→Lx
 |[]=> .k 0
 |h::r=> .a (.m h.1 h.q) (xc r)
noncomputable def BC(b:Bool):List Int→Bool
 |[]=>true
 |a::r=>(match b with|true=>decide (0≤a)|false=>decide (a=0))&&BC b r
noncomputable def ii(b:Bool)(c:Hx)(hs:List Hx):Bool:=match(Lx.s (.m c.1 c.q) (xc hs)).p with
 |[]=>false
 |k::r=>BC b r&&decide (-c.1<k)&&(Nat.ble c.2.1 1||Nat.beq c.1 0)
noncomputable def imx(g:List Int):List Hx→Prop→Prop
 |[],P=>P
 |h::r,P=>Rl h.2.1 (h.2.2.1.d g) (h.2.2.2.d g)→imx g r P
noncomputable def nng:List Int→Prop
 |[]=>True
 |a::r=>0≤a∧nng r
theorem cS {a b:Bool}(h:(a&&b)=true):a=true∧b=true:=Bool.and_eq_true_iff.mp h
theorem J2 {b:Bool}{r g:List Int}(h:BC b r=true)(hg:b=true→nng g):0≤iM r g:=by
 induction r generalizing g with
 |nil=>exact Int.le_refl 0
 |cons a r ih=>cases g with
  |nil=>exact Int.le_refl 0
  |cons z g=>
   refine Int.add_nonneg ?_ (ih (cS h).2 fun q=>(hg q).2);cases b with
   |true=>exact Int.mul_nonneg (of_decide_eq_true (cS h).1) (hg rfl).1
   |false=>exact Int.le_of_eq ((Int.zero_mul z).symm.trans (congrArg (·*z) (of_decide_eq_true (cS h).1:a=0).symm))
theorem Q0 {t:Nat}{g:List Int}{x y:Int}(h:Rl t x y):x+(stx t).d g≤y:=by
 cases t with
 |zero=>exact Int.le_trans (Int.le_of_eq (Int.add_zero x)) h
 |succ t=>cases t with
  |zero=>exact h
  |succ t=>cases t with
   |zero=>exact Int.le_of_eq ((Int.add_zero x).trans h)
   |succ t=>exact False.elim h
theorem DW {g:List Int}{P:Prop}(hs:List Hx)(k:0≤(xc hs).d g→P):imx g hs P:=by
 induction hs generalizing P with
 |nil=>exact k (Int.le_refl 0)
 |cons h r ih=>exact fun hh=>ih fun q=>k (Int.add_nonneg (Int.mul_nonneg (Int.natCast_nonneg _) (Int.sub_nonneg_of_le (Q0 hh))) q)
theorem Q1 {t m:Nat}{g:List Int}{x y:Int}(h:(Nat.ble t 1||Nat.beq (m+1) 0)=true)(h4:x+(stx t).d g≤y):Rl t x y:=by
 cases t with
 |zero=>exact Int.le_trans (Int.le_of_eq (Int.add_zero _).symm) h4
 |succ t=>cases t with
  |zero=>exact h4
  |succ t=>exact Bool.noConfusion h
theorem mul_pos {m:Nat}{z:Int}(h: -(m:Int)<m*z):m≠0∧0≤z:=by
 cases m with
 |zero=>exact absurd (Int.lt_of_lt_of_le (h:(0:Int)<_) (Int.le_of_eq (Int.zero_mul _))) (Int.lt_irrefl 0)
 |succ m=>exact⟨fun q=>Nat.noConfusion q,Int.not_lt.mp fun n=>Int.not_le.mpr h (Int.le_trans (Int.mul_le_mul_of_nonneg_left (Int.le_sub_one_of_lt n) (Int.natCast_nonneg (m+1))) (Int.le_of_eq (Int.mul_neg_one _)))⟩
theorem Q3 {l:List Int}{m t:Nat}{b:Bool}{g:List Int}{z w:Int}(hc:(match l with|[]=>false|k::r=>BC b r&&decide (-(m:Int)<k)&&(Nat.ble t 1||Nat.beq m 0))=true)(hg:b=true→nng g)(e:iM l (1::g)=m*z-w)(q:0≤w): -(m:Int)<m*z∧(Nat.ble t 1||Nat.beq m 0)=true:=by
 cases l with
 |nil=>exact Bool.noConfusion hc
 |cons k r=>exact⟨Int.lt_of_lt_of_le (of_decide_eq_true (cS (cS hc).1).2) (Int.le_trans (Int.le_trans (Int.le_of_eq (Int.mul_one k).symm) (Int.le_add_of_nonneg_right (J2 (cS (cS hc).1).1 hg))) (Int.le_trans (Int.le_of_eq e) (Int.sub_le_self _ q))),(cS hc).2⟩
theorem Mg {t m:Nat}{g:List Int}{x y:Int}(h2: -(m:Int)<m*(y-(x+(stx t).d g)))(h3:(Nat.ble t 1||Nat.beq m 0)=true):Rl t x y:=by
 have h:=mul_pos h2;cases m with
 |zero=>exact absurd rfl h.1
 |succ m=>exact Q1 h3 (Int.le_of_sub_nonneg h.2)
theorem AY {b:Bool}{g:List Int}(hg:b=true→nng g)(c:Hx)(hs:List Hx)(hc:ii b c hs=true)(q:0≤(xc hs).d g):Rl c.2.1 (c.2.2.1.d g) (c.2.2.2.d g):=
 let h:=Q3 (z:=c.q.d g) hc hg (Lx.p_d (g:=g) (.s (.m c.1 c.q) (xc hs))) q
 Mg h.1 h.2
theorem fi(g:List Int)(c:Hx)(hs:List Hx)(hc:ii false c hs=true):imx g hs (Rl c.2.1 (c.2.2.1.d g) (c.2.2.2.d g)):=
 DW hs (AY (fun q=>Bool.noConfusion q) c hs hc)
noncomputable def Rn(t:Nat)(x y:Nat):Prop:=match t with
 |0=>x≤y
 |1=>x<y
 |2=>x=y
 |_=>False
noncomputable def Hx.ok(h:Hx):Bool:=h.2.2.1.ok&&h.2.2.2.ok
noncomputable def imy(g:List Nat):List Hx→Prop→Prop
 |[],P=>P
 |h::r,P=>Rn h.2.1 (h.2.2.1.e g) (h.2.2.2.e g)→imy g r P
noncomputable def upx:List Nat→List Int
 |[]=>[]
 |a::r=>a::upx r
theorem Q4 {g:List Nat}(i:Nat):gtx 0 (upx g) i=((gtx 0 g i:Nat):Int):=by
 induction g generalizing i with
 |nil=>rfl
 |cons a g ih=>cases i with
  |zero=>rfl
  |succ i=>exact ih i
theorem tnx {c:Int}(h:decide (0≤c)=true):c=((c.toNat:Nat):Int):=(Int.toNat_of_nonneg (of_decide_eq_true h)).symm
theorem Lx.e_d {g:List Nat}(x:Lx)(h:x.ok=true):x.d (upx g)=((x.e g:Nat):Int):=by
 induction x with
 |v i=>exact Q4 i
 |k c=>exact tnx h
 |a x y h1 h2=>exact congr (congrArg _ (h1 (cS h).1)) (h2 (cS h).2)
 |s x y=>exact Bool.noConfusion h
 |m c x h1=>exact(congr (congrArg _ (tnx (cS h).1)) (h1 (cS h).2)).trans (Int.natCast_mul _ _).symm
 |n x c h1=>exact(congr (congrArg _ (h1 (cS h).2)) (tnx (cS h).1)).trans (Int.natCast_mul _ _).symm
 |g x=>exact Bool.noConfusion h
theorem J3(t x y:Nat):Rl t x y↔Rn t x y:=by
 cases t with
 |zero=>exact Int.ofNat_le
 |succ t=>cases t with
  |zero=>exact Int.ofNat_lt
  |succ t=>cases t with
   |zero=>exact Int.ofNat_inj
   |succ t=>exact Iff.rfl
theorem DX {g:List Nat}(h:Hx)(ho:h.ok=true):Rl h.2.1 (h.2.2.1.d (upx g)) (h.2.2.2.d (upx g))↔Rn h.2.1 (h.2.2.1.e g) (h.2.2.2.e g):=by
 rw[Lx.e_d _ (cS ho).1,Lx.e_d _ (cS ho).2];exact J3 _ _ _
theorem Ui {g:List Nat}{P Q:Prop}(hPQ:P→Q)(hs:List Hx)(ho:hs.all Hx.ok=true)(h:imx (upx g) hs P):imy g hs Q:=by
 induction hs with
 |nil=>exact hPQ h
 |cons c r ih=>exact fun hh=>ih (cS ho).2 (h ((DX c (cS ho).1).mpr hh))
theorem Mh(g:List Nat):nng (upx g):=by
 induction g with
 |nil=>trivial
 |cons a g ih=>exact⟨Int.natCast_nonneg a,ih⟩
theorem fj(g:List Nat)(c:Hx)(hs:List Hx)(hc:(ii true c hs&&(c.ok&&hs.all Hx.ok))=true):imy g hs (Rn c.2.1 (c.2.2.1.e g) (c.2.2.2.e g)):=
 Ui (DX c (cS (cS hc).2).1).mp hs (cS (cS hc).2).2 (DW hs (AY (fun _=>Mh g) c hs (cS hc).1))
noncomputable def X0:Lx:= .v 0
noncomputable def X1:Lx:= .v 1
noncomputable def X2:Lx:= .v 2
noncomputable def X3:Lx:= .v 3
noncomputable def X4:Lx:= .v 4
noncomputable def X5:Lx:= .v 5
noncomputable def X6:Lx:= .v 6
noncomputable def Lx.i(x:Lx):Lx:= .a x (.k 1)
noncomputable abbrev Y0(a b:Lx):Hx:=(1,0,a,b)
noncomputable abbrev Y1(a b:Lx):Hx:=(1,1,a,b)
noncomputable abbrev Y2(a b:Lx):Hx:=(1,2,a,b)
theorem fi0(c:Hx)(hs:List Hx)(hc:ii false c hs=true):imx [] hs (Rl c.2.1 (c.2.2.1.d []) (c.2.2.2.d [])):=fi _ c hs hc
theorem fj0(c:Hx)(hs:List Hx)(hc:(ii true c hs&&(c.ok&&hs.all Hx.ok))=true):imy [] hs (Rn c.2.1 (c.2.2.1.e []) (c.2.2.2.e [])):=fj _ c hs hc
theorem fi1 {x0:Int}(c:Hx)(hs:List Hx)(hc:ii false c hs=true):imx [x0] hs (Rl c.2.1 (c.2.2.1.d [x0]) (c.2.2.2.d [x0])):=fi _ c hs hc
theorem fj1 {x0:Nat}(c:Hx)(hs:List Hx)(hc:(ii true c hs&&(c.ok&&hs.all Hx.ok))=true):imy [x0] hs (Rn c.2.1 (c.2.2.1.e [x0]) (c.2.2.2.e [x0])):=fj _ c hs hc
theorem fi2 {x0 x1:Int}(c:Hx)(hs:List Hx)(hc:ii false c hs=true):imx [x0,x1] hs (Rl c.2.1 (c.2.2.1.d [x0,x1]) (c.2.2.2.d [x0,x1])):=fi _ c hs hc
theorem fj2 {x0 x1:Nat}(c:Hx)(hs:List Hx)(hc:(ii true c hs&&(c.ok&&hs.all Hx.ok))=true):imy [x0,x1] hs (Rn c.2.1 (c.2.2.1.e [x0,x1]) (c.2.2.2.e [x0,x1])):=fj _ c hs hc
theorem fi3 {x0 x1 x2:Int}(c:Hx)(hs:List Hx)(hc:ii false c hs=true):imx [x0,x1,x2] hs (Rl c.2.1 (c.2.2.1.d [x0,x1,x2]) (c.2.2.2.d [x0,x1,x2])):=fi _ c hs hc
theorem fj3 {x0 x1 x2:Nat}(c:Hx)(hs:List Hx)(hc:(ii true c hs&&(c.ok&&hs.all Hx.ok))=true):imy [x0,x1,x2] hs (Rn c.2.1 (c.2.2.1.e [x0,x1,x2]) (c.2.2.2.e [x0,x1,x2])):=fj _ c hs hc
theorem fi4 {x0 x1 x2 x3:Int}(c:Hx)(hs:List Hx)(hc:ii false c hs=true):imx [x0,x1,x2,x3] hs (Rl c.2.1 (c.2.2.1.d [x0,x1,x2,x3]) (c.2.2.2.d [x0,x1,x2,x3])):=fi _ c hs hc
theorem fj4 {x0 x1 x2 x3:Nat}(c:Hx)(hs:List Hx)(hc:(ii true c hs&&(c.ok&&hs.all Hx.ok))=true):imy [x0,x1,x2,x3] hs (Rn c.2.1 (c.2.2.1.e [x0,x1,x2,x3]) (c.2.2.2.e [x0,x1,x2,x3])):=fj _ c hs hc
theorem fi5 {x0 x1 x2 x3 x4:Int}(c:Hx)(hs:List Hx)(hc:ii false c hs=true):imx [x0,x1,x2,x3,x4] hs (Rl c.2.1 (c.2.2.1.d [x0,x1,x2,x3,x4]) (c.2.2.2.d [x0,x1,x2,x3,x4])):=fi _ c hs hc
theorem fj5 {x0 x1 x2 x3 x4:Nat}(c:Hx)(hs:List Hx)(hc:(ii true c hs&&(c.ok&&hs.all Hx.ok))=true):imy [x0,x1,x2,x3,x4] hs (Rn c.2.1 (c.2.2.1.e [x0,x1,x2,x3,x4]) (c.2.2.2.e [x0,x1,x2,x3,x4])):=fj _ c hs hc
theorem fi6 {x0 x1 x2 x3 x4 x5:Int}(c:Hx)(hs:List Hx)(hc:ii false c hs=true):imx [x0,x1,x2,x3,x4,x5] hs (Rl c.2.1 (c.2.2.1.d [x0,x1,x2,x3,x4,x5]) (c.2.2.2.d [x0,x1,x2,x3,x4,x5])):=fi _ c hs hc
theorem fj6 {x0 x1 x2 x3 x4 x5:Nat}(c:Hx)(hs:List Hx)(hc:(ii true c hs&&(c.ok&&hs.all Hx.ok))=true):imy [x0,x1,x2,x3,x4,x5] hs (Rn c.2.1 (c.2.2.1.e [x0,x1,x2,x3,x4,x5]) (c.2.2.2.e [x0,x1,x2,x3,x4,x5])):=fj _ c hs hc
theorem lsa(a b:Nat):a≤a-b+b:=Nat.le_add_of_sub_le (Nat.le_refl _)
theorem sac(a b:Nat)(h:b≤a):a-b+b=a:=Nat.sub_add_cancel h
theorem tnn(a:Int)(h:0≤a):(a.toNat:Int)=a:=Int.toNat_of_nonneg h
theorem dtr {p:Prop}{i:Decidable p}(h:decide p=true):p:=of_decide_eq_true h
theorem dfa {p:Prop}{i:Decidable p}(h:decide p=false):¬p:=of_decide_eq_false h
end Az
end
namespace Az
theorem byG {A:Prop}(h:∀G:Prop,(A→G)→G):A:=h A id
theorem ff {G:Prop}(h:false=true):G:=Bool.noConfusion h
theorem nn {G:Prop}{α:Type}{x:α}(h:none=some x):G:=nomatch h
theorem sn {G:Prop}{α:Type}{x:α}(h:some x=none):G:=nomatch h
theorem dd {d a b k:Nat}(h:d<a)(e:Nat.ble (a+k) b=true):d+k<b:=Nat.lt_of_lt_of_le (Nat.add_lt_add_right h k) (Nat.le_of_ble_eq_true e)
theorem dd0 {d a b:Nat}(h:d<a)(e:Nat.ble a b=true):d<b:=Nat.lt_of_lt_of_le h (Nat.le_of_ble_eq_true e)
theorem mid_lt {a b:Nat}(h:a<b):(a+b) / 2<b:=Nat.div_lt_of_lt_mul (by rw[Nat.two_mul];exact Nat.add_lt_add_right h b)
theorem mid_ge {a b:Nat}(h:a≤b):a≤(a+b) / 2:=(Nat.le_div_iff_mul_le (by decide)).mpr (by rw[Nat.mul_two];exact Nat.add_le_add_left h a)
theorem mid_hi {a b f:Nat}(h:a≤b)(hf:b-a≤f+1):b-((a+b) / 2+1)≤f:=Nat.le_trans (Nat.sub_le_sub_left (Nat.succ_le_succ (mid_ge h)) b) (Nat.pred_le_pred hf)
theorem mid_lo {a b f:Nat}(h:a<b)(hf:b-a≤f+1):(a+b) / 2-a≤f:=Nat.le_of_lt_succ (Nat.lt_of_lt_of_le (Nat.sub_lt_sub_right (mid_ge (Nat.le_of_lt h)) (mid_lt h)) hf)
theorem n9 {n i:Nat}(h:i<n):n-i=n-(i+1)+1:=(Nat.succ_pred_eq_of_pos (Nat.sub_pos_of_lt h)).symm
theorem uz(n:Nat):((n:Int)-1).toNat=n-1:=Int.toNat_sub n 1
theorem m9(w p:Nat):((w:Int)-((p:Int)+1)).toNat=w-(p+1):=Int.toNat_sub w (p+1)
theorem Uj {w q:Nat}(h0:0<q)(h:q≤w):w-(q-1)=w-q+1:=by
 cases q with
 |zero=>exact absurd h0 (Nat.lt_irrefl _)
 |succ q=>exact n9 h
theorem xd {x z:Int}{n:Nat}(h:x.toNat≤n+1)(hz:1≤z):(x-z).toNat≤n:=by omega
theorem toNat_lt {x z:Int}(h:0<x)(hz:1≤z):(x-z).toNat<x.toNat:=by omega
theorem DY {x:Int}(h:0<x):x.toNat=x.toNat-1+1:=Nat.le_antisymm ((lsa (x.toNat) (1))) (Int.ofNat_le.mp (fi [↑(x.toNat-1),↑x.toNat] (1,0,.a X0 (.k 1),X1) [(1,2,.a X0 (.k 1),X1)] rfl (Int.ofNat_inj.mpr (sac x.toNat 1 (Int.ofNat_le.mp (fi [↑x.toNat,x] (1,0,.k 1,X0) [(1,1,.k 0,X1),(1,0,X1,X0)] rfl h (Int.self_le_toNat x)))))))
noncomputable def blE:= @Nat.le_of_ble_eq_true
noncomputable def nAs:= @Nat.le_antisymm
noncomputable def iAs:= @Int.le_antisymm
noncomputable def nRe:= @Nat.le_refl
noncomputable def nNl:= @Nat.le_of_not_lt
noncomputable def iNn:= @Int.natCast_nonneg
noncomputable def nNe:= @Nat.ne_of_lt
noncomputable def iSt:= @Int.self_le_toNat
noncomputable def nNz:= @Nat.not_lt_zero
noncomputable def nSl:= @Nat.sub_le
noncomputable def lMa:= @List.length_map
noncomputable def lAp:= @List.length_append
noncomputable def lCo:= @List.length_cons
noncomputable def aTl:= @Array.length_toList
noncomputable def lLc:= @List.lookup_cons
noncomputable def lMp:= @List.map_append
noncomputable def lGe:= @List.getElem?_eq_getElem
noncomputable def dEf:= @decide_eq_false
noncomputable def dEt:= @decide_eq_true
noncomputable def nEb:= @Nat.eq_of_beq_eq_true
noncomputable def iLl:= @Int.le_of_lt
noncomputable def nLl:= @Nat.lt_of_lt_of_le
noncomputable def nZl:= @Nat.zero_le
noncomputable def lGd:= @List.getD_eq_getElem?_getD
noncomputable def lNm:= @List.not_mem_nil
theorem iOl {m n:Nat}(h:m≤n):(m:Int)≤n:=Int.ofNat_le.mpr h
theorem iOm {m n:Nat}(h:(m:Int)≤n):m≤n:=Int.ofNat_le.mp h
theorem iOt {m n:Nat}(h:m<n):(m:Int)<n:=Int.ofNat_lt.mpr h
theorem iOj {m n:Nat}(h:m=n):(m:Int)=n:=Int.ofNat_inj.mpr h
theorem lSi {α:Type _}{l:List α}{i:Nat}{a:α}(h:l[i]?=some a):∃q:i<l.length,l[i]=a:=List.getElem?_eq_some_iff.mp h
theorem lMs {α:Type _}{a b:α}(h:a∈[b]):a=b:=List.mem_singleton.mp h
theorem oSm {α:Type _}{x:Option α}(h:x.isSome=true):∃a,x=some a:=Option.isSome_iff_exists.mp h
theorem lMm {α β:Type _}{f:α→β}{l:List α}{b:β}(h:b∈l.map f):∃a,a∈l∧f a=b:=List.mem_map.mp h
noncomputable abbrev Ex:=PySem.Expr
noncomputable abbrev PS:=PySem.Value→PySem.Shared→Prop
noncomputable abbrev PR:=PySem.Result→PySem.Shared→Prop
noncomputable abbrev GI:PySem.NameKind:= .globalImplicit
noncomputable def kJump(tb:String→Option Builtin)(t:Thread):Option Thread:=match t.cur with
 | .pure fin=>match fin with
  | .again c=>some ⟨denote tb c,c,t.pos,t.stack⟩
  | .done _=>none
 | .call c h g l k=>some ⟨denote tb c,c,t.pos,.ret k h g l t.code t.pos []::t.stack⟩
 |_=>none
noncomputable def kOne(tb:String→Option Builtin)(p:Program)(w:World)(s:SharedT)(t:Thread):Option (SharedT×Thread):=match kJump tb t with
 |some t'=>some (s,t')
 |none=>stepT (denote tb) p w s t
noncomputable def kGo(tb:String→Option Builtin)(p:Program)(w:World):Nat→SharedT→Thread→Option (SharedT×Thread)
 |0,s,t=>some (s,t)
 |n+1,s,t=>match t.calm with
  |false=>none
  |true=>match kOne tb p w s t with
   |some (s',t')=>kGo tb p w n s' t'
   |none=>none
theorem xe {t:Thread}(h:t.calm=true):t.loud=false:=by
 unfold Thread.calm at h;unfold Thread.loud;have h1:=(cS h).1;generalize t.atCollectorCode=a at h1⊢;generalize t.atExit=b at h1⊢;generalize t.yieldsInsideHandler=c at h1⊢;revert h1;cases a<;>cases b<;>cases c<;>decide
theorem BD(h:kJump tb t=some t'):stepK (denote tb) p w S t= .go S t':=by
 obtain⟨cur,code,pos,stack⟩:=t;cases cur with
 |pure fin=>cases fin with
  |again c=>exact congrArg (Step.go S) (Option.some.inj h)
  |done f=>exact nn h
 |call c h' g l k=>exact congrArg (Step.go S) (Option.some.inj h)
 |_=>exact nn h
theorem BE(h:kJump tb t=none):stepK (denote tb) p w S t=step (denote tb) p w S t:=by
 obtain⟨cur,code,pos,stack⟩:=t;cases cur with
 |pure fin=>cases fin with
  |again c=>exact sn h
  |done f=>rfl
 |call c h' g l k=>exact sn h
 |_=>rfl
theorem DZ(h:kOne tb p w s t=some (s',t')):
  stepK (denote tb) p w s.abs t= .go s'.abs t':=by
 unfold kOne at h;cases hj:kJump tb t with
 |some t₁=>rw[hj]at h;cases h;exact BD hj
 |none=>rw[hj]at h;exact(BE hj).trans (stepT_spec h)
theorem pV:∀(n:Nat) {s s':SharedT} {t t':Thread},
  kGo tb p w n s t=some (s',t')→Comes ⟨denote tb,p,w⟩ s.abs t s'.abs t'
 |0,s,s',t,t',h=>by
  obtain⟨rfl,rfl⟩:s=s'∧t=t':=by cases h;exact⟨rfl,rfl⟩
  exact .refl _ _
 |n+1,s,s',t,t',h=>by
  replace h:(match t.calm with|false=>none|true=>match kOne tb p w s t with|some (s',t')=>kGo tb p w n s' t'|none=>none)=some (s',t'):=h;cases hc:t.calm with
  |false=>rw[hc]at h;cases h
  |true=>
   rw[hc]at h;dsimp only at h;split at h
   ·rename_i s₁ t₁ hr;refine .step ?_ (pV n h);show stepI (denote tb) p w s.abs _=_;rw[stepI_quiet _ _ _ (xe hc)];exact DZ hr
   ·cases h
theorem BF
  (h:codeAny M A c R s)(hB:(Ctx.of c stk).Below A):
  ∃r s' c' p',Comes M s ⟨M.den c,c,p,stk⟩ s' ⟨leafOf r,c',p',stk⟩∧R r s':=by
 obtain⟨r,s',hr,hR⟩:=h (Ctx.of c stk) p rfl hB;obtain⟨t',c',p',pre',hc,ht,hp⟩:=(runs_reach hr stk (Ctx.fits_of c stk)).comes;subst hp;subst ht;exact⟨r,s',c',p',hc,hR⟩
noncomputable def AZ:Step→Prop
 | .halt (.done _) _=>False
 |_=>True
theorem Gk {den:Code→Sem Fin}{p:Program}{w:World}{heap:Heap}{gens:Array GenState}{drawn:Drawn}{toks:Nat}{os:OsState}{cur:Sem Fin}{code:Code}{pos:Pos}{stack:List Frame}(hc:∀g,cur≠.pure (.done g)):AZ (step den p w ⟨heap,gens,drawn,toks,os⟩ ⟨cur,code,pos,stack⟩):=by
 have fin:∀e s,AZ (finish (.uncaught e) s):=fun e s=>by unfold finish;cases leftWithCleanup s.gens<;>trivial
 cases cur with
 |pure fin=>cases fin with
  |again c=>trivial
  |done g=>exact absurd rfl (hc g)
 |raise e=>cases stack with
  |nil=>exact fin _ _
  |cons F r=>cases F<;>trivial
 |«finish» e=>dsimp only[step];cases leftWithCleanup gens<;>trivial
 |load a b k=>dsimp only[step];cases heap.get? a<;>trivial
 |update a b f k=>dsimp only[step];cases(heap.get? a).isSome<;>trivial
 |choose src n k=>dsimp only[step];cases n<;>trivial
 |os q b k=>dsimp only[step];cases Os.step os q;trivial
 |genState g k=>dsimp only[step];cases gens[g]?<;>trivial
 |resume g r l k=>
  dsimp only[step];cases gens[g]? with
  |none=>trivial
  |some st=>cases st with
   |fresh c=>cases r with
    |send v=>cases v<;>trivial
    |throw e=>trivial
   |_=>trivial
 |yield v g l k=>
  dsimp only[step];cases splitAtGen stack with
  |none=>trivial
  |some x=>obtain⟨_,⟨_,_,_,_⟩,_⟩:=x;trivial
 |_=>trivial
theorem zw(n:Nat)(s:Shared)(t:Thread)(h:runN den p w n s t= .halted (.done f) s''):∃k t',runN den p w k s t= .running s'' t'∧through t'=true:=by
 induction n generalizing s t with
 |zero=>cases h
 |succ n ih=>
  unfold runN at h;cases hs:step den p w s t with
  |go s' t'=>
   rw[hs]at h;obtain⟨k,t'',hk,ht⟩:=ih s' t' h;exact⟨k+1,t'',by unfold runN;rw[hs];exact hk,ht⟩
  |halt o s'=>
   rw[hs]at h;injection h with h1 h2
   subst h1 h2;haveI key:s=s'∧through t=true:=by
    obtain⟨heap,gens,drawn,toks,os⟩:=s;obtain⟨cur,code,pos,stack⟩:=t
    by_cases hc:∀g,cur≠.pure (.done g)
    ·have:=Gk (den:=den) (p:=p) (w:=w) (heap:=heap) (gens:=gens) (drawn:=drawn) (toks:=toks) (os:=os) (code:=code) (pos:=pos) (stack:=stack) hc;rw[hs]at this;exact this.elim
    ·obtain⟨g,hg⟩:=Classical.not_forall.mp hc;obtain rfl:=Classical.not_not.mp hg;cases stack with
     |nil=>
      have hs':(if leftWithCleanup gens then Step.halt (.unsupported "lifetime:generator-with-cleanup-left-suspended") ⟨heap,gens,drawn,toks,os⟩else .halt (.done g) ⟨heap,gens,drawn,toks,os⟩)= .halt (.done f) s':=hs;cases q:leftWithCleanup gens with
      |true=>rw[q]at hs';injection hs' with a b;cases a
      |false=>rw[q]at hs';injection hs' with a b;exact⟨b,rfl⟩
     |cons F r=>cases F<;>cases hs
   exact⟨0,t,by rw[←key.1];rfl,key.2⟩
theorem zx {s s':Shared}(h:s'.forget=s.forget)(hg:s.gens= #[]):s'=s:=by
 obtain⟨h1,g1,d1,t1,o1⟩:=s;obtain⟨h2,g2,d2,t2,o2⟩:=s';simp only[Shared.forget,Shared.mk.injEq]at h;obtain⟨a,b,c,d,e⟩:=h;simp only at hg;subst a c d e hg;have:g2.size=0:=by have:=congrArg Array.size b;simpa using this
 rw[Array.eq_empty_of_size_eq_zero this]
theorem sa(hz:s.asleep)(hg:s₁.gens= #[])
  (hc:Comes (model p w) s th s₁ ⟨.pure (.done f),c,q,[]⟩):
  ∃n t,schedN (denote table) p w n (.single s th)= .running (.single s₁ t)∧through t=true:=by
 obtain⟨n,hn⟩:=hc;have h1:(model p w).runN (n+1) s th= .halted (.done f) s₁:=by
  refine runN_snoc (h:=hn)|>.trans ?_;have:(model p w).step s₁ ⟨.pure (.done f),c,q,[]⟩=finish (.done f) s₁:=step_leaf_nil (M:=model p w) _ _ _ (Except.ok f);haveI hl:leftWithCleanup (#[]:Array GenState)=false:=by simp[leftWithCleanup]
  rw[this,finish,hg,hl];rfl
 obtain⟨s'',hr,hf,hcalm⟩:=runNI_real (denote table) p w h1 rfl;haveI e:s''=s₁:=zx hf hg;subst e;obtain⟨k,t',hk,ht⟩:=zw _ _ _ hr;haveI hne:∀k s₂,runN (denote table) p w k s th≠.halted (.unsupported "lifetime:generator-with-cleanup-left-suspended") s₂:=by
  intro k s₂ hk;haveI a:=runN_mono (denote table) p w (n+1) k s th _ s'' hr;haveI b:=runN_mono (denote table) p w k (n+1) s th _ s₂ hk;rw[Nat.add_comm,b]at a;injection a with a1 _
  cases a1
 exact⟨k,t',(schedN_eq_runN (denote table) p w s th hz ⟨hcalm,hne⟩ k).trans (congrArg Run.lift hk),ht⟩
theorem wpK(C:α→Shared→Prop)(h:∀Q':α→Shared→Prop,(∀v s',C v s'→Q' v s')→∀E',wpAny M A t Q' E' s)(hC:∀v s',C v s'→Q v s'):wpAny M A t Q E s:=h Q hC E
theorem Gl {M:Model}{A:Around}{α β:Type}{f:α→β→Sem (ForInStep β)}{Q:β→Shared→Prop}{E:PS}{s:Shared}{l:List α}{b:β}(I:List α→β→Shared→Prop)(C:β→Shared→Prop)
  (turn:∀f':α→β→Sem (ForInStep β),f'=f→∀(Q':ForInStep β→Shared→Prop) (E':PS) x rest b s,(∀b' s',I rest b' s'→Q' (.yield b') s')→(∀b' s',C b' s'→Q' (.done b') s')→I (x::rest) b s→wpAny M A (f' x b) Q' E' s)
  (fin:∀b s,I [] b s→Q b s)(hC:∀b s,C b s→Q b s)(h:I l b s):wpAny M A (forIn l b f) Q E s:=
 wpAny_forIn_list f I Q (fun x rest b s hi=>turn f rfl _ _ x rest b s (fun _ _ q=>q) (fun b s q=>hC b s q) hi) fin l b h
theorem nc {M:Model}{A:Around}{env:Env}{st:Stmt}{rest:List Stmt}{Q:Flow→Shared→Prop}{E:PS}{s:Shared}(h:∀Q':Flow→Shared→Prop,(∀s',wpAny M A (execs rest env) Q E s'→Q' .next s')→∀E',wpAny M A (exec st env) Q' E' s):wpAny M A (execs (st::rest) env) Q E s:=
 wpAny_execs_cons (h _ (fun _ q=>q) _)
section
variable {prog:Program} {w:World} {A:Around} {E:PS} {s:Shared} {env:Env} {B:Addr} {items:Array Value} {m:Str→Option Value}
theorem BG
  (hk:env.scope.kind= .function)(k1:env.kindOf "bits" =some .local)(k2:env.kindOf "i" =some .local)(k3:env.kindOf "num" =some .local)
  (hn:s.heap.Ns env.locals m)(m1:m "num" =some (.int x tx))(m2:m "bits" =some (.ref B))(m3:m "i" =some (.int i ti))(i0:0≤i)(i1:i<8)
  (hB:s.heap.IsList B items)(hz:items.size=8)(hne:B≠env.locals)
  (hQ:∀h' y ty c tc tk,h'.Ns env.locals (fun n=>if n="num" then some (.int y ty)else m n)→h'.IsList B (items.setIfInBounds i.toNat (.str c tc))→c.length≤1→
   h'.objs.size=s.heap.objs.size→(∀b,b≠env.locals→b≠B→h'.get? b=s.heap.get? b)→Q .next {s with heap:=h',toks:=tk}):
  wpAny (model prog w) A (execs [
   .Assign [.Subscript (.Name "bits" p1) (.Name "i" p2) p3] (.Subscript (.Constant (.str "01") 0 p4) (.BinOp (.Name "num" p5) .BitAnd (.Constant (.int 1) 0 p6) p7) p8) p9,
   .AugAssign (.Name "num" p10) .RShift (.Constant (.int 1) 0 p11) p12] env) Q E s:=by
 refine wpAny_execs_cons (wpAny_Assign_Subscript ?_);refine Subscript_ (wpAny_Constant_str ?_);refine wpAny_BinOp (wpAny_Name (wpAny_loadName_local hk k3 hn m1 (wpAny_Constant_int (and_int ?_))));haveI hb:Builtin.bitAnd x 1=x%2:=bitAnd_m1 x;haveI hl:(PySem.Str.ofString "01").length=2:=by decide+kernel
 refine item_str (fitsSsize_of (N:=9223372036854775808) (by exact fi2 (Y1 (.k (-9223372036854775808)) X0) [Y2 X1 X0,Y0 (.k 0) X1] rfl hb.symm (Int.emod_nonneg x (b:=2) (by decide))) (fi2 (Y1 X0 (.k 9223372036854775808)) [Y2 X0 X1,Y1 X1 (.k 2)] rfl hb (Int.emod_lt_of_pos x (b:=2) (by decide))) (Int.le_refl _)) (by rw[hl];exact fi2 (Y0 (.g (.k 2)) X0) [Y2 X1 X0,Y0 (.k 0) X1] rfl hb.symm (Int.emod_nonneg x (b:=2) (by decide))) (by rw[hl];exact fi2 (Y1 X0 (.k 2)) [Y2 X0 X1,Y1 X1 (.k 2)] rfl hb (Int.emod_lt_of_pos x (b:=2) (by decide))) (fun hc=>?_);refine wpAny_Name (wpAny_loadName_local hk k1 hn m2 ?_);refine wpAny_Name (wpAny_loadName_local hk k2 hn m3 ?_);refine wpAny_setItem_list hB i0 (by lia) (by rw[hz];exact i1) (fun h1 hB1 hs1=>?_);haveI hn1:h1.Ns env.locals m:=hn.sameBut hs1 (Ne.symm hne);dsimp only at hB1⊢;refine wpAny_execs_cons (wpAny_AugAssign_Name ?_);refine wpAny_loadName_local hk k3 hn1 m1 (wpAny_Constant_int (irshift_int (by decide) ?_));refine wpAny_storeName_local k3 hn1 (fun h2 hn2 hs2=>?_) (by rw[hk];rfl);refine wpAny_execs_nil ?_;obtain⟨o,ho,x⟩:=hB1;exact hQ h2 _ _ _ _ _ hn2 ⟨o,(hs2.2 B hne).trans ho,x⟩ hc.2 (hs2.1.trans hs1.1) (fun b b1 b2=>(hs2.2 b b1).trans (hs1.2 b b2))
end
section
variable {prog:Program} {w:World} {A:Around} {E:PS} {s:Shared} {env:Env}
theorem pW {it:Addr}{x left step:Int}{Q:Option Value→Shared→Prop}(hh:A.handled=none)(hit:IsRangeIter s.heap it x left step)(hleft:left≤0)
  (hQ:∀o1 o2:Obj,o1.isFreed=false→o2.isFreed=false→Q none {s with heap:=(s.heap.push o1).push o2}):wpAny (model prog w) A (pyNext (.ref it)) Q E s:=by
 haveI hT:s.TypeIs (.ref it) "range_iterator":=⟨_,hit,rfl⟩;unfold pyNext;refine wpAny_bind (wpAny_attempt (wpAny_callSpecial?_slot (name:=Str.ofString "__next__") hT F.slot_range_iterator_next
  (wpAny_call_entry F.slot_range_iterator_next hT F.entry_range_iterator_next ?_ (F.args_range_iterator_next_1 _))))
 show wpAny _ _ (field (.ref it) 0>>=_) _ _ s;refine wpAny_bind (wpAny_field hit rfl (x:=rawInt x) rfl ?_);show wpAny _ _ (field (.ref it) 1>>=_) _ _ s;refine wpAny_bind (wpAny_field hit rfl (x:=rawInt left) rfl ?_);show wpAny _ _ (field (.ref it) 2>>=_) _ _ s;refine wpAny_bind (wpAny_field hit rfl (x:=rawInt step) rfl ?_);show wpAny _ _ (if left≤0 then _ else _) _ _ s;rw[if_pos hleft];refine wpAny_bind (wpAny_rule (wpAny_bind ?_));show wpAny _ _ (newExc (.type "StopIteration") []>>=_) _ _ _;refine wpAny_bind ?_;simp only[newExc,newTuple];refine wpAny_bind (wpAny_newObj_type ?_ (by size_fits));refine wpAny_bind (m:=firstArgMember _ _) (wpAny_of_eq (a:=Value.none) (by rfl) ?_);refine wpAny_newObj_type ?_ (by size_fits);simp only[raiseNew];refine wpAny_bind (wpAny_handled ?_);rw[show A.in1.handled=none from hh];refine wpAny_bind (wpAny_pure (wpAny_throw ?_));refine wpAny_bind (wpAny_isInstance (T:="StopIteration") (b:=true) ⟨_,Heap.get?_push_size _ rfl,rfl⟩ isSubtype_stop ?_);exact wpAny_pure (hQ _ _ rfl rfl)
inductive Inv(s0:Shared)(L B it:Addr)(m0:Str→Option Value)(k:Nat)(s:Shared):Prop
 |mk (m:Str→Option Value) (items:Array Value) (x:Int) (tx:Tok) (hn:s.heap.Ns L m) (hx:m "num" =some (.int x tx)) (hm:∀n:Str,n≠"num" →n≠"i" →m n=m0 n) (hit:IsRangeIter s.heap it ((k:Int)-1) k (-1)) (hB:s.heap.IsList B items) (hz:items.size=8)
  (hc:∀j,k≤j→j<8→∃c t,items[j]?=some (.str c t)∧c.length≤1) (hsz:s.heap.objs.size=s0.heap.objs.size) (hfr:∀b,b≠L→b≠B→b≠it→s.heap.get? b=s0.heap.get? b)
  (g1:s.gens=s0.gens) (g2:s.drawn=s0.drawn) (g3:s.os=s0.os)
theorem BH
  (hh:A.handled=none)(hk:env.scope.kind= .function)(k1:env.kindOf "bits" =some .local)(k2:env.kindOf "i" =some .local)(k3:env.kindOf "num" =some .local)
  (m2:m0 "bits" =some (.ref B))(n1:B≠env.locals)(n2:it≠env.locals)(n3:it≠B)(h:Inv s0 env.locals B it m0 8 s)
  (hR:∀s' o1 o2,Inv s0 env.locals B it m0 0 s'→o1.isFreed=false→o2.isFreed=false→R (.ok .next) {s' with heap:=(s'.heap.push o1).push o2}):
  codeAny (model prog w) A (.forLoop (.Name "i" p0) (.ref it) [
   .Assign [.Subscript (.Name "bits" p1) (.Name "i" p2) p3] (.Subscript (.Constant (.str "01") 0 p4) (.BinOp (.Name "num" p5) .BitAnd (.Constant (.int 1) 0 p6) p7) p8) p9,
   .AugAssign (.Name "num" p10) .RShift (.Constant (.int 1) 0 p11) p12] [] env) R s:=by
 refine codeAny_forLoop (fun k s'=>k≤8∧Inv s0 env.locals B it m0 k s') (fun k s' hI=>?_) 8 ⟨nRe _,h⟩;obtain⟨hk8,m,items,x,tx,hn,hx,hm,hit,hB,hz,hc,hsz,hfr,g1,g2,g3⟩:=hI;cases k with
 |zero=>exact pW hh hit (by simp) (fun o1 o2 f1 f2=>wpAny_execs_nil (hR s' o1 o2 ⟨m,items,x,tx,hn,hx,hm,hit,hB,hz,hc,hsz,hfr,g1,g2,g3⟩ f1 f2))
 |succ k=>
  refine wpAny_pyNext_range_item hit (fi1 (Y1 (.k 0) (.i X0)) [Y0 (.k 0) X0] rfl (iNn k)) (fun h1 hit1 hs1=>?_);refine wpAny_assign_Name (wpAny_storeName_local k2 (hn.sameBut hs1 (Ne.symm n2)) (fun h2 hn2 hs2=>?_) (by rw[hk];rfl));haveI eB:h2.IsList B items:=by
   obtain⟨o,ho,r⟩:=hB;exact⟨o,((hs2.2 B n1).trans (hs1.2 B (Ne.symm n3))).trans ho,r⟩
  haveI ni:(PySem.Str.ofString "num")≠PySem.Str.ofString "i":=by decide+kernel
  haveI nb:(PySem.Str.ofString "bits")≠PySem.Str.ofString "i":=by decide+kernel
  haveI nbn:(PySem.Str.ofString "bits")≠PySem.Str.ofString "num":=by decide+kernel
  refine wpK (fun fl s'=>fl= .next∧∃m,m<k+1∧m≤8∧Inv s0 env.locals B it m0 m s') (fun Q' hQ' E'=>?_) (fun v s' ⟨e,h⟩=>by subst e;exact h);refine BG hk k1 k2 k3 hn2 (x:=x) (tx:=tx) (i:=((k+1:Nat):Int)-1) (by simp only[if_neg ni];exact hx) (by simp only[if_neg nb];rw[hm _ nbn nb];exact m2) (by simp only[if_true];rfl)
   (fi1 (Y0 (.k 0) (.s (.i X0) (.k 1))) [Y0 (.k 0) X0] rfl (iNn k)) (fi [↑k] (Y1 (.s (.i X0) (.k 1)) (.k 8)) [Y0 (.i X0) (.k 8)] rfl (iOl hk8)) eB hz n1 (fun h3 y ty c tc tk hn3 hB3 hcl hs3 hf3=>hQ' _ _ ⟨rfl,k,Nat.lt_succ_self _,fj1 (Y0 X0 (.k 8)) [Y0 (.i X0) (.k 8)] rfl hk8,?_⟩)
  haveI ek:(((k+1:Nat):Int)-1).toNat=k:=by lia
  rw[ek]at hB3;refine⟨_,_,y,ty,hn3,if_pos rfl,fun n a b=>by simp only[if_neg a,if_neg b];exact hm n a b,?_,hB3,by simpa using hz,fun j a b=>?_,hs3.trans (hs2.1.trans (hs1.1.trans hsz)),fun b b1 b2 b3=>?_,g1,g2,g3⟩
  ·show h3.get? it=_;rw[hf3 it n2 n3];show h2.get? it=_;rw[hs2.2 it n2];have:(((k+1:Nat):Int)-1+ -1)=(k:Int)-1:=by lia
   rw[this]at hit1;have e2:(((k+1:Nat):Int)-1)=(k:Int):=iAs (fi1 (Y0 (.s (.i X0) (.k 1)) X0) [] rfl) (fi1 (Y0 X0 (.s (.i X0) (.k 1))) [] rfl);rw[e2]at hit1;exact hit1
  ·by_cases e:j=k
   ·subst e;exact⟨c,tc,by rw[Array.getElem?_setIfInBounds_self_of_lt (by exact fj2 (Y1 X0 X1) [Y2 (.k 8) X1,Y1 X0 (.k 8)] rfl hz.symm b)],hcl⟩
   ·obtain⟨c',t',e1,e2⟩:=hc j (by lia) b;exact⟨c',t',by rw[Array.getElem?_setIfInBounds_ne (fun q=>e q.symm)];exact e1,e2⟩
  ·exact(hf3 b b1 b2).trans ((hs2.2 b b1).trans ((hs1.2 b b3).trans (hfr b b1 b2 b3)))
end
section
variable {prog:Program} {w:World} {A:Around} {E:PS} {s:Shared} {env:Env}
theorem D0
  (hl:s.heap.get? l=some {cls:= .type "list",dict:=none,data:= .seq items k,slots:= #[]})
  (hlo: -(2^63:Int)≤x)(hhi:x<2^63)(hsz:items.size*x.toNat≤2^24)
  (h:Q (.ref s.heap.objs.size) {s with heap:=s.heap.push {cls:= .type "list",data:= .seq (List.foldl (fun x1 x2=>x1++x2) #[] (List.replicate (if items.isEmpty=true then 0 else x.toNat) items))}}):
  wpAny (model prog w) A (binaryOp .Mult (.int x u) (.ref l)) Q E s:=
 lm_binaryOp_repeat_right (T:="list") (U:="int") (by decide) (fun s'=>typeIs_int s' x u) ⟨_,hl,rfl⟩ F.fills_int_mul noFill_list_mul F.slot_int_mul lm_noRepeat_int repeat_list F.slot_int_index.lookup
  (call_meets F.slot_int_mul (typeIs_int s x u) F.entry_int_mul (F.args_int_mul_2 _ _) (int___mul___int_list x u l items k)
   ⟨hl,rfl,⟨_,hl,rfl⟩,call_meets F.slot_list_mul ⟨_,hl,rfl⟩ F.entry_list_mul (F.args_list_mul_2 _ _)
    (AutoListH.list___mul___list_int_3 l items k x u (by simp[Builtin.List.listFitsIndex];lia) (by lia) (by simp[Builtin.List.listTooLong,sizeLine];lia))
    ⟨hl,h⟩⟩)
theorem A3:∀(l:List Value),(∀v∈l,∃c t,v= .str c t∧c.length≤1)→∃ys:List Str,StrsAre l ys∧(ys.map (·.length)).sum≤l.length∧ys.length=l.length
 |[],_=>⟨[],.nil,nRe _,rfl⟩
 |v::l,h=>by
  obtain⟨c,t,rfl,hc⟩:=h v (.head _);obtain⟨ys,a,b,d⟩:=A3 l fun v hv=>h v (.tail _ hv)
  refine⟨c::ys,.cons c t a,?_,by simp[d]⟩;simp only[List.map_cons,List.sum_cons,List.length_cons];exact fj3 (Y0 (.a X0 X1) (.i X2)) [Y0 X0 (.k 1),Y0 X1 X2] rfl hc b
noncomputable def dY(h:Heap):Prop:=∀b,b<h.objs.size→(h.get? b).isSome=true
theorem dY.push(f:dY h)(ho:o.isFreed=false):dY (h.push o):=fun b hb=>by
 rw[Heap.size_push]at hb
 by_cases e:b=h.objs.size
 ·subst e;rw[Heap.get?_push_size _ ho];rfl
 ·rw[Heap.get?_push_ne _ _ _ e];exact f b (Nat.lt_of_le_of_ne (Nat.le_of_lt_succ hb) e)
theorem dY.same(f:dY h)(hs:Heap.SameBut a h h')(ha:(h'.get? a).isSome=true):dY h':=fun b hb=>by
 by_cases e:b=a
 ·rw[e];exact ha
 ·rw[hs.2 b e];exact f b (by rw[←hs.1];exact hb)
theorem gq {h:Heap}{a:Addr}{o:Obj}(e:h.get? a=some o):(h.get? a).isSome=true:=by rw[e];rfl
theorem nj {h:Heap}{a:Addr}{m:Str→Option Value}(x:h.Ns a m):(h.get? a).isSome=true:=by
 obtain⟨o,_,_,e,_⟩:=x;exact gq e
inductive BJ(s0:Shared)(L K it R9:Addr)(k:Nat)(s:Shared):Prop
 |mk (m:Str→Option Value) (its:Array Value) (tx:Nat) (hn:s.heap.Ns L m) (hK:m "lookup" =some (.ref K)) (hB9:m "bits_per_byte" =some (.ref R9)) (hit:IsRangeIter s.heap it (256-k) k 1)
  (hl:s.heap.get? K=some {cls:= .type "list",data:= .seq its tx}) (hlz:its.size+k=256)
  (hsz:s.heap.objs.size+5*k=s0.heap.objs.size+5*256) (hfr:∀b,b≠L→b≠K→b≠it→b<s0.heap.objs.size→s.heap.get? b=s0.heap.get? b)
  (hfull:dY s.heap) (g1:s.gens=s0.gens) (g2:s.drawn=s0.drawn) (g3:s.os=s0.os)
noncomputable abbrev og(o:Expr)(name:Str)(apos pos:Pos)(args:List Expr)(env:Env):Prop:=
 ∃pl:Sem Bool,eval (.Call (.Attribute o name apos) args [] pos) env=(do
   let ov←eval o env
   standAt apos.atName
   let(f,first)←holding [ov] (getMethod ov name pl)
   callWith pos f first (backTo pos (starEach args env)) [])
set_option maxHeartbeats 2000000 in
theorem BK {p0 q1 q2 q3 q4 q5 q6 q7 q8 q9 r1 r2 r3 r4 r5 r6 r7 r8:Pos}{p1 p2 p3 p4 p5 p6 p7 p8 p9 p10 p11 p12:Pos}{s0:Shared}{K it R9:Addr}{R:PR}{ta tb tc:Tok}
  (hin:interactive env=false)(c1:og (.Name "lookup" r1) "append" r2 r7 [.Call (.Attribute (.Constant (.str "") 0 r3) "join" r4) [.Name "bits" r5] [] r6] env)
  (c2:og (.Constant (.str "") 0 r3) "join" r4 r6 [.Name "bits" r5] env)
  (hh:A.handled=none)(hk:env.scope.kind= .function)(k1:env.kindOf "bits" =some .local)(k2:env.kindOf "i" =some .local)(k3:env.kindOf "num" =some .local)
  (k4:env.kindOf "lookup" =some .local)(k5:env.kindOf "bits_per_byte" =some .local)
  (n1:K≠env.locals)(n2:it≠env.locals)(n3:it≠K)(n4:R9≠env.locals)(n5:R9≠K)(n6:R9≠it)(hR9:IsRange s0.heap R9 7 (-1) (-1) ta tb tc)(h:BJ s0 env.locals K it R9 256 s)
  (hR:∀s' o1 o2,BJ s0 env.locals K it R9 0 s'→o1.isFreed=false→o2.isFreed=false→R (.ok .next) {s' with heap:=(s'.heap.push o1).push o2}):
  codeAny (model prog w) A (.forLoop (.Name "num" p0) (.ref it) [
   .Assign [.Name "bits" q1] (.BinOp (.Constant (.int 8) 0 q2) .Mult (.List [.Constant .none 0 q3] q4) q5) q6,
   .For (.Name "i" q7) (.Name "bits_per_byte" q8) [
   .Assign [.Subscript (.Name "bits" p1) (.Name "i" p2) p3] (.Subscript (.Constant (.str "01") 0 p4) (.BinOp (.Name "num" p5) .BitAnd (.Constant (.int 1) 0 p6) p7) p8) p9,
   .AugAssign (.Name "num" p10) .RShift (.Constant (.int 1) 0 p11) p12] [] q9,
   .Expr (.Call (.Attribute (.Name "lookup" r1) "append" r2) [.Call (.Attribute (.Constant (.str "") 0 r3) "join" r4) [.Name "bits" r5] [] r6] [] r7) r8] [] env) R s:=by
 refine codeAny_forLoop (fun k s'=>k≤256∧BJ s0 env.locals K it R9 k s') (fun k s' hI=>?_) 256 ⟨nRe _,h⟩;obtain⟨hk8,m,its,ep,hn,hK,hB9,hit,hl,hlz,hsz,hfr,hfull,g1,g2,g3⟩:=hI;cases k with
 |zero=>exact pW hh hit (by simp) (fun o1 o2 f1 f2=>wpAny_execs_nil (hR s' o1 o2 ⟨m,its,ep,hn,hK,hB9,hit,hl,hlz,hsz,hfr,hfull,g1,g2,g3⟩ f1 f2))
 |succ k=>
  refine wpAny_pyNext_range_item hit (fi1 (Y1 (.k 0) (.i X0)) [Y0 (.k 0) X0] rfl (iNn k)) (fun h1 hit1 hs1=>?_);refine wpAny_assign_Name (wpAny_storeName_local k3 (hn.sameBut hs1 (Ne.symm n2)) (fun h2 hn2 hs2=>?_) (by rw[hk];rfl));refine wpK (fun fl s'=>fl= .next∧∃m,m<k+1∧m≤256∧BJ s0 env.locals K it R9 m s') (fun Q' hQ' E'=>?_) (fun v s' ⟨e,h⟩=>by subst e;exact h);refine nc fun Q2 hQ2 E2=>?_
  refine(wpAny_Assign_Name (wpAny_BinOp (wpAny_Constant_int (wpAny_List (spliced_more (wpAny_Constant_none (spliced_none ⟨by decide,?_⟩)))))));refine D0 (items:= #[Value.none]) (k:=0) (Heap.get?_push_size _ rfl) (by decide) (by decide) (by decide) ?_;have hR2:IsRange h2 R9 7 (-1) (-1) ta tb tc:=by
   show h2.get? R9=_;have lt:=Heap.lt_size hR9;rw[hs2.2 R9 n4,hs1.2 R9 n6,hfr R9 n4 n5 n6 lt];exact hR9
  have sz2:h2.objs.size=s'.heap.objs.size:=hs2.1.trans hs1.1;have ltL:env.locals<h2.objs.size:=hn2.lt;dsimp only;refine wpAny_storeName_local k1 ((hn2.push _).push _) (fun h3 hn3 hs3=>?_) (by rw[hk];rfl);refine hQ2 _ ?_;clear hQ2;refine nc fun Q2 hQ2 E2=>?_
  refine(wpAny_For (wpAny_Name (wpAny_loadName_local hk k5 hn3 (v:= .ref R9) ?_ ?_)))
  ·have e1:(PySem.Str.ofString "bits_per_byte")≠PySem.Str.ofString "bits":=by decide+kernel
   have e2:(PySem.Str.ofString "bits_per_byte")≠PySem.Str.ofString "num":=by decide+kernel
   simp only[if_neg e1,if_neg e2];exact hB9
  have ltR:R9<h2.objs.size:=Heap.lt_size hR2;refine wpAny_pyIter_range (r:=R9) (a:=7) (b:= -1) (c:= -1) (t:=ta) (u:=tb) (v:=tc) ?_ (by decide) ?_
  ·show h3.get? R9=_;rw[hs3.2 R9 n4];exact Heap.get?_push_of_some _ (Heap.get?_push_of_some _ hR2)
  dsimp only at hs3 hn3⊢;have sz3:h3.objs.size=h2.objs.size+2:=by rw[hs3.1,Heap.size_push,Heap.size_push]
  have eb:(h2.push {cls:=Value.type "list",data:=Data.seq #[Value.none]}).objs.size=h2.objs.size+1:=Heap.size_push ..;have nbl:(PySem.Str.ofString "bits")≠PySem.Str.ofString "lookup":=by decide+kernel
  have nnl:(PySem.Str.ofString "num")≠PySem.Str.ofString "lookup":=by decide+kernel
  have nil':(PySem.Str.ofString "i")≠PySem.Str.ofString "lookup":=by decide+kernel
  have nbb:(PySem.Str.ofString "bits_per_byte")≠PySem.Str.ofString "bits":=by decide+kernel
  have nbn:(PySem.Str.ofString "bits_per_byte")≠PySem.Str.ofString "num":=by decide+kernel
  have nbi:(PySem.Str.ofString "bits_per_byte")≠PySem.Str.ofString "i":=by decide+kernel
  have nbnum:(PySem.Str.ofString "num")≠PySem.Str.ofString "bits":=by decide+kernel
  have ltK:K<h2.objs.size:=by rw[sz2];exact Heap.lt_size hl
  have ltI:it<h2.objs.size:=by rw[sz2];exact Heap.lt_size hit
  have ltL': @LT.lt Nat _ env.locals h2.objs.size:=ltL;have d1:(h2.objs.size+1:Nat)≠env.locals:=Nat.ne_of_gt (fj2 (Y1 X0 (.i X1)) [Y1 X0 X1] rfl ltL);have d2:(h3.objs.size:Nat)≠env.locals:=Nat.ne_of_gt (fj3 (Y1 X0 X1) [Y1 X0 X2,Y2 (.a X2 (.k 2)) X1] rfl ltL sz3.symm);have d3:(h3.objs.size:Nat)≠h2.objs.size+1:=fun hz=>fj2 (0,3,.k 0,.k 0) [Y2 (.a X0 (.k 2)) X1,Y2 X1 (.i X0)] rfl sz3.symm hz
  have hB3:h3.IsList (h2.objs.size+1) (List.foldl (fun x1 x2=>x1++x2) #[] (List.replicate (if(#[Value.none]:Array Value).isEmpty=true then 0 else Int.toNat 8) #[Value.none])):=by
   refine⟨{cls:= .type "list",data:= .seq (List.foldl (fun x1 x2=>x1++x2) #[] (List.replicate (if(#[Value.none]:Array Value).isEmpty=true then 0 else Int.toNat 8) #[Value.none]))},(hs3.2 _ d1).trans ?_,rfl,0,rfl⟩;rw[←eb];exact Heap.get?_push_size _ rfl
  have hB4:=hB3.push {cls:= .type "range_iterator",data:= .fields #[rawInt 7,rawInt (Builtin.Range.rangeSize 7 (-1) (-1)),rawInt (-1)]};refine BH (B:=h2.objs.size+1) (it:=h3.objs.size) (m0:=_) (s0:=_) hh hk k1 k2 k3 ?_ d1 d2 d3
   ⟨_,_,256-((k+1:Nat):Int),s'.toks,hn3.push _,?_,fun n _ _=>rfl,?_,hB4,by decide+kernel,fun j a b=>by lia,rfl,fun b _ _ _=>rfl,rfl,rfl,rfl⟩ (fun s5 o1 o2 hI f1 f2=>?_)
  ·simp only[if_true];rw[eb]
  ·simp only[if_neg nbnum,if_true]
  ·exact Heap.get?_push_size _ rfl
  obtain⟨m5,items5,x5,tx5,hn5,hx5,hm5,hit5,hB5,hz5,hc5,hsz5,hfr5,e1,e2,e3⟩:=hI;dsimp only at hm5 hsz5 hfr5 e1 e2 e3⊢;have hn6:=(hn5.push o1).push o2;have hB6:=(hB5.push o1).push o2;have l5:m5 "lookup" =some (.ref K):=by
   rw[hm5 _ (Ne.symm nnl) (Ne.symm nil')];simp only[if_neg (Ne.symm nbl),if_neg (Ne.symm nnl)];exact hK
  have b5:m5 "bits" =some (.ref (h2.objs.size+1)):=by
   have nbi':(PySem.Str.ofString "bits")≠PySem.Str.ofString "i":=by decide+kernel
   rw[hm5 _ (Ne.symm nbnum) nbi'];simp only[if_true];rw[eb]
  have hK': @LT.lt Nat _ K h2.objs.size:=ltK;have hit': @LT.lt Nat _ it h2.objs.size:=ltI;have keep:∀b,b≠env.locals→b<h2.objs.size→s5.heap.get? b=h2.get? b:=fun b b1 (b2: @LT.lt Nat _ b h2.objs.size)=>by
   rw[hfr5 b b1 (nNe (fj2 (Y1 X0 (.i X1)) [Y1 X0 X1] rfl b2)) (nNe (fj3 (Y1 X0 X1) [Y2 (.a X2 (.k 2)) X1,Y1 X0 X2] rfl sz3.symm b2))];have q3:(h3.push {cls:= .type "range_iterator",data:= .fields #[rawInt 7,rawInt (Builtin.Range.rangeSize 7 (-1) (-1)),rawInt (-1)]}).get? b=h3.get? b:=Heap.get?_push_ne _ _ _ (nNe (fj3 (Y1 X0 X1) [Y2 (.a X2 (.k 2)) X1,Y1 X0 X2] rfl sz3.symm b2));rw[q3,hs3.2 b b1,Heap.get?_push_ne _ _ _ (by rw[Heap.size_push];exact nNe (fj2 (Y1 X0 (.i X1)) [Y1 X0 X1] rfl b2)),Heap.get?_push_ne _ _ _ (nNe b2)]
  have hK5:s5.heap.get? K=some {cls:= .type "list",data:= .seq its ep}:=by
   rw[keep K n1 ltK,hs2.2 K n1,hs1.2 K (Ne.symm n3)];exact hl
  have hK6:((s5.heap.push o1).push o2).get? K=some {cls:= .type "list",data:= .seq its ep}:=Heap.get?_push_of_some _ (Heap.get?_push_of_some _ hK5);obtain⟨pl1,c1⟩:=c1;obtain⟨pl2,c2⟩:=c2;refine hQ2 _ ?_;clear hQ2;refine nc fun Q2 hQ2 E2=>?_
  refine(wpAny_Expr ?_ hin);refine MethodCall_ ?_ c1;refine wpAny_Name (wpAny_loadName_local hk k4 hn6 l5 ?_);refine getMethod_list_append hK6 rfl rfl (callWith_method1 (spliced_more ?_));refine MethodCall_ ?_ c2;refine wpAny_Constant_str (GM.join (callWith_method1 (spliced_more ?_)));refine wpAny_Name (wpAny_loadName_local hk k1 hn6 b5 ?_);refine spliced_none ?_;obtain⟨ys,y1,y2,y3⟩:=A3 items5.toList (fun v hv=>by
   obtain⟨j,hj,e⟩:=List.mem_iff_getElem.mp hv;obtain⟨c,t,q1,q2⟩:=hc5 j (nZl _) (by simpa[hz5]using hj);refine⟨c,t,?_,q2⟩;rw[←e];have:=Array.getElem?_eq_some_iff.mp q1;obtain⟨a,b⟩:=this;simpa using b)
  have y4:items5.toList.length=8:=by simpa using hz5
  show wpAny _ _ (call (Value.builtin "str.join") [.str _ _,.ref _]) _ _ _;refine join_listC hB6 y1 (by decide+kernel) (by rw[y4]at y2 y3;exact fj2 (Y0 (.a X0 (.n X1 64)) (.k 16777216)) [Y0 X0 (.k 8),(64,2,X1,.k 8)] rfl y2 y3) (fun t' k'=>?_);refine spliced_none ?_;show wpAny _ _ (call (Value.builtin "list.append") [.ref K,_]) _ _ _;refine append_at hK6 (fun h7 hs7 hK7=>?_) (by rw[sizeLine_eq];exact fj2 (Y0 X0 (.k 16777216)) [Y2 (.a X0 (.i X1)) (.k 256)] rfl hlz);refine hQ2 _ (wpAny_execs_nil (hQ' _ _ ⟨rfl,k,Nat.lt_succ_self _,fj1 (Y0 X0 (.k 256)) [Y0 (.i X0) (.k 256)] rfl hk8,?_⟩));have z5:s5.heap.objs.size=h2.objs.size+3:=by rw[hsz5,Heap.size_push,sz3]
  have z7:h7.objs.size=h2.objs.size+5:=by rw[hs7.1,Heap.size_push,Heap.size_push,z5]
  have up:∀b,b≠env.locals→b≠K→b<h2.objs.size→h7.get? b=h2.get? b:=fun b b1 b2 b3=>by
   have b3': @LT.lt Nat _ b h2.objs.size:=b3;rw[hs7.2 b b2,Heap.get?_push_ne _ _ _ (by rw[Heap.size_push,z5];exact nNe (fj2 (Y1 X0 (.i (.a X1 (.k 3)))) [Y1 X0 X1] rfl b3)),Heap.get?_push_ne _ _ _ (by rw[z5];exact nNe (fj2 (Y1 X0 (.a X1 (.k 3))) [Y1 X0 X1] rfl b3))];exact keep b b1 b3
  refine⟨m5,_,_,hn6.sameBut hs7 (Ne.symm n1),l5,?_,?_,hK7,?_,?_,fun b b1 b2 b3 b4=>?_,?_,e1.trans g1,e2.trans g2,e3.trans g3⟩
  ·rw[hm5 _ nbn nbi];simp only[if_neg nbb,if_neg nbn];exact hB9
  ·show h7.get? it=_;rw[up it n2 n3 ltI,hs2.2 it n2];have q1:(256-((k+1:Nat):Int)+1)=256-(k:Int):=iAs (fi1 (Y0 (.a (.s (.k 256) (.i X0)) (.k 1)) (.s (.k 256) X0)) [] rfl) (fi1 (Y0 (.s (.k 256) X0) (.a (.s (.k 256) (.i X0)) (.k 1))) [] rfl);have q2:(((k+1:Nat):Int)-1)=(k:Int):=iAs (fi1 (Y0 (.s (.i X0) (.k 1)) X0) [] rfl) (fi1 (Y0 X0 (.s (.i X0) (.k 1))) [] rfl);rw[q1,q2]at hit1;exact hit1
  ·rw[Array.size_push];exact nAs (fj2 (Y0 (.a (.i X0) X1) (.k 256)) [Y2 (.a X0 (.i X1)) (.k 256)] rfl hlz) (fj2 (Y0 (.k 256) (.a (.i X0) X1)) [Y2 (.k 256) (.a X0 (.i X1))] rfl hlz.symm)
  ·show h7.objs.size+5*k=_;rw[z7,sz2];exact nAs (fj3 (Y0 (.a (.a X0 (.k 5)) (.m 5 X1)) (.a X2 (.m 5 (.k 256)))) [Y2 (.a X0 (.m 5 (.i X1))) (.a X2 (.m 5 (.k 256)))] rfl hsz) (fj3 (Y0 (.a X0 (.m 5 (.k 256))) (.a (.a X1 (.k 5)) (.m 5 X2))) [Y2 (.a X0 (.m 5 (.k 256))) (.a X1 (.m 5 (.i X2)))] rfl hsz.symm)
  ·show h7.get? b=_;have b5: @LT.lt Nat _ b s0.heap.objs.size:=b4;have ltb: @LT.lt Nat _ b h2.objs.size:=by have:s'.heap.objs.size=h2.objs.size:=sz2.symm;exact fj5 (Y1 X0 X1) [(5,0,.i X2,.k 256),Y2 (.a X3 (.m 5 (.k 256))) (.a X4 (.m 5 (.i X2))),Y2 X4 X1,Y1 X0 X3] rfl hk8 hsz.symm sz2.symm b4
   rw[up b b1 b2 ltb,hs2.2 b b1,hs1.2 b b3];exact hfr b b1 b2 b3 b4
  ·have f2:dY h2:=(hfull.same hs1 (gq hit1)).same hs2 (nj hn2);have f3:dY h3:=((f2.push rfl).push rfl).same hs3 (nj hn3);have f4:=f3.push (o:={cls:= .type "range_iterator",data:= .fields #[rawInt 7,rawInt (Builtin.Range.rangeSize 7 (-1) (-1)),rawInt (-1)]}) rfl;have f5:dY s5.heap:=fun b hb=>by
    by_cases c1:b=env.locals
    ·rw[c1];exact nj hn5
    by_cases c2:b=h2.objs.size+1
    ·rw[c2];obtain⟨o,q,_⟩:=hB5;exact gq q
    by_cases c3:b=h3.objs.size
    ·rw[c3];exact gq hit5
    rw[hfr5 b c1 c2 c3];exact f4 b (by rw[←hsz5];exact hb)
   exact((f5.push ‹o1.isFreed=false›).push ‹o2.isFreed=false›).same hs7 (gq hK7)
end
section
variable {prog:Program} {w:World} {A:Around} {E:PS} {s:Shared} {env:Env}
theorem Q5
  (hin:interactive env=false)(c1:og (.Name "lookup" r1) "append" r2 r7 [.Call (.Attribute (.Constant (.str "") 0 r3) "join" r4) [.Name "bits" r5] [] r6] env)
  (c2:og (.Constant (.str "") 0 r3) "join" r4 r6 [.Name "bits" r5] env)
  (hh:A.handled=none)(hk:env.scope.kind= .function)(k1:env.kindOf "bits" =some .local)(k2:env.kindOf "i" =some .local)(k3:env.kindOf "num" =some .local)
  (k4:env.kindOf "lookup" =some .local)(k5:env.kindOf "bits_per_byte" =some .local)(k6:env.kindOf "range" =some .globalImplicit)
  (hn:s.heap.Ns env.locals fun _=>none)(hg:s.heap.Ns env.globals mg)(hgr:mg "range" =none)(hb:s.heap.Ns env.builtins mb)(hbr:mb "range" =some (.type "range"))
  (ng:env.globals≠env.locals)(nb:env.builtins≠env.locals)(hf:dY s.heap)
  (hQ:∀s',s'.heap.objs.size=s.heap.objs.size+1286→dY s'.heap→(∀b,b≠env.locals→b<s.heap.objs.size→s'.heap.get? b=s.heap.get? b)→
   s'.gens=s.gens→s'.drawn=s.drawn→s'.os=s.os→Q (.ret (.ref s.heap.objs.size)) s'):
  wpAny (model prog w) A (execs [
   .Assign [.Name "lookup" a1] (.List [] a2) a3,
   .Assign [.Name "bits_per_byte" a4] (.Call (.Name "range" a5) [.Constant (.int 7) 0 a6,.UnaryOp .USub (.Constant (.int 1) 0 a7) a8,.UnaryOp .USub (.Constant (.int 1) 0 a9) a10] [] a11) b1,
   .For (.Name "num" p0) (.Call (.Name "range" b2) [.Constant (.int 256) 0 b3] [] b4) [
   .Assign [.Name "bits" q1] (.BinOp (.Constant (.int 8) 0 q2) .Mult (.List [.Constant .none 0 q3] q4) q5) q6,
   .For (.Name "i" q7) (.Name "bits_per_byte" q8) [
   .Assign [.Subscript (.Name "bits" p1) (.Name "i" p2) p3] (.Subscript (.Constant (.str "01") 0 p4) (.BinOp (.Name "num" p5) .BitAnd (.Constant (.int 1) 0 p6) p7) p8) p9,
   .AugAssign (.Name "num" p10) .RShift (.Constant (.int 1) 0 p11) p12] [] q9,
   .Expr (.Call (.Attribute (.Name "lookup" r1) "append" r2) [.Call (.Attribute (.Constant (.str "") 0 r3) "join" r4) [.Name "bits" r5] [] r6] [] r7) r8] [] b5,
   .Return (some (.Name "lookup" b6)) b7] env) Q E s:=by
 refine nc fun Q2 hQ2 E2=>?_
 refine(wpAny_Assign_Name (wpAny_List (spliced_none ⟨by decide,?_⟩)));haveI ltL: @LT.lt Nat _ env.locals s.heap.objs.size:=hn.lt;refine wpAny_storeName_local k4 (hn.push _) (fun h1 hn1 hs1=>?_) (by rw[hk];rfl);dsimp only at hs1⊢;have z1:h1.objs.size=s.heap.objs.size+1:=by rw[hs1.1,Heap.size_push]
 haveI hg1:h1.Ns env.globals mg:=(hg.push _).sameBut hs1 ng;haveI hb1:h1.Ns env.builtins mb:=(hb.push _).sameBut hs1 nb;refine hQ2 _ ?_;clear hQ2;refine nc fun Q2 hQ2 E2=>?_
 refine(wpAny_Assign_Name ?_);refine Call_ (Name_function_global hk k6 (loadGlobal_builtin hg1 hgr hb1 hbr ?_));refine Pv.callWith_type1 ?_;refine spliced_more (wpAny_Constant_int (spliced_more ?_));refine wpAny_UnaryOp (wpAny_Constant_int (neg_int (spliced_more (wpAny_UnaryOp (wpAny_Constant_int (neg_int (spliced_none ?_)))))));refine call_range_3 (by decide) ?_ (Or.inl (PyProof.noPylong_of_log2 (by decide+kernel)));dsimp only;refine wpAny_storeName_local k5 (hn1.push _) (fun h2 hn2 hs2=>?_) (by rw[hk];rfl);dsimp only at hs2⊢;haveI z2:h2.objs.size=s.heap.objs.size+2:=by rw[hs2.1,Heap.size_push,z1]
 haveI hg2:h2.Ns env.globals mg:=(hg1.push _).sameBut hs2 ng;haveI hb2:h2.Ns env.builtins mb:=(hb1.push _).sameBut hs2 nb;refine hQ2 _ ?_;clear hQ2;refine nc fun Q2 hQ2 E2=>?_
 refine(wpAny_For (Call_ (Name_function_global hk k6 (loadGlobal_builtin hg2 hgr hb2 hbr (Pv.callWith_type1 (spliced_more (wpAny_Constant_int (spliced_none (call_range_1 ?_)))))))));refine wpAny_pyIter_range (a:=0) (b:=256) (c:=1) (by exact Heap.get?_push_size _ rfl) (by decide) ?_;dsimp only;have nK: @LT.lt Nat _ env.locals s.heap.objs.size:=ltL;haveI nlb:(PySem.Str.ofString "lookup")≠PySem.Str.ofString "bits_per_byte":=by decide+kernel
 haveI f1:dY h1:=(hf.push rfl).same hs1 (nj hn1);haveI f2:dY h2:=(f1.push rfl).same hs2 (nj hn2);haveI kK:h2.get? s.heap.objs.size=some {cls:= .type "list",data:= .seq #[]}:=by
  rw[hs2.2 _ (Nat.ne_of_gt nK),Heap.get?_push_ne _ _ _ (by rw[z1];exact nNe (Nat.lt_succ_self _)),hs1.2 _ (Nat.ne_of_gt nK)];exact Heap.get?_push_size s.heap (o:={cls:= .type "list",data:= .seq #[]}) rfl
 haveI q1: @LT.lt Nat _ env.locals h1.objs.size:=by rw[z1];exact fj2 (Y1 X0 (.i X1)) [Y1 X0 X1] rfl ltL
 obtain⟨ta,tb,tc,kR⟩:∃ta tb tc,h2.get? h1.objs.size=some {cls:= .type "range",data:= .fields #[.int 7 ta,.int (-1) tb,.int (-1) tc]}:=
  ⟨_,_,_,(hs2.2 _ (Nat.ne_of_gt q1)).trans (Heap.get?_push_size _ rfl)⟩
 haveI d1:(s.heap.objs.size:Nat)≠env.locals:=Nat.ne_of_gt nK;haveI d2:(h2.objs.size+1:Nat)≠env.locals:=Nat.ne_of_gt (fj3 (Y1 X0 (.i X1)) [Y1 X0 X2,Y2 (.a X2 (.k 2)) X1] rfl ltL z2.symm);haveI d3:(h2.objs.size+1:Nat)≠s.heap.objs.size:=fun hz=>fj2 (0,3,.k 0,.k 0) [Y2 (.a X0 (.k 2)) X1,Y2 (.i X1) X0] rfl z2.symm hz
 haveI d4:(h1.objs.size:Nat)≠env.locals:=Nat.ne_of_gt (by assumption);haveI d5:(h1.objs.size:Nat)≠s.heap.objs.size:=fun hz=>fj2 (0,3,.k 0,.k 0) [Y2 (.i X0) X1,Y2 X1 X0] rfl z1.symm hz
 haveI d6:(h1.objs.size:Nat)≠h2.objs.size+1:=fun hz=>fj3 (0,3,.k 0,.k 0) [Y2 X0 (.i X1),Y2 (.a X1 (.k 2)) X2,Y2 (.i X2) X0] rfl z1 z2.symm hz.symm
 have e1:∀o:Obj,(h2.push o).objs.size=h2.objs.size+1:=fun o=>Heap.size_push ..
 rw[e1];refine BK (K:=s.heap.objs.size) (R9:=h1.objs.size) (it:=h2.objs.size+1) (s0:=_) hin c1 c2 hh hk k1 k2 k3 k4 k5 d1 d2 d3 d4 d5 d6
  (by exact Heap.get?_push_of_some _ (Heap.get?_push_of_some _ kR))
  ⟨_,_,_,(hn2.push _).push _,?_,?_,?_,Heap.get?_push_of_some _ (Heap.get?_push_of_some _ kK),rfl,rfl,fun b _ _ _ _=>rfl,(f2.push rfl).push rfl,rfl,rfl,rfl⟩
  (fun s5 o1 o2 hI g1 g2=>?_)
 ·simp only[if_neg nlb,if_true]
 ·simp only[if_true]
 ·rw[←e1];exact Heap.get?_push_size _ rfl
 obtain⟨m5,its,ep,hn5,hK5,hB5,hit5,hl5,hz5,hsz5,hfr5,hf5,x1,x2,x3⟩:=hI;dsimp only at hsz5 hfr5 x1 x2 x3⊢;refine hQ2 _ ?_;clear hQ2;refine wpAny_execs_cons (wpAny_Return_some (wpAny_Name (wpAny_loadName_local hk k4 ((hn5.push o1).push o2) hK5 ?_)));haveI e2:∀o o':Obj,((h2.push o).push o').objs.size=s.heap.objs.size+4:=fun o o'=>by rw[Heap.size_push,Heap.size_push,z2]
 rw[e2]at hsz5;refine hQ _ ?_ ((hf5.push g1).push g2) (fun b n1 n2=>?_) x1 x2 x3
 ·show((s5.heap.push o1).push o2).objs.size=_;rw[Heap.size_push,Heap.size_push];exact nAs (fj2 (Y0 (.i (.a X0 (.k 1))) (.a X1 (.k 1286))) [Y2 (.a X0 (.m 5 (.k 0))) (.a (.a X1 (.k 4)) (.m 5 (.k 256)))] rfl hsz5) (fj2 (Y0 (.a X0 (.k 1286)) (.i (.a X1 (.k 1)))) [Y2 (.a (.a X0 (.k 4)) (.m 5 (.k 256))) (.a X1 (.m 5 (.k 0)))] rfl hsz5.symm)
 ·haveI n2': @LT.lt Nat _ b s.heap.objs.size:=n2;show((s5.heap.push o1).push o2).get? b=_;rw[Heap.get?_push_ne _ _ _ (by rw[Heap.size_push];exact nNe (by exact fj3 (Y1 X0 (.i X1)) [Y2 (.a (.a X2 (.k 4)) (.m 5 (.k 256))) (.a X1 (.m 5 (.k 0))),Y1 X0 X2] rfl hsz5.symm n2)),Heap.get?_push_ne _ _ _ (nNe (by exact fj3 (Y1 X0 X1) [Y2 (.a (.a X2 (.k 4)) (.m 5 (.k 256))) (.a X1 (.m 5 (.k 0))),Y1 X0 X2] rfl hsz5.symm n2))];rw[hfr5 b n1 (nNe n2') (nNe (fj3 (Y1 X0 (.i X1)) [Y2 (.a X2 (.k 2)) X1,Y1 X0 X2] rfl z2.symm n2)) (by rw[e2];exact(fj2 (Y1 X0 (.a X1 (.k 4))) [Y1 X0 X1] rfl n2: @LT.lt Nat _ b (s.heap.objs.size+4)))];rw[Heap.get?_push_ne _ _ _ (by rw[e1];exact nNe (by exact fj3 (Y1 X0 (.i X1)) [Y2 (.a X2 (.k 2)) X1,Y1 X0 X2] rfl z2.symm n2)),Heap.get?_push_ne _ _ _ (nNe (by exact fj3 (Y1 X0 X1) [Y2 (.a X2 (.k 2)) X1,Y1 X0 X2] rfl z2.symm n2)),hs2.2 b n1,Heap.get?_push_ne _ _ _ (nNe (by exact fj3 (Y1 X0 X1) [Y2 (.i X2) X1,Y1 X0 X2] rfl z1.symm n2)),hs1.2 b n1,
   Heap.get?_push_ne _ _ _ (nNe n2')]
end
section
variable {prog:Program} {w:World} {A:Around} {E:PS} {s:Shared} {env:Env}
noncomputable def iDict(e:Option (Int×Tok×Int×Tok)):Obj:=match e with
 |none=>{cls:= .type "dict",data:= .dict #[]}
 |some (h,t,v,tv)=>{cls:= .type "dict",data:= .dict #[⟨h,.str "i" t,.int v tv⟩] 1}
theorem xf(h:Int)(t:Tok)(v:Int)(tv:Tok):Obj.putName "i" h (.str "i" t) (.int v tv) (iDict none)=iDict (some (h,t,v,tv)):=by kernel_rfl
theorem xg(h h':Int)(t t':Tok)(v v':Int)(tv tv':Tok):Obj.putName "i" h (.str "i" t) (.int v tv) (iDict (some (h',t',v',tv')))=iDict (some (h',t',v,tv)):=by kernel_rfl
theorem Q6(e:Option (Int×Tok×Int×Tok)):∃es ep,(iDict e).data= .dict es ep∧aRefKeyMayBeTheName "i" es=false:=by
 cases e with
 |none=>exact⟨_,_,rfl,by kernel_rfl⟩
 |some x=>obtain⟨h,t,v,tv⟩:=x;exact⟨_,_,rfl,by kernel_rfl⟩
theorem Gm {h:Heap}{L:Addr}{x:Int}{t:Tok}{a:Int}{tv:Tok}(e:h.get? L=some (iDict (some (x,t,a,tv)))):∃m,h.Ns L m∧m "i" =some (.int a tv):=by
 have hi:h.isNs L=true:=by unfold Heap.isNs;rw[e];kernel_rfl
 refine⟨_,Heap.Ns.of_isNs hi,?_⟩;unfold Heap.nsMap;rw[e];kernel_rfl
theorem J4(hl:env.kindOf "i" =some .local)
  (hp:(env.scope.kind== .class||(env.scope.kind== .module&&env.locals !=env.globals))=false)(ho:s.heap.get? env.locals=some (iDict e))
  (h:∀h' x t tk,Heap.SameBut env.locals s.heap h'→h'.get? env.locals=some (iDict (some (x,t,v,tv)))→Q () {s with heap:=h',toks:=tk}):
  wpAny (model prog w) A (storeName env "i" (.int v tv)) Q E s:=by
 rw[storeName_local hl hp];unfold nsSet;obtain⟨es,ep,hd,hr⟩:=Q6 e;refine wpAny_bind ?_;unfold strHash;refine wpAny_bind (wpAny_askSetting (wpAny_pure (wpAny_bind (wpAny_mkText (wpAny_bind (wpAny_loadPart ho ?_))))));rw[hd];dsimp only;rw[hr];simp only[Bool.false_eq_true,if_false];refine wpAny_updatePart ho ?_;cases e with
 |none=>exact h _ _ _ _ (Heap.SameBut.update ..) ((Heap.get?_update_self _ ho (by rw[xf];rfl)).trans (congrArg some (xf ..)))
 |some q=>obtain⟨h',t',v',tv'⟩:=q;exact h _ _ _ _ (Heap.SameBut.update ..) ((Heap.get?_update_self _ ho (by rw[xg];rfl)).trans (congrArg some (xg ..)))
end
section
variable {prog:Program} {w:World} {A:Around} {E:PS} {s:Shared} {env:Env}
noncomputable def fJ(x y:Int)(tx ty:Tok):Obj:={cls:= .type "tuple",data:= .seq #[.int x tx,.int y ty]}
noncomputable def listObj(xs:Array Value)(n:Nat):Obj:={cls:= .type "list",data:= .seq xs n}
structure sb(s0:Shared)(L acc it:Addr)(n j:Nat)(s:Shared):Prop where
 dict:∃e,s.heap.get? L=some (iDict e)∧(0<j→e≠none)
 list:∃xs:Array Value,s.heap.get? acc=some (listObj xs j)∧xs.size=j∧∀q,q<j→xs[q]?=some (.ref (s0.heap.objs.size+q))
 pairs:∀q,q<j→∃x y tx ty,s.heap.get? (s0.heap.objs.size+q)=some (fJ x y tx ty)
 iter:IsRangeIter s.heap it j ((n:Int)-j) 1
 size:s.heap.objs.size=s0.heap.objs.size+j
 frame:∀b,b≠L→b≠acc→b≠it→b<s0.heap.objs.size→s.heap.get? b=s0.heap.get? b
 full:dY s.heap
 gens:s.gens=s0.gens
 drawn:s.drawn=s0.drawn
 os:s.os=s0.os
theorem D1
  (hh:A.handled=none)(hl:env.kindOf "i" =some .local)(hp:(env.scope.kind== .class||(env.scope.kind== .module&&env.locals !=env.globals))=false)
  (n1:acc≠env.locals)(n2:it≠env.locals)(n3:it≠acc)(lL:env.locals<s0.heap.objs.size)(lacc:acc<s0.heap.objs.size)(lit:it<s0.heap.objs.size)(hn:n≤1000)
  (hElt:∀(s1:Shared) (j:Nat) (x:Int) (t:Tok) (tv:Tok) {E:PS} {Q:PS},j<n→(∀b,b≠env.locals→b≠acc→b≠it→b<s0.heap.objs.size→s1.heap.get? b=s0.heap.get? b)→
   s1.heap.get? env.locals=some (iDict (some (x,t,j,tv)))→
   (∀a b ta tb tk,Q (.ref s1.heap.objs.size) {s1 with heap:=s1.heap.push (fJ a b ta tb),toks:=tk})→wpAny (model prog w) A (eval elt env) Q E s1)
  (h:sb s0 env.locals acc it n 0 s)
  (hR:∀s' o1 o2,sb s0 env.locals acc it n n s'→o1.isFreed=false→o2.isFreed=false→R (.ok .next) {s' with heap:=(s'.heap.push o1).push o2}):
  codeAny (model prog w) A (.compLoop (.ListComp elt [⟨.Name "i" p0,iter,[],0⟩] scope pos) 0 (.ref it) (.ref acc) env) R s:=by
 refine codeAny_compLoop_list (fun k s'=>k≤n∧sb s0 env.locals acc it n (n-k) s') (fun k s' hI=>?_) n ⟨nRe _,by rw[Nat.sub_self];exact h⟩;obtain⟨hk,I⟩:=hI;cases k with
 |zero=>exact pW hh I.iter (fi2 (Y0 (.s X0 X1) (.k 0)) [Y0 X0 (.a X1 (.k 0))] rfl (iOl (lsa n 0))) (fun o1 o2 f1 f2=>hR s' o1 o2 (by simpa using I) f1 f2)
 |succ k=>
  haveI ej:n-(k+1)+1=n-k:=nAs (fj4 (Y0 (.i X0) X1) [Y0 X2 (.a X1 X3),Y2 (.a X0 (.i X3)) X2] rfl (lsa n k) (sac n (k+1) hk)) (fj4 (Y0 X0 (.i X1)) [Y0 X2 (.a X1 (.i X3)),Y2 (.a X0 X3) X2] rfl (lsa n (k+1)) (sac n k (fj2 (Y0 X0 X1) [Y0 (.i X0) X1] rfl hk)));haveI jn:n-(k+1)<n:=fj3 (Y1 X0 X1) [Y2 (.i X0) X2,Y0 X2 X1] rfl ej (nSl n k);generalize hj:n-(k+1)=j at I ej jn;obtain⟨⟨e,hd,he⟩,⟨xs,hx,hxs,hxq⟩,hpr,hit,hsz,hfr,hf,g1,g2,g3⟩:=I;haveI hsz': @Eq Nat s'.heap.objs.size (s0.heap.objs.size+j):=hsz;haveI lL': @LT.lt Nat _ env.locals s0.heap.objs.size:=lL;haveI la': @LT.lt Nat _ acc s0.heap.objs.size:=lacc;haveI li': @LT.lt Nat _ it s0.heap.objs.size:=lit;refine wpAny_pyNext_range_item hit (fi2 (Y1 (.k 0) (.s X0 X1)) [Y1 X1 X0] rfl (iOt jn)) (fun h1 hit1 hs1=>?_);refine wpAny_assign_Name (J4 hl hp (e:=e) ((hs1.2 _ (Ne.symm n2)).trans hd) (fun h2 x t tk hs2 hd2=>?_));refine hElt _ j x t _ jn (fun b b1 b2 b3 b4=>?_) hd2 (fun a b ta tb tk=>?_)
  ·exact(hs2.2 b b1).trans ((hs1.2 b b3).trans (hfr b b1 b2 b3 b4))
  dsimp only at hs2⊢;have z2:h2.objs.size=s0.heap.objs.size+j:=by rw[hs2.1,hs1.1];exact hsz
  haveI hx2:(h2.push (fJ a b ta tb)).get? acc=some (listObj xs j):=Heap.get?_push_of_some _ ((hs2.2 acc n1).trans ((hs1.2 acc (Ne.symm n3)).trans hx));refine append_at hx2 (fun h3 hs3 hx3=>⟨k,Nat.lt_succ_self _,fj2 (Y0 X0 X1) [Y0 (.i X0) X1] rfl hk,?_⟩) (by rw[sizeLine_eq];exact fj3 (Y0 X0 (.k 16777216)) [Y0 X1 (.k 1000),Y1 X2 X1,Y2 X0 X2] rfl hn jn hxs);haveI z3:h3.objs.size=s0.heap.objs.size+j+1:=by rw[hs3.1,Heap.size_push,z2]
  haveI z2': @Eq Nat h2.objs.size (s0.heap.objs.size+j):=z2;have up:∀b:Nat,b≠acc→b<s0.heap.objs.size+j→h3.get? b=h2.get? b:=fun b b1 b2=>by
   rw[hs3.2 b b1];exact Heap.get?_push_ne _ _ _ (nNe (fj4 (Y1 X0 X1) [Y2 (.a X2 X3) X1,Y1 X0 (.a X2 X3)] rfl z2.symm b2))
  rw[←ej];refine⟨⟨_,(up _ (Ne.symm n1) (fj3 (Y1 X0 (.a X1 X2)) [Y1 X0 X1] rfl lL)).trans hd2,fun _=>by simp⟩,⟨_,hx3,by rw[Array.size_push,hxs],fun q hq=>?_⟩,fun q hq=>?_,?_,?_,fun b b1 b2 b3 b4=>?_,?_,g1,g2,g3⟩
  ·by_cases e1:q=j
   ·subst e1;rw[←hxs,Array.getElem?_push_size,z2,hxs]
   ·rw[Array.getElem?_push_lt (by lia),←Array.getElem?_eq_getElem];exact hxq q (by lia)
  ·by_cases e1:q=j
   ·subst e1;refine⟨a,b,ta,tb,?_⟩;show h3.get? _=_;rw[hs3.2 _ (Nat.ne_of_gt (by exact fj3 (Y1 X0 (.a X1 X2)) [Y1 X0 X1] rfl lacc)),←z2];exact Heap.get?_push_size _ rfl
   ·obtain⟨a',b',ta',tb',q1⟩:=hpr q (by lia);refine⟨a',b',ta',tb',?_⟩;show h3.get? _=_;rw[up _ (Nat.ne_of_gt (by exact fj3 (Y1 X0 (.a X1 X2)) [Y1 X0 X1] rfl lacc)) (by lia),hs2.2 _ (Nat.ne_of_gt (by exact fj3 (Y1 X0 (.a X1 X2)) [Y1 X0 X1] rfl lL)),hs1.2 _ (Nat.ne_of_gt (by exact fj3 (Y1 X0 (.a X1 X2)) [Y1 X0 X1] rfl lit))];exact q1
  ·show h3.get? it=_;rw[up it n3 (fj3 (Y1 X0 (.a X1 X2)) [Y1 X0 X1] rfl lit),hs2.2 it n2];haveI q1:((j:Int)+1)=((j+1:Nat):Int):=iAs (fi1 (Y0 (.i X0) (.i X0)) [] rfl) (fi1 (Y0 (.i X0) (.i X0)) [] rfl);haveI q2:((n:Int)-j-1)=(n:Int)-((j+1:Nat):Int):=iAs (fi2 (Y0 (.s (.s X0 X1) (.k 1)) (.s X0 (.i X1))) [] rfl) (fi2 (Y0 (.s X0 (.i X1)) (.s (.s X0 X1) (.k 1))) [] rfl);rw[q1,q2]at hit1;exact hit1
  ·show h3.objs.size=_;rw[z3];exact nAs (fj2 (Y0 (.i (.a X0 X1)) (.a X0 (.i X1))) [] rfl) (fj2 (Y0 (.a X0 (.i X1)) (.i (.a X0 X1))) [] rfl)
  ·haveI b5: @LT.lt Nat _ b s0.heap.objs.size:=b4;show h3.get? b=_;rw[up b b2 (fj3 (Y1 X0 (.a X1 X2)) [Y1 X0 X1] rfl b4),hs2.2 b b1,hs1.2 b b3];exact hfr b b1 b2 b3 b4
  ·exact(((hf.same hs1 (gq hit1)).same hs2 (gq hd2)).push rfl).same hs3 (gq hx3)
end
section
variable {prog:Program} {w:World} {A:Around} {E:PS} {s:Shared} {env:Env}
theorem Gn {items}(hh:A.handled=none)
  (hit:s.heap.IsListIter it l i)(hl:s.heap.IsList l items)(hx:items[i]?=none)
  (hQ:∀h' o1 o2,Heap.SameBut it s.heap h'→(h'.get? it).isSome=true→o1.isFreed=false→o2.isFreed=false→Q none {s with heap:=(h'.push o1).push o2}):wpAny (model prog w) A (pyNext (.ref it)) Q E s:=by
 obtain⟨o,ho,hc,hd⟩:=id hit;obtain⟨ol,hol,_,nl,hdl⟩:=hl;unfold pyNext;refine wpAny_bind (wpAny_attempt (wpAny_callSpecial?_slot (name:=Str.ofString "__next__") hit.typeIs slot_listiter_next
  (wpAny_call_entry slot_listiter_next hit.typeIs entry_listiter_next ?_ (args_listiter_next _))))
 show wpAny _ _ (field (.ref it) 0>>=_) _ _ s;refine wpAny_bind (wpAny_field ho hd (x:= .ref l) rfl ?_);show wpAny _ _ (if(Value.ref l==Value.none)=true then _ else _) _ _ s;rw[if_neg (show ¬((Value.ref l==Value.none)=true)from Bool.false_ne_true)];show wpAny _ _ (field (.ref it) 1>>=_) _ _ s;refine wpAny_bind (wpAny_field ho hd (x:= .int i 0) rfl ?_);show wpAny _ _ (seqItems? (.ref l)>>=_) _ _ s;refine wpAny_bind (wpAny_seqItems hol hdl ?_);simp only[Int.toNat_natCast,hx];refine wpAny_bind (wpAny_rule (wpAny_bind (wpAny_setField ho hd (by simp) ?_)));show wpAny _ _ (newExc (.type "StopIteration") []>>=_) _ _ _;refine wpAny_bind ?_;simp only[newExc,newTuple];refine wpAny_bind (wpAny_newObj_type ?_ (by size_fits));refine wpAny_bind (m:=firstArgMember _ _) (wpAny_of_eq (a:=Value.none) (by rfl) ?_);refine wpAny_newObj_type ?_ (by size_fits);simp only[raiseNew];refine wpAny_bind (wpAny_handled ?_);rw[show A.in1.handled=none from hh];refine wpAny_bind (wpAny_pure (wpAny_throw ?_));refine wpAny_bind (wpAny_isInstance (T:="StopIteration") (b:=true) ⟨_,Heap.get?_push_size _ rfl,rfl⟩ isSubtype_stop ?_);exact wpAny_pure (hQ _ _ _ (Heap.SameBut.update ..) (gq (Heap.get?_update_self _ ho (Obj.isFreed_of_fields (Obj.data_mapFields hd _)))) rfl rfl)
theorem vy:entryFor table "dict.update.loop" =some Builtin.«dict.update.loop»:=entryFor_of_tree (by kernel_rfl)
theorem IX {id:String}{args:Args}{b:Builtin}(h:entryFor table id=some b):(model prog w).den (.builtin id args)=b args:=by
 show(match entryFor table id with|some b=>b args|none=>_)=_;rw[h]
structure BL(s0:Shared)(d l it:Addr)(xs:Array Value)(j:Nat)(s:Shared):Prop where
 map:∃f,s.heap.IntMap d f
 le:s.heap.DictLe d j
 iter:s.heap.IsListIter it l j
 size:s.heap.objs.size=s0.heap.objs.size
 frame:∀b,b≠d→b≠it→s.heap.get? b=s0.heap.get? b
 full:dY s.heap
 gens:s.gens=s0.gens
 drawn:s.drawn=s0.drawn
 os:s.os=s0.os
theorem Go(hh:A.handled=none)(hn:xs.size=n)(hn':n≤1000)(n1:d≠it)(n2:l≠d)(n3:l≠it)
  (hl:s0.heap.IsList l xs)(hp:∀q,q<n→∃a x y tx ty,xs[q]?=some (.ref a)∧a≠d∧a≠it∧s0.heap.get? a=some (fJ x y tx ty))
  (hR:∀s' h' o1 o2,BL s0 d l it xs n s'→Heap.SameBut it s'.heap h'→(h'.get? it).isSome=true→o1.isFreed=false→o2.isFreed=false→R (.ok (.ret .none)) {s' with heap:=(h'.push o1).push o2}):
  ∀(r j:Nat) (s:Shared),j+r=n→BL s0 d l it xs j s→codeAny (model prog w) A (.builtin "dict.update.loop" ⟨[.ref d,.ref it,rawInt j,.none],[]⟩) R s:=by
 intro r
 induction r with
 |zero=>
  intro j s hj I;obtain⟨hm,hle,hit,hsz,hfr,hf,g1,g2,g3⟩:=id I;have hl':s.heap.IsList l xs:=by
   obtain⟨o,q,rest⟩:=hl;exact⟨o,(hfr l n2 n3).trans q,rest⟩
  refine codeAny_of_tree ?_;rw[IX vy];have hh':(A.under (.builtin "dict.update.loop" ⟨[.ref d,.ref it,rawInt j,.none],[]⟩)).handled=none:=hh;generalize A.under (.builtin "dict.update.loop" ⟨[.ref d,.ref it,rawInt j,.none],[]⟩)=A' at hh';unfold Builtin.«dict.update.loop»;dsimp only;refine wpAny_bind (Gn hh' hit hl' (by rw[Array.getElem?_eq_none (by exact fj3 (Y0 X0 X1) [Y2 X0 X2,Y2 X2 (.a X1 (.k 0))] rfl hn hj.symm)]) (fun h' o1 o2 hs hi f1 f2=>?_));dsimp only;unfold Builtin.Dict.addKeywords;refine wpAny_bind (wpAny_pure (wpAny_pure ?_));haveI e:j=n:=nAs (fj2 (Y0 X0 X1) [Y2 (.a X0 (.k 0)) X1] rfl hj) (fj2 (Y0 X0 X1) [Y2 X0 (.a X1 (.k 0))] rfl hj.symm);exact hR s h' o1 o2 (e▸I) hs hi f1 f2
 |succ r ih=>
  intro j s hj I;obtain⟨⟨f,hm⟩,hle,hit,hsz,hfr,hf,g1,g2,g3⟩:=id I;haveI hl':s.heap.IsList l xs:=by
   obtain⟨o,q,rest⟩:=hl;exact⟨o,(hfr l n2 n3).trans q,rest⟩
  obtain⟨a,x,y,tx,ty,hx,a1,a2,ha⟩:=hp j (fj3 (Y1 X0 X1) [Y2 (.a X0 (.i X2)) X1] rfl hj);refine codeAny_of_tree ?_;rw[IX vy];haveI hh':(A.under (.builtin "dict.update.loop" ⟨[.ref d,.ref it,rawInt j,.none],[]⟩)).handled=none:=hh;generalize A.under (.builtin "dict.update.loop" ⟨[.ref d,.ref it,rawInt j,.none],[]⟩)=A' at hh';unfold Builtin.«dict.update.loop»;dsimp only;refine wpAny_bind (wpAny_pyNext_list_item hit hl' hx (fun h1 hit1 hs1=>?_));dsimp only;haveI ha1:h1.get? a=some (fJ x y tx ty):=by
   rw[hs1.2 a a2,hfr a a1 a2];exact ha
  refine wpAny_bind (wpAny_holding (wpAny_bind (wpAny_tryCatch ?_)));unfold Builtin.Dict.pairItems;refine wpAny_bind (wpAny_typeOf (T:="tuple") ⟨_,ha1,rfl⟩ ?_);simp only[show((Value.type "tuple" ==Value.type "list")||(Value.type "tuple" ==Value.type "tuple"))=true by decide,if_true];refine wpAny_bind (wpAny_seqItems ha1 rfl (wpAny_pure ?_));dsimp only[Option.getD];refine wpAny_holding ?_;haveI hm1:h1.IntMap d f:=hm.sameBut hs1 n1;haveI hle1:h1.DictLe d j:=fun o es ep q r=>hle o es ep ((hs1.2 d n1).symm.trans q) r
  refine wpAny_dictSet_int_le hm1 hle1 (by rw[sizeLine_eq];exact fj3 (Y0 X0 (.k 16777216)) [Y0 X1 (.k 1000),Y2 (.a X0 (.i X2)) X1] rfl hn' hj) (fun h2 hm2 hle2 hs2=>?_);refine wpAny_pure ⟨by kernel_rfl,?_⟩;haveI e1:rawInt ((j:Int)+1)=rawInt ((j+1:Nat):Int):=by simp[rawInt]
  rw[e1];refine ih (j+1) _ (nAs (fj3 (Y0 (.a (.i X0) X1) X2) [Y2 (.a X0 (.i X1)) X2] rfl hj) (fj3 (Y0 X0 (.a (.i X1) X2)) [Y2 X0 (.a X1 (.i X2))] rfl hj.symm)) ⟨⟨_,hm2⟩,hle2,?_,(hs2.1.trans hs1.1).trans hsz,fun b b1 b2=>(hs2.2 b b1).trans ((hs1.2 b b2).trans (hfr b b1 b2)),?_,g1,g2,g3⟩
  ·obtain⟨o,q,rest⟩:=hit1;exact⟨o,(hs2.2 it (Ne.symm n1)).trans q,rest⟩
  ·haveI q1:(h1.get? it).isSome=true:=by obtain⟨o,q,_⟩:=hit1;exact gq q
   haveI q2:(h2.get? d).isSome=true:=by obtain⟨o,es,ep,q,_⟩:=hm2;exact gq q
   exact(hf.same hs1 q1).same hs2 q2
end
section
variable {prog:Program} {w:World} {A:Around} {E:PS} {s:Shared} {env:Env}
noncomputable abbrev BM(nW:Str)(p1 p2 p3 p4 p5 p6 p7:Pos):Expr:= .BinOp (.BinOp (.Constant (.int 2) 0 p1) .Pow (.BinOp (.Name nW p2) .Sub (.Name "i" p3) p4) p5) .Sub (.Constant (.int 1) 0 p6) p7
theorem vz
  (hk:env.scope.kind= .function)(ki:env.kindOf "i" =some .local)(kW:env.kindOf nW=some .globalImplicit)(dW:(nW==("__debug__":Str))=false)
  (hg:s.heap.Ns env.globals mg)(gW:mg nW=some (.int W tw))(hn:s.heap.Ns env.locals m)(hi:m "i" =some (.int j tv))(h0:0≤W-j)(h1:W-j≤1000)
  (hQ:∀a ta tk,Q (.int a ta) {s with toks:=tk}):wpAny (model prog w) A (eval (BM nW p1 p2 p3 p4 p5 p6 p7) env) Q E s:=by
 refine wpAny_BinOp (wpAny_BinOp (wpAny_Constant_int (wpAny_BinOp (Name_function_global hk kW (loadGlobal_global hg gW ?_) dW))));refine wpAny_Name (wpAny_loadName_local hk ki hn hi ?_);refine sub_int ?_;refine pow_int_small h0 (fi2 (Y0 (.s X0 X1) (.k 1000000)) [Y0 (.s X0 X1) (.k 1000)] rfl h1) (by decide) ?_;exact wpAny_Constant_int (sub_int (hQ _ _ _))
noncomputable abbrev BN(nM nW:Str)(p1 p2 p3 p4 p5 p6 p7 q1 q2:Pos):Expr:= .BinOp (.Name nM q1) .BitXor (BM nW p1 p2 p3 p4 p5 p6 p7) q2
theorem vA
  (hk:env.scope.kind= .function)(ki:env.kindOf "i" =some .local)(kW:env.kindOf nW=some .globalImplicit)(dW:(nW==("__debug__":Str))=false)
  (kM:env.kindOf nM=some .globalImplicit)(dM:(nM==("__debug__":Str))=false)(gM:mg nM=some (.int M tm))
  (hg:s.heap.Ns env.globals mg)(gW:mg nW=some (.int W tw))(hn:s.heap.Ns env.locals m)(hi:m "i" =some (.int j tv))(h0:0≤W-j)(h1:W-j≤1000)
  (hQ:∀a ta tk,Q (.int a ta) {s with toks:=tk}):wpAny (model prog w) A (eval (BN nM nW p1 p2 p3 p4 p5 p6 p7 q1 q2) env) Q E s:=by
 refine wpAny_BinOp (Name_function_global hk kM (loadGlobal_global hg gM ?_) dM);exact vz hk ki kW dW hg gW hn hi h0 h1 (fun a ta tk=>xor_int (hQ _ _ _))
theorem xh(hk:env.scope.kind= .function)(ki:env.kindOf "i" =some .local)
  (hn:s.heap.Ns env.locals m)(hi:m "i" =some (.int j tv))(hQ:∀tk,Q (.int j tv) {s with toks:=tk}):wpAny (model prog w) A (eval (.Name "i" p) env) Q E s:=
 wpAny_Name (wpAny_loadName_local hk ki hn hi (hQ s.toks))
theorem pX
  (h1:∀{Q:PS},(∀a ta tk,Q (.int a ta) {s with toks:=tk})→wpAny (model prog w) A (eval e1 env) Q E s)
  (h2:∀(tk:Nat) {Q:PS},(∀a ta tk,Q (.int a ta) {s with toks:=tk})→wpAny (model prog w) A (eval e2 env) Q E {s with toks:=tk})
  (n1:starEach [e1,e2] env=(false,eval e1 env)::starEach [e2] env)(n2:starEach [e2] env=(false,eval e2 env)::starEach [] env)
  (hQ:∀a b ta tb tk,Q (.ref s.heap.objs.size) {s with heap:=s.heap.push (fJ a b ta tb),toks:=tk}):wpAny (model prog w) A (eval (.Tuple [e1,e2] k pos) env) Q E s:=by
 refine wpAny_Tuple (spliced_more ?_ n1);refine h1 (fun a ta tk=>spliced_more ?_ n2);exact h2 tk (fun b tb tk'=>spliced_none ⟨by rw[sizeLine_eq];exact blE rfl,hQ a b ta tb tk'⟩)
theorem D2 {elt iter:Expr}{scope:Scope}{p0 pos:Pos}{acc it:Addr}{n:Nat}{R:PR}{mg:Str→Option Value}
  (hh:A.handled=none)(hl:env.kindOf "i" =some .local)(hp:(env.scope.kind== .class||(env.scope.kind== .module&&env.locals !=env.globals))=false)
  (n1:acc≠env.locals)(n2:it≠env.locals)(n3:it≠acc)(n4:env.globals≠env.locals)(n5:env.globals≠acc)(n6:env.globals≠it)(hn:n≤1000)
  (hg:s.heap.Ns env.globals mg)(hd:s.heap.get? env.locals=some (iDict none))(ha:s.heap.get? acc=some (listObj #[] 0))(hi:IsRangeIter s.heap it 0 n 1)(hf:dY s.heap)
  (hElt:∀(s1:Shared) (j:Nat) (tv:Tok) (m:Str→Option Value) {E:PS} {Q:PS},j<n→s1.heap.Ns env.globals mg→s1.heap.Ns env.locals m→m "i" =some (.int j tv)→
   (∀a b ta tb tk,Q (.ref s1.heap.objs.size) {s1 with heap:=s1.heap.push (fJ a b ta tb),toks:=tk})→wpAny (model prog w) A (eval elt env) Q E s1)
  (hR:∀s' o1 o2,sb s env.locals acc it n n s'→o1.isFreed=false→o2.isFreed=false→R (.ok .next) {s' with heap:=(s'.heap.push o1).push o2}):
  codeAny (model prog w) A (.compStart (.ListComp elt [⟨.Name "i" p0,iter,[],0⟩] scope pos) 0 (.ref it) (.ref acc) env) R s:=by
 haveI I:sb s env.locals acc it n 0 s:=⟨⟨none,hd,fun h=>absurd h (Nat.lt_irrefl _)⟩,⟨#[],ha,rfl,fun q h=>absurd h (nNz _)⟩,fun q h=>absurd h (nNz _),by simpa using hi,rfl,fun _ _ _ _ _=>rfl,hf,rfl,rfl,rfl⟩;haveI key:codeAny (model prog w) A (.compLoop (.ListComp elt [⟨.Name "i" p0,iter,[],0⟩] scope pos) 0 (.ref it) (.ref acc) env) R s:=by
  refine D1 hh hl hp n1 n2 n3 (Heap.lt_size hd) (Heap.lt_size ha) (Heap.lt_size hi) hn (fun s1 j x t tv E Q hj hfr hd1 hQ=>?_) I hR;obtain⟨m,hm,hmi⟩:=Gm hd1;exact hElt s1 j tv m hj (hg.at fun o ho=>(hfr _ n4 n5 n6 hg.lt).trans ho) hm hmi hQ
 exact codeAny_compStart_list key (wpAny_pyIter_rangeiter hi key)
end
noncomputable def codeAt(t:Thread):Code:=match t.cur with
 | .call c _ _ _ _=>c
 | .pure fin=>match fin with
  | .again c=>c
  | .done _=>default
 |_=>default
noncomputable def stkAt(t:Thread):List Frame:=match t.cur with
 | .call _ h g l k=> .ret k h g l t.code t.pos []::t.stack
 |_=>t.stack
noncomputable def goes(t:Thread):Bool:=match t.cur with
 | .call .. =>true
 | .pure fin=>match fin with
  | .again c=>c.quiet
  | .done _=>false
 |_=>false
theorem BO(h:goes t=true):Comes M s t s ⟨M.den (codeAt t),codeAt t,t.pos,stkAt t⟩:=by
 obtain⟨cur,code,pos,stack⟩:=t;cases cur with
 |pure fin=>
  cases fin with
  |again c=>exact .step (step_again M s code pos stack c h) (.refl _ _)
  |done f=>exact ff h
 |call c h' g l k=>exact .step (step_call M s code pos stack c h' g l k) (.refl _ _)
 |_=>exact ff h
noncomputable def fill:Nat→BT→Nat→(Nat→Obj)→BT
 |0,T,_,_=>T
 |k+1,T,n,g=>fill k (T.ins n (g n)) (n+1) g
theorem pY(o:Obj):∀(T:BT) (n:Nat),(∀i,i<n→(T.get i).isSome=true)→((T.ins n o).get n).isSome=true
 | .nil,n,h=>by
  cases n with
  |zero=>rfl
  |succ n=>have:=h 0 (Nat.succ_pos _);cases this
 | .node v l r,n,h=>by
  rw[BT.ins_node]
  by_cases h0:n=0
  ·rw[if_pos h0,BT.get_node,if_pos h0];rfl
  ·rw[if_neg h0]
   by_cases h1:n%2=1
   ·rw[if_pos h1,BT.get_node,if_neg h0,if_pos h1];refine pY o l (n / 2) fun i hi=>?_
    have:=h (2*i+1) (fj4 (Y1 (.i (.m 2 X0)) X1) [(2,1,X0,X2),Y2 (.a (.m 2 X2) X3) X1] rfl hi (Nat.div_add_mod n 2));rw[BT.get_node,if_neg (by exact fun hz=>fj1 (0,3,.k 0,.k 0) [Y2 (.i (.m 2 X0)) (.k 0)] rfl hz),if_pos (by lia),show(2*i+1) / 2=i by exact nAs (fj3 (2,0,X0,X1) [Y2 (.a (.m 2 X0) X2) (.i (.m 2 X1))] rfl (Nat.div_add_mod (2*i+1) 2)) (fj3 (2,0,X0,X1) [Y2 (.i (.m 2 X0)) (.a (.m 2 X1) X2),Y1 X2 (.k 2)] rfl (Nat.div_add_mod (2*i+1) 2).symm (Nat.mod_lt (2*i+1) (y:=2) (by decide)))]at this;exact this
   ·rw[if_neg h1,BT.get_node,if_neg h0,if_neg h1];refine pY o r (n / 2-1) fun i hi=>?_
    have:=h (2*i+2) (fj5 (Y1 (.a (.m 2 X0) (.k 2)) X1) [(2,1,X0,X2),Y2 (.a (.m 2 X3) X4) X1,(2,2,.i X2,X3)] rfl hi (Nat.div_add_mod n 2) (sac (n / 2) 1 (fj3 (Y0 (.k 1) X0) [Y1 X1 X2,Y0 X2 X0] rfl hi (nSl (n / 2) 1))));rw[BT.get_node,if_neg (by exact fun hz=>fj1 (0,3,.k 0,.k 0) [Y2 (.a (.m 2 X0) (.k 2)) (.k 0)] rfl hz),if_neg (by lia),show(2*i+2) / 2-1=i by exact nAs (fj4 (2,0,X0,X1) [Y2 (.a (.m 2 X2) X3) (.a (.m 2 X1) (.k 2)),(2,2,.i X0,X2)] rfl (Nat.div_add_mod (2*i+2) 2) (sac ((2*i+2) / 2) 1 (fj3 (2,0,.k 1,X0) [Y2 (.a (.m 2 X1) (.k 2)) (.a (.m 2 X0) X2),Y1 X2 (.k 2)] rfl (Nat.div_add_mod (2*i+2) 2).symm (Nat.mod_lt (2*i+2) (y:=2) (by decide))))) (fj4 (2,0,X0,X1) [(2,0,X2,.i X1),Y2 (.a (.m 2 X0) (.k 2)) (.a (.m 2 X2) X3),Y1 X3 (.k 2)] rfl (lsa ((2*i+2) / 2) 1) (Nat.div_add_mod (2*i+2) 2).symm (Nat.mod_lt (2*i+2) (y:=2) (by decide)))]at this;exact this
theorem oh(g:Nat→Obj):∀(k:Nat) (T:BT) (n:Nat),(∀i,i<n→(T.get i).isSome=true)→∀i,(fill k T n g).get i=if n≤i∧i<n+k then some (g i)else T.get i
 |0,T,n,_,i=>by rw[if_neg (by lia)];rfl
 |k+1,T,n,h,i=>by
  have e:=BT.get_ins (g n) T n (pY (g n) T n h);have:=oh g k (T.ins n (g n)) (n+1) (fun j hj=>by
   rw[e]
   by_cases q:j=n
   ·rw[if_pos q];rfl
   ·rw[if_neg q];exact h j (by lia)) i
  show(fill k (T.ins n (g n)) (n+1) g).get i=_;rw[this,e]
  by_cases a:n+1≤i∧i<n+1+k
  ·rw[if_pos a,if_pos (⟨fj2 (Y0 X0 X1) [Y0 (.i X0) X1] rfl a.1,fj3 (Y1 X0 (.a X1 (.i X2))) [Y1 X0 (.a (.i X1) X2)] rfl a.2⟩)]
  ·rw[if_neg a]
   by_cases b:i=n
   ·subst b;rw[if_pos rfl,if_pos (⟨fj1 (Y0 X0 X0) [] rfl,fj2 (Y1 X0 (.a X0 (.i X1))) [] rfl⟩)]
   ·rw[if_neg b,if_neg (by lia)]
noncomputable def setAll(g:Nat→Obj):List Nat→BT→BT
 |[],T=>T
 |a::r,T=>setAll g r (T.set a fun _=>g a)
theorem gG(g:Nat→Obj):∀(l:List Nat) (T:BT) (i:Nat),(T.get i).isSome=true→(setAll g l T).get i=if i∈l then some (g i)else T.get i
 |[],T,i,_=>by rw[if_neg (by simp)];rfl
 |a::r,T,i,h=>by
  have e:=BT.get_set (fun _=>g a) T a i;show(setAll g r (T.set a fun _=>g a)).get i=_
  by_cases q:i=a
  ·subst q;rw[if_pos rfl]at e;have e':(T.set i fun _=>g i).get i=some (g i):=by
    rw[e];cases hq:T.get i with
    |none=>rw[hq]at h;cases h
    |some o=>rfl
   rw[gG g r _ i (by rw[e'];rfl),e']
   by_cases m:i∈r
   ·rw[if_pos m,if_pos (.tail _ m)]
   ·rw[if_neg m,if_pos (.head _)]
  ·rw[if_neg q]at e;rw[gG g r _ i (by rw[e];exact h),e]
   by_cases m:i∈r
   ·rw[if_pos m,if_pos (.tail _ m)]
   ·rw[if_neg m,if_neg (by simp[q,m])]
noncomputable def behind(T:BT)(own:List Nat)(n k:Nat)(g:Nat→Obj):BT:=fill k (setAll g own T) n g
noncomputable def treeFull(T:BT)(n:Nat):Bool:=(List.range n).all fun i=>(T.get i).isSome
theorem kV(h:treeFull T n=true):∀i,i<n→(T.get i).isSome=true:=fun i hi=>List.all_eq_true.mp h i (List.mem_range.mpr hi)
theorem lh(h:alive o=some o'):o'=o:=by
 unfold alive at h;split at h
 ·cases h
 ·cases h;rfl
theorem zy(hT:treeFull T n=true)(hlife:h'.life=life)(hsz:h'.objs.size=n+k)
  (hfr:∀b,b<n→b∉own→h'.get? b=(absHeap T n life).get? b)(hal:∀b,b<n→b∉own→((absHeap T n life).get? b).isSome=true):
  h'=absHeap (behind T own n k fun i=>(h'.objs[i]?).getD default) (n+k) life:=by
 have ht:=kV hT;have hs:∀i,i<n→((setAll (fun i=>(h'.objs[i]?).getD default) own T).get i).isSome=true:=fun i hi=>by
  rw[gG _ _ _ _ (ht i hi)]
  by_cases m:i∈own
  ·rw[if_pos m];rfl
  ·rw[if_neg m];exact ht i hi
 obtain⟨objs,lf⟩:=h';simp only at hlife hsz;subst hlife;have:objs=(absHeap (behind T own n k fun i=>(objs[i]?).getD default) (n+k) lf).objs:=by
  refine Array.ext_getElem? fun i=>?_
  rw[absHeap_at]
  by_cases hi:i<n+k
  ·rw[if_pos hi];have hi':i<objs.size:=by rw[hsz];exact hi
   rw[Array.getElem?_eq_getElem hi'];show some objs[i]=some (((fill k (setAll (fun i=>(objs[i]?).getD default) own T) n fun i=>(objs[i]?).getD default).get i).getD default);rw[oh _ _ _ _ hs];have hg:(objs[i]?).getD default=objs[i]:=by rw[Array.getElem?_eq_getElem hi'];rfl
   by_cases a:n≤i∧i<n+k
   ·rw[if_pos a];exact congrArg some hg.symm
   ·rw[if_neg a];have hin:i<n:=by lia
    rw[gG _ _ _ _ (ht i hin)]
    by_cases m:i∈own
    ·rw[if_pos m];exact congrArg some hg.symm
    ·rw[if_neg m];obtain⟨o,ho⟩:=oSm (ht i hin);have e1:=hfr i hin m;have e2:=hal i hin m;rw[abs_get hin ho]at e1 e2;obtain⟨o',ho'⟩:=oSm e2;have eo:=lh ho';subst eo;rw[ho']at e1;rw[ho];have:objs[i]?=some o':=by
      unfold Heap.get? at e1;revert e1;show(match objs[i]? with|some ⟨_,_,.freed,_⟩=>none|o=>o)=some o'→_;intro e1;split at e1
      ·cases e1
      ·exact e1
     rw[Array.getElem?_eq_getElem hi']at this;exact this
  ·rw[if_neg hi];exact Array.getElem?_eq_none (by rw[hsz];exact(nNl hi))
 exact congrArg (fun x=>(⟨x,lf⟩:Heap)) this
noncomputable def objAt(s:SharedT)(a:Nat):Obj:=(s.tree.get a).getD default
noncomputable def liveAt(s:SharedT)(a:Nat):Bool:=Nat.blt a s.n&&match s.tree.get a with
 |some o=>match alive o with
  |some _=>true
  |none=>false
 |none=>false
theorem BP(h:liveAt s a=true):s.abs.heap.get? a=some (objAt s a):=by
 unfold liveAt at h;obtain⟨h1,h2⟩:=cS h;have lt:a<s.n:=blE h1;unfold objAt;cases q:s.tree.get a with
 |none=>rw[q]at h2;cases h2
 |some o=>
  rw[q]at h2;have e:=abs_get (life:=s.life) lt q;show(absHeap s.tree s.n s.life).get? a=_;rw[e];dsimp only at h2;cases r:alive o with
  |none=>rw[r]at h2;cases h2
  |some o'=>rw[lh r];rfl
noncomputable def nsO(o:Obj):Bool:=match o.data with
 | .dict es _=>es.all (fun e=>match e.key with| .str _ _=>true|_=>false)
 |_=>false
noncomputable def nsAt(o:Obj)(name:Str):Option Value:=match o.data with
 | .dict es _=>nsFind es name
 |_=>none
theorem wI {h:Heap}{a:Addr}{o:Obj}(e:h.get? a=some o)(hn:nsO o=true):h.Ns a (nsAt o):=by
 have:=Heap.Ns.of_isNs (h:=h) (a:=a) (by unfold Heap.isNs;rw[e];exact hn);have e2:h.nsMap a=nsAt o:=by
  funext x
  unfold Heap.nsMap nsAt;rw[e];rfl
 rwa[e2]at this
noncomputable def plainStk(stk:List Frame):Bool:=(topHandled stk).isNone&&Nat.ble (frameCount (stk.map Frame.where_)) 500&&Nat.ble (unitsOf (stk.map Frame.where_)) 1000
noncomputable abbrev A5:Around:={depth:=500,units:=1000}
theorem zz(h:plainStk stk=true):(Ctx.of c stk).Below A5:=by
 unfold plainStk at h;obtain⟨h12,h3⟩:=cS h;obtain⟨h1,h2⟩:=cS h12;refine⟨Option.isNone_iff_eq_none.mp h1,blE h2,?_,?_,blE h3⟩
 ·intro l hl;exact absurd hl (by simp)
 ·intro g hg;exact absurd hg (by simp)
noncomputable abbrev pw:Program:=PySem.Challenge.pw_az0026_01
noncomputable def nk(i:Nat):List Stmt:=match pw.main.body[i]? with
 |some (.FunctionDef _ _ b _ _ _ _ _ _ _)=>b
 |_=>[]
theorem Q7:nk 8=[
  .Assign [.Name "lookup" ⟨13,4,13,10⟩] (.List [] ⟨13,13,13,15⟩) ⟨13,4,13,15⟩,
  .Assign [.Name "bits_per_byte" ⟨14,4,14,17⟩] (.Call (.Name "range" ⟨14,20,14,25⟩) [.Constant (.int 7) 0 ⟨14,26,14,27⟩,.UnaryOp .USub (.Constant (.int 1) 0 ⟨14,30,14,31⟩) ⟨14,29,14,31⟩,.UnaryOp .USub (.Constant (.int 1) 0 ⟨14,34,14,35⟩) ⟨14,33,14,35⟩] [] ⟨14,20,14,36⟩) ⟨14,4,14,36⟩,
  .For (.Name "num" ⟨15,8,15,11⟩) (.Call (.Name "range" ⟨15,15,15,20⟩) [.Constant (.int 256) 0 ⟨15,21,15,24⟩] [] ⟨15,15,15,25⟩) [
   .Assign [.Name "bits" ⟨16,8,16,12⟩] (.BinOp (.Constant (.int 8) 0 ⟨16,15,16,16⟩) .Mult (.List [.Constant .none 0 ⟨16,20,16,24⟩] ⟨16,19,16,25⟩) ⟨16,15,16,25⟩) ⟨16,8,16,25⟩,
   .For (.Name "i" ⟨17,12,17,13⟩) (.Name "bits_per_byte" ⟨17,17,17,30⟩) [
    .Assign [.Subscript (.Name "bits" ⟨18,12,18,16⟩) (.Name "i" ⟨18,17,18,18⟩) ⟨18,12,18,19⟩] (.Subscript (.Constant (.str "01") 0 ⟨18,22,18,26⟩) (.BinOp (.Name "num" ⟨18,27,18,30⟩) .BitAnd (.Constant (.int 1) 0 ⟨18,33,18,34⟩) ⟨18,27,18,34⟩) ⟨18,22,18,35⟩) ⟨18,12,18,35⟩,
    .AugAssign (.Name "num" ⟨19,12,19,15⟩) .RShift (.Constant (.int 1) 0 ⟨19,20,19,21⟩) ⟨19,12,19,21⟩] [] ⟨17,8,19,21⟩,
   .Expr (.Call (.Attribute (.Name "lookup" ⟨20,8,20,14⟩) "append" ⟨20,8,20,21⟩) [.Call (.Attribute (.Constant (.str "") 0 ⟨20,22,20,24⟩) "join" ⟨20,22,20,29⟩) [.Name "bits" ⟨20,30,20,34⟩] [] ⟨20,22,20,35⟩] [] ⟨20,8,20,36⟩) ⟨20,8,20,36⟩] [] ⟨15,4,20,36⟩,
  .Return (some (.Name "lookup" ⟨21,11,21,17⟩)) ⟨21,4,21,17⟩]:=by kernel_rfl
noncomputable def aL(i:Nat):Expr:=match pw.main.body[i]? with
 |some (.Assign _ (.Call _ [c] _ _) _)=>c
 |_=> .Constant .none 0 ⟨0,0,0,0⟩
noncomputable def iU(e:Expr):Expr:=match e with
 | .ListComp _ [⟨_,i,_,_⟩] _ _=>i
 |e=>e
noncomputable def hS(e:Expr):Scope:=match e with
 | .ListComp _ _ s _=>s
 |_=>pw.main.scope
noncomputable def kj(e:Expr):Pos:=match e with
 | .ListComp _ _ _ p=>p
 |_=>⟨0,0,0,0⟩
theorem Mi:aL 31= .ListComp (.Tuple [(.Name "i" ⟨239,32,239,33⟩),(.BinOp (.Name "max_int_ipv4" ⟨239,35,239,47⟩) .BitXor (.BinOp (.BinOp (.Constant (.int 2) 0 ⟨239,50,239,51⟩) .Pow (.BinOp (.Name "width_ipv4" ⟨239,56,239,66⟩) .Sub (.Name "i" ⟨239,69,239,70⟩) ⟨239,56,239,70⟩) ⟨239,50,239,71⟩) .Sub (.Constant (.int 1) 0 ⟨239,74,239,75⟩) ⟨239,50,239,75⟩) ⟨239,35,239,75⟩)] 0 ⟨239,31,239,76⟩) [⟨.Name "i" ⟨239,81,239,82⟩,iU (aL 31),[],0⟩] (hS (aL 31)) (kj (aL 31)):=by kernel_rfl
theorem Mj:aL 32= .ListComp (.Tuple [(.BinOp (.Name "max_int_ipv4" ⟨240,32,240,44⟩) .BitXor (.BinOp (.BinOp (.Constant (.int 2) 0 ⟨240,47,240,48⟩) .Pow (.BinOp (.Name "width_ipv4" ⟨240,53,240,63⟩) .Sub (.Name "i" ⟨240,66,240,67⟩) ⟨240,53,240,67⟩) ⟨240,47,240,68⟩) .Sub (.Constant (.int 1) 0 ⟨240,71,240,72⟩) ⟨240,47,240,72⟩) ⟨240,32,240,72⟩),(.Name "i" ⟨240,74,240,75⟩)] 0 ⟨240,31,240,76⟩) [⟨.Name "i" ⟨240,81,240,82⟩,iU (aL 32),[],0⟩] (hS (aL 32)) (kj (aL 32)):=by kernel_rfl
theorem Mk:aL 33= .ListComp (.Tuple [(.BinOp (.BinOp (.Constant (.int 2) 0 ⟨241,33,241,34⟩) .Pow (.BinOp (.Name "width_ipv4" ⟨241,39,241,49⟩) .Sub (.Name "i" ⟨241,52,241,53⟩) ⟨241,39,241,53⟩) ⟨241,33,241,54⟩) .Sub (.Constant (.int 1) 0 ⟨241,57,241,58⟩) ⟨241,33,241,58⟩),(.Name "i" ⟨241,60,241,61⟩)] 0 ⟨241,32,241,62⟩) [⟨.Name "i" ⟨241,67,241,68⟩,iU (aL 33),[],0⟩] (hS (aL 33)) (kj (aL 33)):=by kernel_rfl
theorem Ml:aL 56= .ListComp (.Tuple [(.Name "i" ⟨344,32,344,33⟩),(.BinOp (.Name "max_int_ipv6" ⟨344,35,344,47⟩) .BitXor (.BinOp (.BinOp (.Constant (.int 2) 0 ⟨344,50,344,51⟩) .Pow (.BinOp (.Name "width_ipv6" ⟨344,56,344,66⟩) .Sub (.Name "i" ⟨344,69,344,70⟩) ⟨344,56,344,70⟩) ⟨344,50,344,71⟩) .Sub (.Constant (.int 1) 0 ⟨344,74,344,75⟩) ⟨344,50,344,75⟩) ⟨344,35,344,75⟩)] 0 ⟨344,31,344,76⟩) [⟨.Name "i" ⟨344,81,344,82⟩,iU (aL 56),[],0⟩] (hS (aL 56)) (kj (aL 56)):=by kernel_rfl
theorem Mm:aL 57= .ListComp (.Tuple [(.BinOp (.Name "max_int_ipv6" ⟨345,32,345,44⟩) .BitXor (.BinOp (.BinOp (.Constant (.int 2) 0 ⟨345,47,345,48⟩) .Pow (.BinOp (.Name "width_ipv6" ⟨345,53,345,63⟩) .Sub (.Name "i" ⟨345,66,345,67⟩) ⟨345,53,345,67⟩) ⟨345,47,345,68⟩) .Sub (.Constant (.int 1) 0 ⟨345,71,345,72⟩) ⟨345,47,345,72⟩) ⟨345,32,345,72⟩),(.Name "i" ⟨345,74,345,75⟩)] 0 ⟨345,31,345,76⟩) [⟨.Name "i" ⟨345,81,345,82⟩,iU (aL 57),[],0⟩] (hS (aL 57)) (kj (aL 57)):=by kernel_rfl
theorem Mn:aL 58= .ListComp (.Tuple [(.BinOp (.BinOp (.Constant (.int 2) 0 ⟨346,33,346,34⟩) .Pow (.BinOp (.Name "width_ipv6" ⟨346,39,346,49⟩) .Sub (.Name "i" ⟨346,52,346,53⟩) ⟨346,39,346,53⟩) ⟨346,33,346,54⟩) .Sub (.Constant (.int 1) 0 ⟨346,57,346,58⟩) ⟨346,33,346,58⟩),(.Name "i" ⟨346,60,346,61⟩)] 0 ⟨346,32,346,62⟩) [⟨.Name "i" ⟨346,67,346,68⟩,iU (aL 58),[],0⟩] (hS (aL 58)) (kj (aL 58)):=by kernel_rfl
section
variable {prog:Program} {w:World} {s:Shared} {env:Env}
theorem Q8
  (hin:interactive env=false)(hk:env.scope.kind= .function)(k1:env.kindOf "bits" =some .local)(k2:env.kindOf "i" =some .local)(k3:env.kindOf "num" =some .local)
  (k4:env.kindOf "lookup" =some .local)(k5:env.kindOf "bits_per_byte" =some .local)(k6:env.kindOf "range" =some .globalImplicit)
  (hn:s.heap.Ns env.locals fun _=>none)(hg:s.heap.Ns env.globals mg)(hgr:mg "range" =none)(hb:s.heap.Ns env.builtins mb)(hbr:mb "range" =some (.type "range"))
  (ng:env.globals≠env.locals)(nb:env.builtins≠env.locals)(hf:dY s.heap)
  (hR:∀s',s'.heap.objs.size=s.heap.objs.size+1286→dY s'.heap→(∀b,b≠env.locals→b<s.heap.objs.size→s'.heap.get? b=s.heap.get? b)→
   s'.gens=s.gens→s'.drawn=s.drawn→s'.os=s.os→R (.ok (.ret (.ref s.heap.objs.size))) s'):
  codeAny (model prog w) A5 (.func (nk 8) env) R s:=by
 refine codeAny_func ?_;rw[Q7];refine Q5 (Q:=fun f s'=>R (.ok (.ret (match f with| .ret v=>v|_=> .none))) s') hin ⟨_,rfl⟩ ⟨_,rfl⟩ rfl hk k1 k2 k3 k4 k5 k6 hn hg hgr hb hbr ng nb hf ?_;intro s' h1 h2 h3 h4 h5 h6;exact hR s' h1 h2 h3 h4 h5 h6
structure pZ(env:Env)(nM nW:Str):Prop where
 kind:env.scope.kind= .function
 ki:env.kindOf "i" =some .local
 kM:env.kindOf nM=some .globalImplicit
 kW:env.kindOf nW=some .globalImplicit
noncomputable def El(p:Program)(w:World)(env:Env)(elt:Expr)(nM nW:Str)(M W:Int)(tm tw:Tok)(mg:Str→Option Value):Prop:=∀(s1:Shared) (j:Nat) (tv:Tok) (m:Str→Option Value) {E:PS} {Q:PS},0≤W-j→W-j≤1000→s1.heap.Ns env.globals mg→mg nM=some (.int M tm)→mg nW=some (.int W tw)→s1.heap.Ns env.locals m→m "i" =some (.int j tv)→
   (∀a b ta tb tk,Q (.ref s1.heap.objs.size) {s1 with heap:=s1.heap.push (fJ a b ta tb),toks:=tk})→wpAny (model p w) A5 (eval elt env) Q E s1
theorem Gp {nM nW:Str}{i:Nat}{elt:Expr}{p0:Pos}{acc it:Addr}{n:Nat}{W M:Int}{tw tm:Tok}{R:PR}{mg:Str→Option Value}
  (hc:aL i= .ListComp elt [⟨.Name "i" p0,iU (aL i),[],0⟩] (hS (aL i)) (kj (aL i)))
  (he:El prog w env elt nM nW M W tm tw mg)
  (C:pZ env nM nW)(n1:acc≠env.locals)(n2:it≠env.locals)(n3:it≠acc)(n4:env.globals≠env.locals)(n5:env.globals≠acc)(n6:env.globals≠it)(hn:n≤1000)
  (hW:(n:Int)=W+1)(gM:mg nM=some (.int M tm))(gW:mg nW=some (.int W tw))
  (hg:s.heap.Ns env.globals mg)(hd:s.heap.get? env.locals=some (iDict none))(ha:s.heap.get? acc=some (listObj #[] 0))(hi:IsRangeIter s.heap it 0 n 1)(hf:dY s.heap)
  (hR:∀s' o1 o2,sb s env.locals acc it n n s'→o1.isFreed=false→o2.isFreed=false→R (.ok .next) {s' with heap:=(s'.heap.push o1).push o2}):
  codeAny (model prog w) A5 (.compStart (aL i) 0 (.ref it) (.ref acc) env) R s:=by
 rw[hc];exact D2 rfl C.ki (by rw[C.kind];rfl) n1 n2 n3 n4 n5 n6 hn hg hd ha hi hf (fun s1 j tv m E Q hj h1 h2 h3 h4=>he s1 j tv m (fi3 (Y0 (.k 0) (.s X0 X1)) [Y2 X2 (.i X0),Y1 X1 X2] rfl hW (iOt hj)) (fi3 (Y0 (.s X0 X1) (.k 1000)) [Y0 X2 (.k 1000),Y2 (.i X0) X2,Y0 (.k 0) X1] rfl (iOl hn) hW.symm (iNn j)) h1 gM gW h2 h3 h4) hR
theorem Mo(C:pZ env nM nW)(dW:(nW==("__debug__":Str))=false)(dM:(nM==("__debug__":Str))=false):
  El prog w env (.Tuple [.Name "i" q3,BN nM nW p1 p2 p3 p4 p5 p6 p7 q1 q2] 0 q4) nM nW M W tm tw mg:=
 fun s1 j tv m E Q h0 h1 hg gM gW hn hi hQ=>pX (fun hq=>xh C.kind C.ki hn hi (fun tk=>hq _ _ _))
  (fun tk Q hq=>vA (s:={s1 with toks:=tk}) C.kind C.ki C.kW dW C.kM dM gM hg gW hn hi h0 h1 hq) rfl rfl hQ
theorem Mp(C:pZ env nM nW)(dW:(nW==("__debug__":Str))=false)(dM:(nM==("__debug__":Str))=false):
  El prog w env (.Tuple [BN nM nW p1 p2 p3 p4 p5 p6 p7 q1 q2,.Name "i" q3] 0 q4) nM nW M W tm tw mg:=
 fun s1 j tv m E Q h0 h1 hg gM gW hn hi hQ=>pX (fun hq=>vA C.kind C.ki C.kW dW C.kM dM gM hg gW hn hi h0 h1 hq)
  (fun tk Q hq=>xh (s:={s1 with toks:=tk}) C.kind C.ki hn hi (fun tk=>hq _ _ _)) rfl rfl hQ
theorem Mq(C:pZ env nM nW)(dW:(nW==("__debug__":Str))=false):
  El prog w env (.Tuple [BM nW p1 p2 p3 p4 p5 p6 p7,.Name "i" q3] 0 q4) nM nW M W tm tw mg:=
 fun s1 j tv m E Q h0 h1 hg gM gW hn hi hQ=>pX (fun hq=>vz C.kind C.ki C.kW dW hg gW hn hi h0 h1 hq)
  (fun tk Q hq=>xh (s:={s1 with toks:=tk}) C.kind C.ki hn hi (fun tk=>hq _ _ _)) rfl rfl hQ
end
theorem s7:∀(n:Nat) (s s':Shared) (t t':Thread),runNI den p w n s t= .running s' t'→s'.heap.life=s.heap.life
 |0,s,s',t,t',h=>by cases h;rfl
 |n+1,s,s',t,t',h=>by
  unfold runNI at h;cases hs:stepI den p w s t with
  |halt o s₂=>rw[hs]at h;cases h
  |go s₂ t₂=>
   rw[hs]at h;refine(s7 n s₂ s' t₂ t' h).trans ?_;unfold stepI at hs;split at hs
   ·cases hs
   ·have:(stepK den p w s t).forget=(step den p w s t).forget:=stepK_forget den p w s t;rw[hs]at this;cases hr:step den p w s t with
    |halt o s₃=>rw[hr]at this;cases this
    |go s₃ t₃=>
     rw[hr]at this;haveI e:=step_life den p w s s₃ t t₃ hr;simp only[Step.forget,Step.go.injEq]at this;haveI h1:=this.1;have:s₂.heap=s₃.heap:=by
      have:=congrArg Shared.heap h1;simpa[Shared.forget]using this
     rw[this];exact e
theorem lk(h:Comes M s t s' t'):s'.heap.life=s.heap.life:=
 let⟨n,hn⟩:=h;s7 n s s' t t' hn
noncomputable def know2(g:Nat→Obj)(a:Nat)(o:Obj)(b:Nat)(o':Obj)(i:Nat):Obj:=match Nat.beq i a with
 |true=>o
 |false=>match Nat.beq i b with
  |true=>o'
  |false=>g i
theorem Gq(ha:g a=o)(hb:g b=o'):know2 g a o b o'=g:=by
 funext i
 unfold know2;cases h:Nat.beq i a with
 |true=>rw[nEb h];exact ha.symm
 |false=>
  cases h':Nat.beq i b with
  |true=>rw[nEb h'];exact hb.symm
  |false=>rfl
structure eh(S:SharedT):Prop where
 gens:S.gens= #[]
 full:dY S.abs.heap
 tree:treeFull S.tree S.n=true
theorem ij(S:SharedT):S.abs.heap.objs.size=S.n:=absHeap_size ..
theorem lN(hG:eh S)(hl:s'.heap.life=S.abs.heap.life)(hz:s'.heap.objs.size=S.n+k)
  (hfr:∀b,b<S.n→b∉own→s'.heap.get? b=S.abs.heap.get? b)(g1:s'.gens=S.abs.gens)(g2:s'.drawn=S.abs.drawn)(g3:s'.os=S.abs.os):
  s'=(⟨behind S.tree own S.n k fun i=>(s'.heap.objs[i]?).getD default,S.n+k,S.life,#[],S.drawn,s'.toks,S.os⟩:SharedT).abs:=by
 haveI e:=zy (T:=S.tree) (own:=own) (n:=S.n) (k:=k) (life:=S.life) (h':=s'.heap) hG.tree hl hz hfr (fun b hb _=>hG.full b (by rw[ij];exact hb));obtain⟨h,g,d,t,o⟩:=s';simp only at e g1 g2 g3;haveI g1':g= #[]:=g1.trans hG.gens;subst g1' g2 g3;show(⟨h,#[],S.drawn,t,S.os⟩:Shared)=⟨absHeap _ _ _,#[],S.drawn,t,S.os⟩;exact congrArg (fun x=>(⟨x,#[],S.drawn,t,S.os⟩:Shared)) e
theorem mN {h:Heap}{a:Addr}{o:Obj}(e:h.get? a=some o):(h.objs[a]?).getD default=o:=by
 unfold Heap.get? at e;split at e
 ·cases e
 ·rename_i x y;rw[e];rfl
noncomputable def aft(S:SharedT)(own:List Nat)(k:Nat)(g:Nat→Obj)(tk:Nat):SharedT:=⟨behind S.tree own S.n k g,S.n+k,S.life,#[],S.drawn,tk,S.os⟩
noncomputable def thr(v:Flow)(c:Code)(p:Pos)(stk:List Frame):Thread:=⟨.pure (.done v),c,p,stk⟩
theorem BQ {w:World}{S:SharedT}{th:Thread}{c:Code}{R:PR}(hgo:goes th=true)(hst:plainStk (stkAt th)=true)(hc:codeAt th=c)
  (h:codeAny (model pw w) A5 c R S.abs):∃r s' c' p',Comes (model pw w) S.abs th s' ⟨leafOf r,c',p',stkAt th⟩∧R r s':=by
 subst hc;obtain⟨r,s',c',p',hcm,hr⟩:=BF (p:=th.pos) h (zz hst);exact⟨r,s',c',p',(BO hgo).trans hcm,hr⟩
theorem sd(hG:eh S):treeFull (behind S.tree own S.n k g) (S.n+k)=true:=by
 refine List.all_eq_true.mpr fun i hi=>?_
 have hi':=List.mem_range.mp hi;have ht:=kV hG.tree;have hs:∀j,j<S.n→((setAll g own S.tree).get j).isSome=true:=fun j hj=>by
  rw[gG _ _ _ _ (ht j hj)];split
  ·rfl
  ·exact ht j hj
 show((fill _ _ _ _).get i).isSome=true;rw[oh _ _ _ _ hs];split
 ·rfl
 ·rename_i q;exact hs i (by omega)
inductive J5(w:World)(S:SharedT)(th:Thread)(it acc n:Nat)(env:Env):Prop
 |mk (g:Nat→Obj) (tk:Nat) (c':Code) (p':Pos) (xs:Array Value) (e:Int×Tok×Int×Tok) (h0:Comes (model pw w) S.abs th (aft S [it,acc,env.locals] (n+2) (know2 g acc (listObj xs n) env.locals (iDict (some e))) tk).abs (thr .next c' p' (stkAt th))) (h1:xs.size=n) (h2:(∀q,q<n→xs[q]?=some (.ref (S.n+q)))) (h3:(∀q,q<n→∃x y tx ty,g (S.n+q)=fJ x y tx ty)) (h4:eh (aft S [it,acc,env.locals] (n+2) (know2 g acc (listObj xs n) env.locals (iDict (some e))) tk)) (h5:g acc=listObj xs n) (h6:g env.locals=iDict (some e))
theorem D3 {w:World}{S:SharedT}{th:Thread}{i it acc n:Nat}{env:Env}{nM nW:Str}{elt:Expr}{p0:Pos}{W M:Int}{tw tm:Tok}{mg:Str→Option Value}
  (hG:eh S)(hgo:goes th=true)(hst:plainStk (stkAt th)=true)(hcode:codeAt th= .compStart (aL i) 0 (.ref it) (.ref acc) env)
  (hc:aL i= .ListComp elt [⟨.Name "i" p0,iU (aL i),[],0⟩] (hS (aL i)) (kj (aL i)))
  (he:El pw w env elt nM nW M W tm tw mg)
  (C:pZ env nM nW)(n1:acc≠env.locals)(n2:it≠env.locals)(n3:it≠acc)(n4:env.globals≠env.locals)(n5:env.globals≠acc)(n6:env.globals≠it)(hn:n≤1000)(hn0:0<n)
  (hW:(n:Int)=W+1)(gM:mg nM=some (.int M tm))(gW:mg nW=some (.int W tw))
  (hg:S.abs.heap.Ns env.globals mg)(hd:S.abs.heap.get? env.locals=some (iDict none))(ha:S.abs.heap.get? acc=some (listObj #[] 0))(hi:IsRangeIter S.abs.heap it 0 n 1):
  J5 w S th it acc n env:=by
 obtain⟨r,s',c',p',hcm,hr⟩:=BQ (w:=w) (S:=S) (R:=fun r s''=>r= .ok .next∧∃s' o1 o2,sb S.abs env.locals acc it n n s'∧o1.isFreed=false∧o2.isFreed=false∧s''={s' with heap:=(s'.heap.push o1).push o2}) hgo hst hcode
  (Gp hc he C n1 n2 n3 n4 n5 n6 hn hW gM gW hg hd ha hi hG.full (fun s' o1 o2 I f1 f2=>⟨rfl,s',o1,o2,I,f1,f2,rfl⟩))
 obtain⟨rfl,s1,o1,o2,I,f1,f2,rfl⟩:=hr;obtain⟨⟨e,hd1,he1⟩,⟨xs,hx,hxs,hxq⟩,hpr,hit,hsz,hfr,hf,g1,g2,g3⟩:=I;have zS:S.abs.heap.objs.size=S.n:=ij S;rw[zS]at hsz hxq hpr hfr;haveI hsz': @Eq Nat s1.heap.objs.size (S.n+n):=hsz;have hz:((s1.heap.push o1).push o2).objs.size=S.n+(n+2):=by rw[Heap.size_push,Heap.size_push];exact nAs (fj3 (Y0 (.i (.a X0 (.k 1))) (.a X1 (.a X2 (.k 2)))) [Y2 X0 (.a X1 X2)] rfl hsz) (fj3 (Y0 (.a X0 (.a X1 (.k 2))) (.i (.a X2 (.k 1)))) [Y2 (.a X0 X1) X2] rfl hsz.symm)
 have up:∀b:Nat,b<S.n+n→((s1.heap.push o1).push o2).get? b=s1.heap.get? b:=fun b hb=>by
  rw[Heap.get?_push_ne _ _ _ (by rw[Heap.size_push];exact nNe (by exact fj4 (Y1 X0 (.i X1)) [Y2 (.a X2 X3) X1,Y1 X0 (.a X2 X3)] rfl hsz.symm hb)),Heap.get?_push_ne _ _ _ (nNe (by exact fj4 (Y1 X0 X1) [Y2 (.a X2 X3) X1,Y1 X0 (.a X2 X3)] rfl hsz.symm hb))]
 have ltL: @LT.lt Nat _ env.locals S.n:=by have:=Heap.lt_size hd;rw[zS]at this;exact this
 haveI ltA: @LT.lt Nat _ acc S.n:=by have:=Heap.lt_size ha;rw[zS]at this;exact this
 cases e with
 |none=>exact absurd rfl (he1 hn0)
 |some e=>
  have es:=lN (S:=S) (own:=[it,acc,env.locals]) (k:=n+2) hG (lk hcm) hz (fun b hb hm=>by
   simp only[List.mem_cons,List.not_mem_nil,or_false,not_or]at hm;exact(up b (fj3 (Y1 X0 (.a X1 X2)) [Y1 X0 X1] rfl hb)).trans (hfr b hm.2.2 hm.2.1 hm.1 hb)) g1 g2 g3
  have k1:(fun i=>(((s1.heap.push o1).push o2).objs[i]?).getD default) acc=listObj xs n:=mN ((up acc (fj3 (Y1 X0 (.a X1 X2)) [Y1 X0 X1] rfl ltA)).trans hx);have k2:(fun i=>(((s1.heap.push o1).push o2).objs[i]?).getD default) env.locals=iDict (some e):=mN ((up _ (fj3 (Y1 X0 (.a X1 X2)) [Y1 X0 X1] rfl ltL)).trans hd1);have ek:=Gq (g:=fun i=>(((s1.heap.push o1).push o2).objs[i]?).getD default) (a:=acc) (b:=env.locals) k1 k2;refine⟨fun i=>(((s1.heap.push o1).push o2).objs[i]?).getD default,s1.toks,c',p',xs,e,?_,hxs,hxq,fun q hq=>?_,?_,k1,k2⟩
  ·unfold aft;rw[ek];exact es▸hcm
  ·obtain⟨x,y,tx,ty,h⟩:=hpr q hq;exact⟨x,y,tx,ty,mN ((up _ (fj3 (Y1 (.a X0 X1) (.a X0 X2)) [Y1 X1 X2] rfl hq)).trans h)⟩
  ·unfold aft;rw[ek];refine⟨rfl,?_,?_⟩
   ·have:dY ((s1.heap.push o1).push o2):=(hf.push f1).push f2;have e2:=congrArg Shared.heap es;dsimp only at e2;rw[←e2];exact this
   ·exact sd hG
theorem Gr {w:World}{S:SharedT}{th:Thread}{d l it n:Nat}{xs:Array Value}{xk:Nat}
  (hG:eh S)(hgo:goes th=true)(hst:plainStk (stkAt th)=true)(hcode:codeAt th= .builtin "dict.update.loop" ⟨[.ref d,.ref it,rawInt (0:Nat),.none],[]⟩)
  (hn:xs.size=n)(hn':n≤1000)(n1:d≠it)(n2:l≠d)(n3:l≠it)
  (hd:S.abs.heap.get? d=some {cls:= .type "dict",data:= .dict #[]})(hl:S.abs.heap.get? l=some (listObj xs xk))(hi:S.abs.heap.get? it=some {cls:= .type "list_iterator",data:= .fields #[.ref l,.int 0 0]})
  (hp:∀q,q<n→∃a x y tx ty,xs[q]?=some (.ref a)∧a≠d∧a≠it∧S.abs.heap.get? a=some (fJ x y tx ty)):
  ∃(g:Nat→Obj) (tk:Nat) (c':Code) (p':Pos),Comes (model pw w) S.abs th (aft S [d,it] 2 g tk).abs (thr (.ret .none) c' p' (stkAt th))∧eh (aft S [d,it] 2 g tk):=by
 haveI I0:BL S.abs d l it xs 0 S.abs:=by
  refine⟨⟨fun _=>none,_,#[],0,hd,rfl,rfl,by intro e he;simp at he,fun k=>rfl⟩,fun o es ep ho h=>?_,⟨_,hi,rfl,rfl⟩,rfl,fun _ _ _=>rfl,hG.full,rfl,rfl,rfl⟩;rw[hd]at ho;cases ho;cases h;exact nRe _
 obtain⟨r,s',c',p',hcm,hr⟩:=BQ (w:=w) (S:=S) (R:=fun r s''=>r= .ok (.ret .none)∧∃s' h' o1 o2,BL S.abs d l it xs n s'∧Heap.SameBut it s'.heap h'∧(h'.get? it).isSome=true∧o1.isFreed=false∧o2.isFreed=false∧s''={s' with heap:=(h'.push o1).push o2}) hgo hst hcode
  (Go (A:=A5) rfl hn hn' n1 n2 n3 ⟨_,hl,rfl,xk,rfl⟩ hp (fun s' h' o1 o2 I q1 q2 f1 f2=>⟨rfl,s',h',o1,o2,I,q1,q2,f1,f2,rfl⟩) n 0 S.abs (nAs (fj1 (Y0 (.a (.k 0) X0) X0) [] rfl) (fj1 (Y0 X0 (.a (.k 0) X0)) [] rfl)) I0)
 obtain⟨rfl,s1,h1,o1,o2,I,hs,hi1,f1,f2,rfl⟩:=hr;obtain⟨hm,hle,hit,hsz,hfr,hf,g1,g2,g3⟩:=I;have zS:S.abs.heap.objs.size=S.n:=ij S;have hz1: @Eq Nat h1.objs.size S.n:=hs.1.trans (hsz.trans zS);have hz:((h1.push o1).push o2).objs.size=S.n+2:=by rw[Heap.size_push,Heap.size_push,hz1]
 have es:=lN (S:=S) (own:=[d,it]) (k:=2) hG (lk hcm) hz (fun b hb hm=>by
  simp only[List.mem_cons,List.not_mem_nil,or_false,not_or]at hm;show((h1.push o1).push o2).get? b=_;haveI hb': @LT.lt Nat _ b S.n:=hb;rw[Heap.get?_push_ne _ _ _ (by rw[Heap.size_push,hz1];exact nNe (fj2 (Y1 X0 (.i X1)) [Y1 X0 X1] rfl hb)),Heap.get?_push_ne _ _ _ (by rw[hz1];exact nNe hb'),hs.2 b hm.2];exact hfr b hm.1 hm.2) g1 g2 g3
 refine⟨fun i=>(((h1.push o1).push o2).objs[i]?).getD default,s1.toks,c',p',es▸hcm,rfl,?_,sd hG⟩;have:dY ((h1.push o1).push o2):=((hf.same hs hi1).push f1).push f2;haveI e2:=congrArg Shared.heap es;dsimp only at e2;show dY (aft S [d,it] 2 (fun i=>(((h1.push o1).push o2).objs[i]?).getD default) s1.toks).abs.heap;unfold aft;rw[←e2];exact this
theorem D4 {K:Nat}(hK:1286=K){w:World}{S:SharedT}{th:Thread}{env:Env}{mg mb:Str→Option Value}
  (hG:eh S)(hgo:goes th=true)(hst:plainStk (stkAt th)=true)(hcode:codeAt th= .func (nk 8) env)
  (hin:interactive env=false)(hk:env.scope.kind= .function)(k1:env.kindOf "bits" =some .local)(k2:env.kindOf "i" =some .local)(k3:env.kindOf "num" =some .local)
  (k4:env.kindOf "lookup" =some .local)(k5:env.kindOf "bits_per_byte" =some .local)(k6:env.kindOf "range" =some .globalImplicit)
  (hn:S.abs.heap.Ns env.locals fun _=>none)(hg:S.abs.heap.Ns env.globals mg)(hgr:mg "range" =none)(hb:S.abs.heap.Ns env.builtins mb)(hbr:mb "range" =some (.type "range"))
  (ng:env.globals≠env.locals)(nb:env.builtins≠env.locals):
  ∃(g:Nat→Obj) (tk:Nat) (c':Code) (p':Pos),Comes (model pw w) S.abs th (aft S [env.locals] K g tk).abs (thr (.ret (.ref S.n)) c' p' (stkAt th))∧eh (aft S [env.locals] K g tk):=by
 haveI zS:S.abs.heap.objs.size=S.n:=ij S;haveI key:codeAny (model pw w) A5 (.func (nk 8) env) (fun r s''=>r= .ok (.ret (.ref S.n))∧s''.heap.objs.size=S.n+K∧dY s''.heap∧(∀b,b≠env.locals→b<S.n→s''.heap.get? b=S.abs.heap.get? b)∧s''.gens=S.abs.gens∧s''.drawn=S.abs.drawn∧s''.os=S.abs.os) S.abs:=by
  refine Q8 hin hk k1 k2 k3 k4 k5 k6 hn hg hgr hb hbr ng nb hG.full ?_;intro s' a b c d e f;rw[zS]at a c;exact⟨by rw[zS],by rw[a,hK],b,c,d,e,f⟩
 obtain⟨r,s',c',p',hcm,hr⟩:=BQ hgo hst hcode key;obtain⟨rfl,hz,hf,hfr,g1,g2,g3⟩:=hr;haveI es:=lN (S:=S) (own:=[env.locals]) (k:=K) hG (lk hcm) hz (fun b hb hm=>by
  simp only[List.mem_cons,List.not_mem_nil,or_false]at hm;exact hfr b hm hb) g1 g2 g3
 refine⟨fun i=>(s'.heap.objs[i]?).getD default,s'.toks,c',p',es▸hcm,rfl,?_,sd hG⟩;haveI e2:=congrArg Shared.heap es
 try dsimp only at e2
 show dY (aft S [env.locals] K (fun i=>(s'.heap.objs[i]?).getD default) s'.toks).abs.heap;unfold aft;rw[←e2];exact hf
noncomputable def an(b:List Stmt)(i:Nat):Stmt:=match b[i]? with
 |some s=>s
 |none=> .Pass ⟨0,0,0,0⟩
noncomputable def aF(i:Nat):List Stmt:=match an pw.main.body i with
 | .ClassDef _ _ _ b _ _ _ _ _ _ _=>b
 |_=>[]
noncomputable def ll:Stmt→Arguments
 | .FunctionDef _ a _ _ _ _ _ _ _ _=>a
 |_=>⟨[],[],none,[],[],none,[]⟩
noncomputable def ce:Stmt→List Stmt
 | .FunctionDef _ _ b _ _ _ _ _ _ _=>b
 |_=>[]
noncomputable def bb:Stmt→Scope
 | .FunctionDef _ _ _ _ _ _ s _ _ _=>s
 |_=>pw.main.scope
noncomputable def nlq(l:List Nat):List Nat:=l
noncomputable def ob(c:Value)(d:Data):Obj:={cls:=c,dict:=none,data:=d,slots:= #[]}
noncomputable def fnO(f:FuncData):Obj:=ob (.type "function") (.func f)
noncomputable def fdm(τ:Nat→Tok)(n q:Str)(st:Stmt)(m:Value)(c:Addr)(cl:List (Str×Addr):=[])(df:Value:= .none)(ct:Value:= .none)(dc:Value:= .none):FuncData:={name:=n,qualname:=q,params:=ll st,body:= .stmts (ce st),scope:=bb st,globals:=3,closure:=cl,defaults:=df,kwdefaults:= .none,doc:=dc,pyModule:=m,annotations:=none,code:= .ref c,closureTuple:=ct,builtins:=0}
noncomputable def cdO(τ:Nat→Tok)(n q:Str)(t u:Nat)(l a b c d f:Int)(r:Addr)(x y z w:Value):Obj:=ob (.type "code") (.fields #[.str n (τ t),.str q (τ (t+1)),.str "/claim/cut.py" (τ (t+2)),.int l 0,.int a 0,.int b 0,.int c 0,.int d 0,.ref r,.bool true,.int f 0,.ref (r+1),x,y,z,w,.int (Int.ofNat (τ u)) 0,.int l 0,.str "/claim/cut.py" (τ (u+1))])
noncomputable def se(τ:Nat→Tok)(n q:Str)(t u:Nat)(l a b c d f:Int)(r:Addr):Obj:=cdO τ n q t u l a b c d f r .none .none .none (.ref (r+2))
noncomputable def dO(τ:Nat→Tok)(n q:Str)(t u:Nat)(l a b c d f:Int)(r:Addr):Obj:=cdO τ n q t u l a b c d f r .none (.ref (r+2)) (.ref (r+3)) (.ref (r+4))
noncomputable def en(P:Params)(c:List Nat)(t:Tok)(v:Value):DictEntry:=⟨PyData.keyHash P ⟨⟨c⟩⟩,.str ⟨⟨c⟩⟩ t,v⟩
def nq0:=nlq [116,121,112,101,46,95,95,115,117,98,99,108,97,115,115,101,115,95,95,46,69,120,99,101,112,116,105,111,110,46,48]
def nq1:=nlq [116,121,112,101,46,95,95,115,117,98,99,108,97,115,115,101,115,95,95,46,69,120,99,101,112,116,105,111,110,46,110]
def nq2:=nlq [95,95,110,97,109,101,95,95]
def nq3:=nlq [95,95,100,111,99,95,95]
def nq4:=nlq [95,95,112,97,99,107,97,103,101,95,95]
def nq5:=nlq [95,95,108,111,97,100,101,114,95,95]
def nq6:=nlq [95,95,115,112,101,99,95,95]
def nq7:=nlq [95,95,97,110,110,111,116,97,116,105,111,110,115,95,95]
def nq8:=nlq [95,95,98,117,105,108,116,105,110,115,95,95]
def nq9:=nlq [95,95,102,105,108,101,95,95]
def Uk:=nlq [95,95,99,97,99,104,101,100,95,95]
def Ul:=nlq [95,119,97,108,108]
def BR:=nlq [73,78,69,84,95,80,84,79,78]
def Gs:=nlq [90,69,82,79,70,73,76,76]
def Gu:=nlq [78,79,72,79,83,84]
def Gv:=nlq [73,78,69,84,95,65,84,79,78]
def uA:=nlq [65,100,100,114,70,111,114,109,97,116,69,114,114,111,114]
def Um:=nlq [98,121,116,101,115,95,116,111,95,98,105,116,115]
def Un:=nlq [66,89,84,69,83,95,84,79,95,66,73,84,83]
def Gw:=nlq [105,110,116,95,116,111,95,119,111,114,100,115]
def Uo:=nlq [105,110,116,95,116,111,95,119,111,114,100,115,95,115,116,114,97,116,101,103,121]
def Gx:=nlq [105,110,116,95,116,111,95,98,105,116,115]
def Uq:=nlq [105,110,116,95,116,111,95,98,105,116,115,95,115,116,114,97,116,101,103,121]
def Gy:=nlq [65,70,95,73,78,69,84]
def Mr:=nlq [65,70,95,73,78,69,84,54]
def Ur:=nlq [105,110,101,116,95,110,116,111,97]
def Us:=nlq [95,99,111,109,112,97,99,116,95,105,112,118,54,95,116,111,107,101,110,115]
def Ut:=nlq [105,110,101,116,95,110,116,111,112]
def Ms:=nlq [95,105,110,101,116,95,112,116,111,110,95,97,102,95,105,110,101,116]
def Mt:=nlq [105,110,101,116,95,112,116,111,110]
def Uu:=nlq [95,97,116,111,110,95,110,117,109,98,101,114]
def Mu:=nlq [105,110,101,116,95,97,116,111,110]
def Uv:=nlq [119,105,100,116,104,95,105,112,118,52]
def Uw:=nlq [119,111,114,100,95,115,105,122,101,95,105,112,118,52]
def Ux:=nlq [102,97,109,105,108,121,95,110,97,109,101,95,105,112,118,52]
def Uy:=nlq [118,101,114,115,105,111,110,95,105,112,118,52]
def Uz:=nlq [109,97,120,95,105,110,116,95,105,112,118,52]
def UA:=nlq [110,117,109,95,119,111,114,100,115,95,105,112,118,52]
def UB:=nlq [112,114,101,102,105,120,95,116,111,95,110,101,116,109,97,115,107,95,105,112,118,52]
def UC:=nlq [110,101,116,109,97,115,107,95,116,111,95,112,114,101,102,105,120,95,105,112,118,52]
def UD:=nlq [104,111,115,116,109,97,115,107,95,116,111,95,112,114,101,102,105,120,95,105,112,118,52]
def Gz:=nlq [115,116,114,95,116,111,95,105,110,116]
def Mv:=nlq [115,116,114,95,116,111,95,105,110,116,95,105,112,118,52]
def GA:=nlq [105,110,116,95,116,111,95,115,116,114]
def UE:=nlq [105,110,116,95,116,111,95,115,116,114,95,105,112,118,52]
def GB:=nlq [105,110,116,95,116,111,95,112,97,99,107,101,100]
def UF:=nlq [105,110,116,95,116,111,95,112,97,99,107,101,100,95,105,112,118,52]
def UG:=nlq [105,110,116,95,116,111,95,119,111,114,100,115,95,105,112,118,52]
def UH:=nlq [105,110,116,95,116,111,95,98,105,116,115,95,105,112,118,52]
def Mw:=nlq [101,120,112,97,110,100,95,112,97,114,116,105,97,108,95,97,100,100,114,101,115,115]
def UI:=nlq [101,120,112,97,110,100,95,112,97,114,116,105,97,108,95,97,100,100,114,101,115,115,95,105,112,118,52]
def UJ:=nlq [73,112,118,52,78,97,109,101,115]
def GC:=nlq [105,112,118,52,95,105,112,118,52]
def UK:=nlq [119,105,100,116,104,95,105,112,118,54]
def UL:=nlq [119,111,114,100,95,115,105,122,101,95,105,112,118,54]
def UM:=nlq [119,111,114,100,95,115,101,112]
def UN:=nlq [102,97,109,105,108,121,95,110,97,109,101,95,105,112,118,54]
def UO:=nlq [118,101,114,115,105,111,110,95,105,112,118,54]
def UP:=nlq [109,97,120,95,105,110,116,95,105,112,118,54]
def UQ:=nlq [110,117,109,95,119,111,114,100,115,95,105,112,118,54]
def UR:=nlq [112,114,101,102,105,120,95,116,111,95,110,101,116,109,97,115,107,95,105,112,118,54]
def US:=nlq [110,101,116,109,97,115,107,95,116,111,95,112,114,101,102,105,120,95,105,112,118,54]
def UT:=nlq [104,111,115,116,109,97,115,107,95,116,111,95,112,114,101,102,105,120,95,105,112,118,54]
def UU:=nlq [105,112,118,54,95,99,111,109,112,97,99,116]
def UV:=nlq [115,116,114,95,116,111,95,105,110,116,95,105,112,118,54]
def UW:=nlq [105,110,116,95,116,111,95,115,116,114,95,105,112,118,54]
def UX:=nlq [105,110,116,95,116,111,95,112,97,99,107,101,100,95,105,112,118,54]
def UY:=nlq [112,97,99,107,101,100,95,116,111,95,105,110,116]
def UZ:=nlq [105,110,116,95,116,111,95,119,111,114,100,115,95,105,112,118,54]
def Va:=nlq [105,110,116,95,116,111,95,98,105,116,115,95,105,112,118,54]
def Vb:=nlq [73,112,118,54,78,97,109,101,115]
def GD:=nlq [105,112,118,54,95,105,112,118,54]
def My:=nlq [66,97,115,101,73,80]
def uB:=nlq [73,80,65,100,100,114,101,115,115]
def Vc:=nlq [73,80,76,105,115,116,77,105,120,105,110]
def Mz:=nlq [112,97,114,115,101,95,105,112,95,110,101,116,119,111,114,107]
def oj:=nlq [73,80,78,101,116,119,111,114,107]
def GE:=nlq [73,80,82,97,110,103,101]
def MA:=nlq [99,105,100,114,95,109,101,114,103,101]
def MB:=nlq [99,105,100,114,95,112,97,114,116,105,116,105,111,110]
def MC:=nlq [115,112,97,110,110,105,110,103,95,99,105,100,114]
def Vd:=nlq [105,116,101,114,95,105,112,114,97,110,103,101]
def GF:=nlq [105,112,114,97,110,103,101,95,116,111,95,99,105,100,114,115]
def MD:=nlq [95,108,97,119,95,98,108,111,99,107,115]
def MF:=nlq [95,108,97,119,95,116,111,108,100]
def MG:=nlq [95,108,97,119,95,108,101,97,115,116]
def Ve:=nlq [108,97,119]
def om:=nlq [95,95,109,111,100,117,108,101,95,95]
def oo:=nlq [95,95,102,105,114,115,116,108,105,110,101,110,111,95,95]
def oq:=nlq [95,95,115,116,97,116,105,99,95,97,116,116,114,105,98,117,116,101,115,95,95]
def xi:=nlq [95,95,119,101,97,107,114,101,102,95,95]
def uC:=nlq [95,95,105,110,105,116,95,95]
def MH:=nlq [105,110,116,95,116,111,95,97,114,112,97]
def MI:=nlq [105,110,116,95,116,111,95,98,105,110]
def BS:=nlq [95,95,100,105,99,116,95,95]
def BU:=nlq [119,105,100,116,104]
def MJ:=nlq [102,97,109,105,108,121,95,110,97,109,101]
def sf:=nlq [118,101,114,115,105,111,110]
def MK:=nlq [109,97,120,95,105,110,116]
def ML:=nlq [112,114,101,102,105,120,95,116,111,95,110,101,116,109,97,115,107]
def IY:=nlq [110,101,116,109,97,115,107,95,116,111,95,112,114,101,102,105,120]
def IZ:=nlq [104,111,115,116,109,97,115,107,95,116,111,95,112,114,101,102,105,120]
def Q9:=nlq [119,111,114,100,95,102,109,116]
def Ra:=nlq [99,111,109,112,97,99,116]
def Rb:=nlq [95,115,101,116,95,118,97,108,117,101]
def BV:=nlq [118,97,108,117,101]
def wJ:=nlq [107,101,121]
def wK:=nlq [115,111,114,116,95,107,101,121]
def Rc:=nlq [95,95,101,113,95,95]
def Rd:=nlq [95,95,110,101,95,95]
def Re:=nlq [95,95,108,116,95,95]
def Rf:=nlq [95,95,108,101,95,95]
def Rg:=nlq [95,95,103,116,95,95]
def Rh:=nlq [95,95,103,101,95,95]
def Ri:=nlq [105,115,95,105,112,118,52,95,109,97,112,112,101,100]
def Rj:=nlq [105,115,95,105,112,118,52,95,99,111,109,112,97,116]
def Rk:=nlq [95,95,104,97,115,104,95,95]
def Rm:=nlq [110,101,116,109,97,115,107,95,98,105,116,115]
def Ro:=nlq [105,115,95,104,111,115,116,109,97,115,107]
def Rp:=nlq [105,115,95,110,101,116,109,97,115,107]
def I1:=nlq [95,95,105,97,100,100,95,95]
def I3:=nlq [95,95,105,115,117,98,95,95]
def Rq:=nlq [95,95,97,100,100,95,95]
def Rr:=nlq [95,95,114,97,100,100,95,95]
def Rs:=nlq [95,95,115,117,98,95,95]
def Rt:=nlq [95,95,114,115,117,98,95,95]
def Ru:=nlq [95,95,105,110,116,95,95]
def Rv:=nlq [95,95,105,110,100,101,120,95,95]
def Rw:=nlq [95,95,98,121,116,101,115,95,95]
def I5:=nlq [98,105,116,115]
def I7:=nlq [112,97,99,107,101,100]
def I9:=nlq [119,111,114,100,115]
def Rx:=nlq [98,105,110]
def Ry:=nlq [114,101,118,101,114,115,101,95,100,110,115]
def Ja:=nlq [105,112,118,52]
def Jb:=nlq [105,112,118,54]
def Rz:=nlq [102,111,114,109,97,116]
def RA:=nlq [95,95,111,114,95,95]
def RB:=nlq [95,95,97,110,100,95,95]
def RC:=nlq [95,95,120,111,114,95,95]
def RD:=nlq [95,95,108,115,104,105,102,116,95,95]
def RE:=nlq [95,95,114,115,104,105,102,116,95,95]
def Jc:=nlq [95,95,98,111,111,108,95,95]
def BW:=nlq [95,95,115,116,114,95,95]
def BX:=nlq [95,95,114,101,112,114,95,95]
def RF:=nlq [116,111,95,99,97,110,111,110,105,99,97,108]
def RG:=nlq [95,95,105,116,101,114,95,95]
def BY:=nlq [115,105,122,101]
def RH:=nlq [95,95,108,101,110,95,95]
def RI:=nlq [95,95,103,101,116,105,116,101,109,95,95]
def wL:=nlq [101,120,112,97,110,100,95,112,97,114,116,105,97,108]
def RJ:=nlq [95,115,101,116,95,112,114,101,102,105,120,108,101,110]
def wM:=nlq [112,114,101,102,105,120,108,101,110]
def wN:=nlq [105,112]
def Jd:=nlq [110,101,116,119,111,114,107]
def RK:=nlq [98,114,111,97,100,99,97,115,116]
def BZ:=nlq [102,105,114,115,116]
def Je:=nlq [108,97,115,116]
def B0:=nlq [110,101,116,109,97,115,107]
def RL:=nlq [95,110,101,116,109,97,115,107,95,105,110,116]
def Jf:=nlq [104,111,115,116,109,97,115,107]
def RM:=nlq [95,104,111,115,116,109,97,115,107,95,105,110,116]
def RN:=nlq [99,105,100,114]
def Jg:=nlq [95,95,99,111,110,116,97,105,110,115,95,95]
def RO:=nlq [112,114,101,118,105,111,117,115]
def RP:=nlq [110,101,120,116]
def RQ:=nlq [115,117,112,101,114,110,101,116]
def RS:=nlq [115,117,98,110,101,116]
def RT:=nlq [105,116,101,114,95,104,111,115,116,115]
def RU:=nlq [95,117,115,97,98,108,101,95,114,97,110,103,101]
def RV:=nlq [99,105,100,114,115]
def Jh:=nlq [105,112,95,115,116,114,105,110,103]
def Ji:=nlq [105,110,118,97,108,105,100,95,97,100,100,114]
def Jj:=nlq [116,111,107,101,110,115]
def Jk:=nlq [116,111,107,101,110]
def RW:=nlq [111,99,116,101,116]
def qN:=nlq [105,115,105,110,115,116,97,110,99,101]
def qO:=nlq [115,116,114]
def B1:=nlq [79,83,69,114,114,111,114]
def qP:=nlq [108,101,110]
def ot:=nlq [105,110,116]
def ou:=nlq [86,97,108,117,101,69,114,114,111,114]
def RX:=nlq [98,121,116,101,115]
def qQ:=nlq [84,121,112,101,69,114,114,111,114]
def RY:=nlq [97,102]
def RZ:=nlq [118,97,108,117,101,115]
def Jl:=nlq [112,114,101,102,105,120]
def R0:=nlq [115,117,102,102,105,120]
def R1:=nlq [108,95,112,114,101,102,105,120]
def R2:=nlq [108,95,115,117,102,102,105,120]
def R3:=nlq [105,112,118,52,95,115,116,114]
def R4:=nlq [116,111,107,101,110,95,99,111,117,110,116]
def R5:=nlq [103,97,112,95,115,105,122,101]
def R6:=nlq [119,111,114,100]
def Jm:=nlq [114,97,110,103,101]
def s8:=nlq [97,100,100,114]
def qR:=nlq [102,108,97,103,115]
def R7:=nlq [101,114,114,111,114]
def R8:=nlq [112,116,111,110,95,109,111,100,101]
def Sa:=nlq [97,110,121]
def eT:=nlq [115,101,108,102]
def Jn:=nlq [111,116,104,101,114]
def Jo:=nlq [65,116,116,114,105,98,117,116,101,69,114,114,111,114]
def Jp:=nlq [78,111,116,73,109,112,108,101,109,101,110,116,101,100]
def B2:=nlq [109,111,100,117,108,101]
def Jq:=nlq [95,95,99,108,97,115,115,95,95]
def Jr:=nlq [115,117,112,101,114]
def Sb:=nlq [118,97,108,49]
def Sc:=nlq [118,97,108,50]
def Sd:=nlq [109,97,115,107]
def Se:=nlq [116,117,112,108,101]
def Sf:=nlq [110,101,116,95,115,105,122,101,95,98,105,116,115]
def Sg:=nlq [104,111,115,116,95,98,105,116,115]
def B3:=nlq [115,116,97,114,116]
def Js:=nlq [101,110,100]
def Jt:=nlq [105,112,95,97,100,100,114,115]
def Sh:=nlq [114,97,110,103,101,115]
def Ju:=nlq [110,101,116]
def Si:=nlq [105]
def Sj:=nlq [109,101,114,103,101,100]
def Sk:=nlq [114,97,110,103,101,95,116,117,112,108,101]
def Sl:=nlq [111,114,105,103,105,110,97,108]
def Sm:=nlq [114,97,110,103,101,95,115,116,97,114,116]
def Sn:=nlq [114,97,110,103,101,95,115,116,111,112]
def B5:=nlq [109,105,110]
def So:=nlq [116,97,114,103,101,116]
def Jv:=nlq [101,120,99,108,117,100,101]
def Sp:=nlq [108,101,102,116]
def Sq:=nlq [114,105,103,104,116]
def Sr:=nlq [110,101,119,95,112,114,101,102,105,120,108,101,110]
def Ss:=nlq [116,97,114,103,101,116,95,109,111,100,117,108,101,95,119,105,100,116,104]
def Su:=nlq [116,97,114,103,101,116,95,102,105,114,115,116]
def Sv:=nlq [105,95,108,111,119,101,114]
def Sw:=nlq [105,95,117,112,112,101,114]
def Sx:=nlq [109,97,116,99,104,101,100]
def Sy:=nlq [110,101,116,119,111,114,107,115]
def Sz:=nlq [110,101,116,119,111,114,107,95,97]
def SB:=nlq [110,101,116,119,111,114,107,95,98]
def SD:=nlq [109,105,110,95,110,101,116,119,111,114,107]
def SE:=nlq [109,97,120,95,110,101,116,119,111,114,107]
def SF:=nlq [105,112,110,117,109]
def SG:=nlq [108,111,119,101,115,116,95,105,112,110,117,109]
def SH:=nlq [99,105,100,114,95,108,105,115,116]
def SI:=nlq [105,112,114,97,110,103,101]
def SJ:=nlq [99,105,100,114,95,115,112,97,110]
def wO:=nlq [107,105,110,100]
def qS:=nlq [108,111,119]
def s9:=nlq [104,105,103,104]
def Jw:=nlq [102,111,117,110,100]
def SK:=nlq [110,101,116,115]
def Jx:=nlq [112,97,114,116,115]
def SL:=nlq [109,105,110,101]
def Jy:=nlq [112,111,105,110,116]
def SM:=nlq [105,110,115,105,100,101]
def SN:=nlq [115,111,114,116,101,100]
def SO:=nlq [115,99,114,105,112,116]
def SP:=nlq [110,117,109,98,101,114,115]
def SQ:=nlq [104,101,97,100]
def SR:=nlq [99,101,108,108]
def SS:=nlq [116,104,105,110,103,115]
def ST:=nlq [107]
def SU:=nlq [97]
def SV:=nlq [98]
def SW:=nlq [99]
def SX:=nlq [116,111,112]
def SY:=nlq [115,111,114,116]
noncomputable def MM(τ:Nat→Tok):Value:= .str "netaddr.fbsocket" (τ 1000032)
noncomputable def MN(τ:Nat→Tok):Value:= .str "netaddr.strategy.ipv4" (τ 1000102)
noncomputable def Vf(τ:Nat→Tok):Value:= .str "netaddr.strategy.ipv6" (τ 7000168)
noncomputable def eU(τ:Nat→Tok):Value:= .str "netaddr.ip" (τ 13000184)
noncomputable def B6(τ:Nat→Tok):Value:= .str "law_az0026_01" (τ 13001130)
section
variable (P:Params) (τ:Nat→Tok)
def o_2:Obj:=ob .none (.dict #[en P nq0 220 (.int 31 0),en P nq1 221 (.int 1 0)] 2)
def o_3:Obj:=ob (.type "dict") (.dict #[en P nq2 165 (.str "law_az0026_01" (τ 13001130)),en P nq3 166 .none,en P nq4 167 .none,en P nq5 168 (.builtin "__main__.__loader__#opaque"),en P nq6 169 .none,en P nq7 170 (.ref 6),en P nq8 171 (.ref 4),en P nq9 173 (.str "/claim/cut.py" 172),en P Uk 174 .none,en P Ul 193 (.ref 21),en P BR 197 (.int (1) 196),en P Gs 199 (.int (2) 198),en P Gu 201 (.int (4) 200),en P Gv 203 (.int (8) 202),en P uA 223 (.ref 31),en P Um 236 (.ref 41),en P Un (τ 1000000) (.ref 43),en P Gw (τ 1000014) (.ref 2114),en P Uo (τ 1000015) (.ref 1335),en P Gx (τ 1000030) (.ref 2122),en P Uq (τ 1000031) (.ref 1343),en P Gy (τ 1000035) (.int 2 (τ 1000034)),en P Mr (τ 1000037) (.int 10 (τ 1000036)),en P Ur (τ 1000044) (.ref 1350),en P Us (τ 1000061) (.ref 1357),en P Ut (τ 1000067) (.ref 1362),en P Ms (τ 1000073) (.ref 1367),en P Mt (τ 1000079) (.ref 1372),en P Uu (τ 1000090) (.ref 1379),en P Mu (τ 1000101) (.ref 1386),en P Uv (τ 1000105) (.int 32 (τ 1000104)),en P Uw (τ 1000107) (.int 8 (τ 1000106)),en P Ux (τ 1000109) (.str "IPv4" (τ 1000108)),en P Uy (τ 1000111) (.int 4 (τ 1000110)),en P Uz (τ 1000116) (.int 4294967295 (τ 1000115)),en P UA (τ 1000118) (.int 4 (τ 1000117)),en P UB (τ 3000000) (.ref 1426),en P UC (τ 5000000) (.ref 1471),en P UD (τ 7000000) (.ref 1516),en P Gz (τ 7000007) (.ref 2090),en P Mv (τ 7000008) (.ref 1527),en P GA (τ 7000016) (.ref 2096),en P UE (τ 7000017) (.ref 1535),en P GB (τ 7000024) (.ref 2101),en P UF (τ 7000025) (.ref 1542),en P UG (τ 7000033) (.ref 1549),en P UH (τ 7000042) (.ref 1557),en P Mw (τ 7000048) (.ref 1562),en P UI (τ 7000049) (.ref 1562),en P UJ (τ 7000151) (.ref 1638),en P GC (τ 7000167) (.ref 1644),en P UK (τ 7000171) (.int 128 (τ 7000170)),en P UL (τ 7000173) (.int 16 (τ 7000172)),en P UM (τ 7000175) (.str ":" (τ 7000174)),en P UN (τ 7000177) (.str "IPv6" (τ 7000176)),en P UO (τ 7000179) (.int 6 (τ 7000178)),en P UP (τ 7000184) (.int 340282366920938463463374607431768211455 (τ 7000183)),en P UQ (τ 7000186) (.int 8 (τ 7000185)),en P UR (τ 9000000) (.ref 1781),en P US (τ 11000000) (.ref 1922),en P UT (τ 13000000) (.ref 2063),en P UU (τ 13000023) (.ref 2078),en P UV (τ 13000034) (.ref 2090),en P UW (τ 13000041) (.ref 2096),en P UX (τ 13000048) (.ref 2101),en P UY (τ 13000054) (.ref 2106),en P UZ (τ 13000064) (.ref 2114),en P Va (τ 13000073) (.ref 2122),en P Vb (τ 13000167) (.ref 2191),en P GD (τ 13000183) (.ref 2197),en P My (τ 13000325) (.ref 2317),en P uB (τ 13000602) (.ref 2565),en P Vc (τ 13000659) (.ref 2613),en P Mz (τ 13000678) (.ref 2624),en P oj (τ 13000969) (.ref 2868),en P GE (τ 13001062) (.ref 2946),en P MA (τ 13001079) (.ref 2955),en P MB (τ 13001096) (.ref 2962),en P MC (τ 13001102) (.ref 2967),en P Vd (τ 13001116) (.ref 2975),en P GF (τ 13001129) (.ref 2982),en P MD (τ 13001142) (.ref 2989),en P MF (τ 13001148) (.ref 2994),en P MG (τ 13001154) (.ref 2999),en P Ve (τ 13001160) (.ref 3004)] 85)
def o_4:Obj:={cls:=(.type "module"),dict:=(some 0),data:= .plain,slots:= #[]}
def Vg:Obj:=ob (.type "dict") (.dict #[en P om 211 (.str "netaddr.core" 194),en P oo 215 (.int (9) 214),en P oq 216 (.ref 29),en P xi 218 (.ref 32),en P nq3 219 .none] 3)
def Vh:Obj:={cls:=(.type "type"),dict:=none,data:=(.cls {name:="AddrFormatError",bases:=[(.type "Exception")],mro:=[(.ref 31),(.type "Exception"),(.type "BaseException"),(.type "object")],ns:=30,qualname:="AddrFormatError",hasDict:=true,slotNames:=[],subclasses:=[],abstract:=false,collection:=none,hasDel:=false}),slots:= #[(some (.ref 22)),none,(some (.str "AddrFormatError" 204)),(some (.str "AddrFormatError" 212)),(some (.builtin "Exception.__new__")),(some (.bool true))]}
def Vi:Obj:=ob (.type "getset_descriptor") (.fields #[(.str "__weakref__" 217),(.ref 31),(.builtin "ExceptionGroup.__weakref__"),.none])
def MO:Obj:=se τ "_inet_pton_af_inet" "_inet_pton_af_inet" 1000068 1000071 111 1 0 0 3 181 1363
def D5:FuncData:=fdm τ "_inet_pton_af_inet" "_inet_pton_af_inet" (an pw.main.body 20) (MM τ) 1366
def MP:Obj:=fnO (D5 τ)
def MQ:Obj:=se τ "inet_pton" "inet_pton" 1000074 1000077 133 2 0 0 3 181 1368
def D6:FuncData:=fdm τ "inet_pton" "inet_pton" (an pw.main.body 21) (MM τ) 1371
def MR:Obj:=fnO (D6 τ)
def MS:Obj:=ob (.type "tuple") (.seq #[(.int 0 (τ 7000001))] 0)
def D7:Obj:=se τ "str_to_int" "str_to_int" 7000002 7000005 242 2 0 0 3 181 1523
def D8:FuncData:=fdm τ "str_to_int" "str_to_int" (an pw.main.body 34) (MN τ) 1526 [] (.ref 1522)
def MT:Obj:=fnO (D8 τ)
def MU:Obj:=ob (.type "tuple") (.seq #[(.int 0 (τ 7000069))] 0)
def MV:Obj:=dO τ "str_to_int" "Ipv4Names.str_to_int" 7000070 7000076 312 3 0 0 3 181 1578
def D9:FuncData:=fdm τ "str_to_int" "Ipv4Names.str_to_int" (an (aF 46) 1) (MN τ) 1583 [] (.ref 1577)
def MW:Obj:=fnO (D9 τ)
def MX:Obj:=ob (.type "dict") (.dict #[en P om (τ 7000057) (.str "netaddr.strategy.ipv4" (τ 1000102)),en P oo (τ 7000061) (.int 301 (τ 7000060)),en P uC (τ 7000068) (.ref 1576),en P Gz (τ 7000078) (.ref 1584),en P GA (τ 7000087) (.ref 1592),en P MH (τ 7000095) (.ref 1599),en P GB (τ 7000103) (.ref 1606),en P Gw (τ 7000111) (.ref 1613),en P Gx (τ 7000120) (.ref 1621),en P MI (τ 7000128) (.ref 1628),en P Mw (τ 7000136) (.ref 1635),en P oq (τ 7000144) (.ref 1636),en P BS (τ 7000146) (.ref 1639),en P xi (τ 7000148) (.ref 1640),en P nq3 (τ 7000149) .none] 4)
def MY:Obj:={cls:=(.type "type"),dict:=none,data:=(.cls {name:="Ipv4Names",bases:=[(.type "object")],mro:=[(.ref 1638),(.type "object")],ns:=1637,qualname:="Ipv4Names",hasDict:=true,slotNames:=[],subclasses:=[],abstract:=false,collection:=none,hasDel:=false}),slots:= #[(some (.ref 1563)),none,(some (.str "Ipv4Names" (τ 7000050))),(some (.str "Ipv4Names" (τ 7000058))),(some (.builtin "object.__new__")),(some (.bool true))]}
def MZ:Obj:=ob (.type "getset_descriptor") (.fields #[(.str "__dict__" (τ 7000145)),(.ref 1638),(.builtin "function.__dict__"),(.builtin "function.__dict__#set")])
def M0:Obj:=ob (.type "getset_descriptor") (.fields #[(.str "__weakref__" (τ 7000147)),(.ref 1638),(.builtin "ExceptionGroup.__weakref__"),.none])
def M7:Obj:=ob (.type "dict") (.dict #[en P BU (τ 7000154) (.int 32 (τ 1000104)),en P MJ (τ 7000156) (.str "IPv4" (τ 1000108)),en P sf (τ 7000158) (.int 4 (τ 1000110)),en P MK (τ 7000160) (.int 4294967295 (τ 1000115)),en P ML (τ 7000162) (.ref 1426),en P IY (τ 7000164) (.ref 1471),en P IZ (τ 7000166) (.ref 1516)] 7)
def M8:Obj:={cls:=(.ref 1638),dict:=(some 1643),data:= .plain,slots:= #[]}
def M9:Obj:=ob (.type "dict") (.dict #[en P om (τ 13000008) (.str "netaddr.strategy.ipv6" (τ 7000168)),en P oo (τ 13000012) (.int 347 (τ 13000011)),en P Q9 (τ 13000014) (.str "%x" (τ 13000013)),en P Ra (τ 13000015) (.bool true),en P oq (τ 13000016) (.ref 2076),en P BS (τ 13000018) (.ref 2079),en P xi (τ 13000020) (.ref 2080),en P nq3 (τ 13000021) .none] 4)
def Na:Obj:={cls:=(.type "type"),dict:=none,data:=(.cls {name:="ipv6_compact",bases:=[(.type "object")],mro:=[(.ref 2078),(.type "object")],ns:=2077,qualname:="ipv6_compact",hasDict:=true,slotNames:=[],subclasses:=[],abstract:=false,collection:=none,hasDel:=false}),slots:= #[(some (.ref 2069)),none,(some (.str "ipv6_compact" (τ 13000001))),(some (.str "ipv6_compact" (τ 13000009))),(some (.builtin "object.__new__")),(some (.bool true))]}
def Nb:Obj:=ob (.type "getset_descriptor") (.fields #[(.str "__dict__" (τ 13000017)),(.ref 2078),(.builtin "function.__dict__"),(.builtin "function.__dict__#set")])
def Nc:Obj:=ob (.type "getset_descriptor") (.fields #[(.str "__weakref__" (τ 13000019)),(.ref 2078),(.builtin "ExceptionGroup.__weakref__"),.none])
def Nd:Obj:=ob (.type "tuple") (.seq #[(.int 0 (τ 13000024))] 0)
def Nf:Obj:=dO τ "str_to_int" "str_to_int" 13000025 13000031 350 2 0 0 3 181 2084
def Ng:FuncData:=fdm τ "str_to_int" "str_to_int" (an pw.main.body 60) (Vf τ) 2089 [] (.ref 2083)
def Nh:Obj:=fnO (Ng τ)
def Ni:Obj:=ob (.type "dict") (.dict #[en P om (τ 13000081) (.str "netaddr.strategy.ipv6" (τ 7000168)),en P oo (τ 13000085) (.int 399 (τ 13000084)),en P uC (τ 13000092) (.ref 2136),en P Gz (τ 13000102) (.ref 2144),en P GA (τ 13000111) (.ref 2152),en P MH (τ 13000119) (.ref 2159),en P GB (τ 13000127) (.ref 2166),en P Gw (τ 13000135) (.ref 2173),en P Gx (τ 13000144) (.ref 2181),en P MI (τ 13000152) (.ref 2188),en P oq (τ 13000160) (.ref 2189),en P BS (τ 13000162) (.ref 2192),en P xi (τ 13000164) (.ref 2193),en P nq3 (τ 13000165) .none] 4)
def Nj:Obj:={cls:=(.type "type"),dict:=none,data:=(.cls {name:="Ipv6Names",bases:=[(.type "object")],mro:=[(.ref 2191),(.type "object")],ns:=2190,qualname:="Ipv6Names",hasDict:=true,slotNames:=[],subclasses:=[],abstract:=false,collection:=none,hasDel:=false}),slots:= #[(some (.ref 2123)),none,(some (.str "Ipv6Names" (τ 13000074))),(some (.str "Ipv6Names" (τ 13000082))),(some (.builtin "object.__new__")),(some (.bool true))]}
def Nk:Obj:=ob (.type "getset_descriptor") (.fields #[(.str "__dict__" (τ 13000161)),(.ref 2191),(.builtin "function.__dict__"),(.builtin "function.__dict__#set")])
def Nl:Obj:=ob (.type "getset_descriptor") (.fields #[(.str "__weakref__" (τ 13000163)),(.ref 2191),(.builtin "ExceptionGroup.__weakref__"),.none])
def Nm:Obj:=ob (.type "dict") (.dict #[en P BU (τ 13000170) (.int 128 (τ 7000170)),en P MJ (τ 13000172) (.str "IPv6" (τ 7000176)),en P sf (τ 13000174) (.int 6 (τ 7000178)),en P MK (τ 13000176) (.int 340282366920938463463374607431768211455 (τ 7000183)),en P ML (τ 13000178) (.ref 1781),en P IY (τ 13000180) (.ref 1922),en P IZ (τ 13000182) (.ref 2063)] 7)
def Nn:Obj:={cls:=(.ref 2191),dict:=(some 2196),data:= .plain,slots:= #[]}
def No:Obj:=dO τ "__init__" "BaseIP.__init__" 13000198 13000202 434 1 0 0 3 181 2206
def Ea:FuncData:=fdm τ "__init__" "BaseIP.__init__" (an (aF 74) 0) (eU τ) 2211
def Np:Obj:=fnO (Ea τ)
def Nq:Obj:=ob (.type "property") (.fields #[(.ref 2226),(.ref 2235),.none,.none,(.str "value" (τ 13000220)),(.bool false)])
def Nr:Obj:=dO τ "__lt__" "BaseIP.__lt__" 13000261 13000266 471 2 0 0 3 181 2265
def Eb:FuncData:=fdm τ "__lt__" "BaseIP.__lt__" (an (aF 74) 8) (eU τ) 2270
def Nt:Obj:=fnO (Eb τ)
def Nu:Obj:=dO τ "__gt__" "BaseIP.__gt__" 13000277 13000282 483 2 0 0 3 181 2279
def Nv:FuncData:=fdm τ "__gt__" "BaseIP.__gt__" (an (aF 74) 10) (eU τ) 2284
def Nw:Obj:=fnO (Nv τ)
def Nx:Obj:=dO τ "version" "BaseIP.version" 13000307 13000311 501 1 0 0 3 181 2307
def Ec:FuncData:=fdm τ "version" "BaseIP.version" (an (aF 74) 14) (eU τ) 2312
def Ny:Obj:=fnO (Ec τ)
def Nz:Obj:=ob (.type "property") (.fields #[(.ref 2313),.none,.none,.none,(.str "version" (τ 13000314)),(.bool false)])
def NA:Obj:=ob (.type "dict") (.dict #[en P om (τ 13000193) (.str "netaddr.ip" (τ 13000184)),en P oo (τ 13000197) (.int 432 (τ 13000196)),en P uC (τ 13000204) (.ref 2212),en P Rb (τ 13000212) (.ref 2219),en P BV (τ 13000220) (.ref 2236),en P wJ (τ 13000237) (.ref 2243),en P wK (τ 13000244) (.ref 2250),en P Rc (τ 13000252) (.ref 2257),en P Rd (τ 13000260) (.ref 2264),en P Re (τ 13000268) (.ref 2271),en P Rf (τ 13000276) (.ref 2278),en P Rg (τ 13000284) (.ref 2285),en P Rh (τ 13000292) (.ref 2292),en P Ri (τ 13000299) (.ref 2299),en P Rj (τ 13000306) (.ref 2306),en P sf (τ 13000314) (.ref 2314),en P oq (τ 13000317) (.ref 2315),en P BS (τ 13000319) (.ref 2318),en P xi (τ 13000321) (.ref 2319),en P nq3 (τ 13000322) .none,en P Rk (τ 13000323) .none] 5)
def NB:Obj:={cls:=(.type "type"),dict:=none,data:=(.cls {name:="BaseIP",bases:=[(.type "object")],mro:=[(.ref 2317),(.type "object")],ns:=2316,qualname:="BaseIP",hasDict:=true,slotNames:=[],subclasses:=[(.ref 2565),(.ref 2613)],abstract:=false,collection:=none,hasDel:=false}),slots:= #[(some (.ref 2199)),none,(some (.str "BaseIP" (τ 13000186))),(some (.str "BaseIP" (τ 13000194))),(some (.builtin "object.__new__")),(some (.bool true))]}
def NC:Obj:=ob (.type "getset_descriptor") (.fields #[(.str "__dict__" (τ 13000318)),(.ref 2317),(.builtin "function.__dict__"),(.builtin "function.__dict__#set")])
def ND:Obj:=ob (.type "getset_descriptor") (.fields #[(.str "__weakref__" (τ 13000320)),(.ref 2317),(.builtin "ExceptionGroup.__weakref__"),.none])
def NE:Obj:=ob (.type "cell") (.cell (some (.ref 2565)))
def NF:Obj:=ob (.type "tuple") (.seq #[.none,(.int 0 (τ 13000338))] 0)
def NG:Obj:=ob (.type "tuple") (.seq #[(.ref 2325)] 0)
def NH:Obj:=dO τ "__init__" "IPAddress.__init__" 13000339 13000348 506 4 0 0 3 181 2332
def Ed:FuncData:=fdm τ "__init__" "IPAddress.__init__" (an (aF 75) 0) (eU τ) 2337 [("__class__",2325)] (.ref 2330) (.ref 2331)
def NI:Obj:=fnO (Ed τ)
def NJ:Obj:=dO τ "sort_key" "IPAddress.sort_key" 13000437 13000441 622 1 0 0 3 181 2409
def NK:FuncData:=fdm τ "sort_key" "IPAddress.sort_key" (an (aF 75) 11) (eU τ) 2414
def NL:Obj:=fnO (NK τ)
def NM:Obj:=ob (.type "property") (.fields #[(.ref 2451),.none,.none,.none,(.str "packed" (τ 13000480)),(.bool false)])
def NN:Obj:=ob (.type "property") (.fields #[(.ref 2459),.none,.none,.none,(.str "words" (τ 13000488)),(.bool false)])
def NO:Obj:=ob (.type "property") (.fields #[(.ref 2467),.none,.none,.none,(.str "bin" (τ 13000496)),(.bool false)])
def NP:Obj:=ob (.type "property") (.fields #[(.ref 2475),.none,.none,.none,(.str "reverse_dns" (τ 13000504)),(.bool false)])
def NQ:Obj:=ob (.type "dict") (.dict #[en P om (τ 13000333) (.str "netaddr.ip" (τ 13000184)),en P oo (τ 13000337) (.int 504 (τ 13000336)),en P uC (τ 13000350) (.ref 2338),en P Rm (τ 13000360) (.ref 2345),en P Ro (τ 13000368) (.ref 2352),en P Rp (τ 13000376) (.ref 2359),en P I1 (τ 13000385) (.ref 2366),en P I3 (τ 13000394) (.ref 2373),en P Rq (τ 13000403) (.ref 2380),en P Rr (τ 13000411) (.ref 2387),en P Rs (τ 13000420) (.ref 2394),en P Rt (τ 13000429) (.ref 2401),en P wJ (τ 13000436) (.ref 2408),en P wK (τ 13000443) (.ref 2415),en P Ru (τ 13000450) (.ref 2422),en P Rv (τ 13000457) (.ref 2429),en P Rw (τ 13000464) (.ref 2436),en P I5 (τ 13000472) (.ref 2444),en P I7 (τ 13000480) (.ref 2452),en P I9 (τ 13000488) (.ref 2460),en P Rx (τ 13000496) (.ref 2468),en P Ry (τ 13000504) (.ref 2476),en P Ja (τ 13000511) (.ref 2483),en P Jb (τ 13000519) (.ref 2491),en P Rz (τ 13000527) (.ref 2499),en P RA (τ 13000535) (.ref 2506),en P RB (τ 13000543) (.ref 2513),en P RC (τ 13000551) (.ref 2520),en P RD (τ 13000559) (.ref 2527),en P RE (τ 13000567) (.ref 2534),en P Jc (τ 13000574) (.ref 2541),en P BW (τ 13000581) (.ref 2548),en P BX (τ 13000588) (.ref 2555),en P RF (τ 13000595) (.ref 2562),en P oq (τ 13000598) (.ref 2563),en P nq3 (τ 13000600) .none] 3)
def NR:Obj:={cls:=(.type "type"),dict:=none,data:=(.cls {name:="IPAddress",bases:=[(.ref 2317)],mro:=[(.ref 2565),(.ref 2317),(.type "object")],ns:=2564,qualname:="IPAddress",hasDict:=true,slotNames:=[],subclasses:=[],abstract:=false,collection:=none,hasDel:=false}),slots:= #[(some (.ref 2322)),none,(some (.str "IPAddress" (τ 13000326))),(some (.str "IPAddress" (τ 13000334))),(some (.builtin "object.__new__")),(some (.bool true))]}
def NS:Obj:=dO τ "size" "IPListMixin.size" 13000624 13000628 698 1 0 0 3 181 2582
def NT:FuncData:=fdm τ "size" "IPListMixin.size" (an (aF 76) 1) (eU τ) 2587
def NU:Obj:=fnO (NT τ)
def NV:Obj:=ob (.type "property") (.fields #[(.ref 2588),.none,.none,.none,(.str "size" (τ 13000631)),(.bool false)])
def NW:Obj:=ob (.type "dict") (.dict #[en P om (τ 13000610) (.str "netaddr.ip" (τ 13000184)),en P oo (τ 13000614) (.int 691 (τ 13000613)),en P RG (τ 13000623) (.ref 2581),en P BY (τ 13000631) (.ref 2589),en P RH (τ 13000639) (.ref 2596),en P RI (τ 13000648) (.ref 2603),en P Jc (τ 13000655) (.ref 2610),en P oq (τ 13000656) (.ref 2611),en P nq3 (τ 13000657) .none] 2)
def NX:Obj:={cls:=(.type "type"),dict:=none,data:=(.cls {name:="IPListMixin",bases:=[(.ref 2317)],mro:=[(.ref 2613),(.ref 2317),(.type "object")],ns:=2612,qualname:="IPListMixin",hasDict:=true,slotNames:=[],subclasses:=[(.ref 2868),(.ref 2946)],abstract:=false,collection:=none,hasDel:=false}),slots:= #[(some (.ref 2568)),none,(some (.str "IPListMixin" (τ 13000603))),(some (.str "IPListMixin" (τ 13000611))),(some (.builtin "object.__new__")),(some (.bool true))]}
def NY:Obj:=ob (.type "tuple") (.seq #[(.int 0 (τ 13000660))] 0)
def NZ:Obj:=ob (.type "dict") (.dict #[en P wL (τ 13000661) (.bool false)] 1)
def N0:Obj:=dO τ "parse_ip_network" "parse_ip_network" 13000662 13000676 724 3 0 1 3 181 2618
def N1:Obj:=ob (.type "function") (.func {name:="parse_ip_network",qualname:="parse_ip_network",params:=ll (an pw.main.body 77),body:= .stmts (ce (an pw.main.body 77)),scope:=bb (an pw.main.body 77),globals:=3,closure:=[],defaults:=(.ref 2616),kwdefaults:=(.ref 2617),doc:= .none,pyModule:=(.str "netaddr.ip" (τ 13000184)),annotations:=none,code:=(.ref 2623),closureTuple:= .none,builtins:=0})
def N2:Obj:=ob (.type "cell") (.cell (some (.ref 2868)))
def N3:Obj:=ob (.type "tuple") (.seq #[.none,(.int 0 (τ 13000691))] 0)
def N4:Obj:=ob (.type "dict") (.dict #[en P wL (τ 13000692) (.bool false)] 1)
def N5:Obj:=ob (.type "tuple") (.seq #[(.ref 2628)] 0)
def N6:Obj:=dO τ "__init__" "IPNetwork.__init__" 13000693 13000706 766 4 0 1 3 181 2636
def N7:Obj:=ob (.type "function") (.func {name:="__init__",qualname:="IPNetwork.__init__",params:=ll (an (aF 78) 0),body:= .stmts (ce (an (aF 78) 0)),scope:=bb (an (aF 78) 0),globals:=3,closure:=[("__class__",2628)],defaults:=(.ref 2633),kwdefaults:=(.ref 2634),doc:= .none,pyModule:=(.str "netaddr.ip" (τ 13000184)),annotations:=none,code:=(.ref 2641),closureTuple:=(.ref 2635),builtins:=0})
def N8:Obj:=dO τ "prefixlen" "IPNetwork.prefixlen" 13000717 13000721 813 1 0 0 3 181 2650
def Ee:FuncData:=fdm τ "prefixlen" "IPNetwork.prefixlen" (an (aF 78) 2) (eU τ) 2655
def N9:Obj:=fnO (Ee τ)
def Oa:Obj:=dO τ "prefixlen" "IPNetwork.prefixlen" 13000726 13000731 817 2 0 0 3 181 2659
def Ob:FuncData:=fdm τ "prefixlen" "IPNetwork.prefixlen" (an (aF 78) 3) (eU τ) 2664
def Oc:Obj:=fnO (Ob τ)
def Od:Obj:=ob (.type "property") (.fields #[(.ref 2656),(.ref 2665),.none,.none,(.str "prefixlen" (τ 13000724)),(.bool false)])
def Oe:Obj:=ob (.type "property") (.fields #[(.ref 2673),.none,.none,.none,(.str "ip" (τ 13000742)),(.bool false)])
def Of:Obj:=ob (.type "property") (.fields #[(.ref 2681),.none,.none,.none,(.str "network" (τ 13000750)),(.bool false)])
def Og:Obj:=ob (.type "property") (.fields #[(.ref 2689),.none,.none,.none,(.str "broadcast" (τ 13000758)),(.bool false)])
def Oh:Obj:=dO τ "first" "IPNetwork.first" 13000759 13000763 833 1 0 0 3 181 2691
def Ef:FuncData:=fdm τ "first" "IPNetwork.first" (an (aF 78) 7) (eU τ) 2696
def Oi:Obj:=fnO (Ef τ)
def Oj:Obj:=ob (.type "property") (.fields #[(.ref 2697),.none,.none,.none,(.str "first" (τ 13000766)),(.bool false)])
def Ol:Obj:=dO τ "last" "IPNetwork.last" 13000767 13000772 837 1 0 0 3 181 2699
def Eg:FuncData:=fdm τ "last" "IPNetwork.last" (an (aF 78) 8) (eU τ) 2704
def Om:Obj:=fnO (Eg τ)
def On:Obj:=ob (.type "property") (.fields #[(.ref 2705),.none,.none,.none,(.str "last" (τ 13000775)),(.bool false)])
def Oo:Obj:=ob (.type "property") (.fields #[(.ref 2713),(.ref 2722),.none,.none,(.str "netmask" (τ 13000784)),(.bool false)])
def Op:Obj:=dO τ "_netmask_int" "IPNetwork._netmask_int" 13000796 13000800 856 1 0 0 3 181 2724
def Oq:FuncData:=fdm τ "_netmask_int" "IPNetwork._netmask_int" (an (aF 78) 11) (eU τ) 2729
def Ot:Obj:=fnO (Oq τ)
def Ou:Obj:=ob (.type "property") (.fields #[(.ref 2730),.none,.none,.none,(.str "_netmask_int" (τ 13000803)),(.bool false)])
def Ov:Obj:=ob (.type "property") (.fields #[(.ref 2738),.none,.none,.none,(.str "hostmask" (τ 13000812)),(.bool false)])
def Ow:Obj:=dO τ "_hostmask_int" "IPNetwork._hostmask_int" 13000813 13000817 865 1 0 0 3 181 2740
def Eh:FuncData:=fdm τ "_hostmask_int" "IPNetwork._hostmask_int" (an (aF 78) 13) (eU τ) 2745
def Ox:Obj:=fnO (Eh τ)
def Oy:Obj:=ob (.type "property") (.fields #[(.ref 2746),.none,.none,.none,(.str "_hostmask_int" (τ 13000820)),(.bool false)])
def Oz:Obj:=dO τ "cidr" "IPNetwork.cidr" 13000821 13000825 869 1 0 0 3 181 2748
def OA:FuncData:=fdm τ "cidr" "IPNetwork.cidr" (an (aF 78) 14) (eU τ) 2753
def OC:Obj:=fnO (OA τ)
def OE:Obj:=ob (.type "property") (.fields #[(.ref 2754),.none,.none,.none,(.str "cidr" (τ 13000828)),(.bool false)])
def OF:Obj:=dO τ "sort_key" "IPNetwork.sort_key" 13000865 13000872 909 1 0 0 3 181 2784
def Ei:FuncData:=fdm τ "sort_key" "IPNetwork.sort_key" (an (aF 78) 19) (eU τ) 2789
def OG:Obj:=fnO (Ei τ)
def OH:Obj:=ob (.type "dict") (.dict #[en P om (τ 13000686) (.str "netaddr.ip" (τ 13000184)),en P oo (τ 13000690) (.int 764 (τ 13000689)),en P uC (τ 13000708) (.ref 2642),en P RJ (τ 13000716) (.ref 2649),en P wM (τ 13000724) (.ref 2666),en P wN (τ 13000742) (.ref 2674),en P Jd (τ 13000750) (.ref 2682),en P RK (τ 13000758) (.ref 2690),en P BZ (τ 13000766) (.ref 2698),en P Je (τ 13000775) (.ref 2706),en P B0 (τ 13000784) (.ref 2723),en P RL (τ 13000803) (.ref 2731),en P Jf (τ 13000812) (.ref 2739),en P RM (τ 13000820) (.ref 2747),en P RN (τ 13000828) (.ref 2755),en P I1 (τ 13000837) (.ref 2762),en P I3 (τ 13000846) (.ref 2769),en P Jg (τ 13000857) (.ref 2776),en P wJ (τ 13000864) (.ref 2783),en P wK (τ 13000874) (.ref 2790),en P Ja (τ 13000881) (.ref 2797),en P Jb (τ 13000889) (.ref 2805),en P RO (τ 13000898) (.ref 2813),en P RP (τ 13000907) (.ref 2821),en P RQ (τ 13000916) (.ref 2829),en P RS (τ 13000931) (.ref 2837),en P RT (τ 13000938) (.ref 2844),en P RU (τ 13000945) (.ref 2851),en P BW (τ 13000953) (.ref 2858),en P BX (τ 13000960) (.ref 2865),en P oq (τ 13000965) (.ref 2866),en P nq3 (τ 13000967) .none] 3)
def OJ:Obj:={cls:=(.type "type"),dict:=none,data:=(.cls {name:="IPNetwork",bases:=[(.ref 2613)],mro:=[(.ref 2868),(.ref 2613),(.ref 2317),(.type "object")],ns:=2867,qualname:="IPNetwork",hasDict:=true,slotNames:=[],subclasses:=[],abstract:=false,collection:=none,hasDel:=false}),slots:= #[(some (.ref 2625)),none,(some (.str "IPNetwork" (τ 13000679))),(some (.str "IPNetwork" (τ 13000687))),(some (.builtin "object.__new__")),(some (.bool true))]}
def OK:Obj:=ob (.type "tuple") (.seq #[(.int 0 (τ 13000982))] 0)
def OL:Obj:=dO τ "__init__" "IPRange.__init__" 13000983 13000990 964 4 0 0 3 181 2879
def Ej:FuncData:=fdm τ "__init__" "IPRange.__init__" (an (aF 79) 0) (eU τ) 2884 [] (.ref 2878)
def OM:Obj:=fnO (Ej τ)
def ON:Obj:=dO τ "first" "IPRange.first" 13001004 13001008 986 1 0 0 3 181 2893
def Ek:FuncData:=fdm τ "first" "IPRange.first" (an (aF 79) 2) (eU τ) 2898
def OO:Obj:=fnO (Ek τ)
def OP:Obj:=ob (.type "property") (.fields #[(.ref 2899),.none,.none,.none,(.str "first" (τ 13001011)),(.bool false)])
def OQ:Obj:=dO τ "last" "IPRange.last" 13001012 13001016 990 1 0 0 3 181 2901
def Em:FuncData:=fdm τ "last" "IPRange.last" (an (aF 79) 3) (eU τ) 2906
def OR:Obj:=fnO (Em τ)
def OS:Obj:=ob (.type "property") (.fields #[(.ref 2907),.none,.none,.none,(.str "last" (τ 13001019)),(.bool false)])
def OT:Obj:=dO τ "cidrs" "IPRange.cidrs" 13001035 13001039 1001 1 0 0 3 181 2923
def En:FuncData:=fdm τ "cidrs" "IPRange.cidrs" (an (aF 79) 6) (eU τ) 2928
def OU:Obj:=fnO (En τ)
def OV:Obj:=ob (.type "dict") (.dict #[en P om (τ 13000977) (.str "netaddr.ip" (τ 13000184)),en P oo (τ 13000981) (.int 962 (τ 13000980)),en P uC (τ 13000992) (.ref 2885),en P Jg (τ 13001003) (.ref 2892),en P BZ (τ 13001011) (.ref 2900),en P Je (τ 13001019) (.ref 2908),en P wJ (τ 13001026) (.ref 2915),en P wK (τ 13001034) (.ref 2922),en P RV (τ 13001041) (.ref 2929),en P BW (τ 13001048) (.ref 2936),en P BX (τ 13001055) (.ref 2943),en P oq (τ 13001059) (.ref 2944),en P nq3 (τ 13001060) .none] 2)
def OW:Obj:={cls:=(.type "type"),dict:=none,data:=(.cls {name:="IPRange",bases:=[(.ref 2613)],mro:=[(.ref 2946),(.ref 2613),(.ref 2317),(.type "object")],ns:=2945,qualname:="IPRange",hasDict:=true,slotNames:=[],subclasses:=[],abstract:=false,collection:=none,hasDel:=false}),slots:= #[(some (.ref 2871)),none,(some (.str "IPRange" (τ 13000970))),(some (.str "IPRange" (τ 13000978))),(some (.builtin "object.__new__")),(some (.bool true))]}
def Eo:Obj:=dO τ "cidr_merge" "cidr_merge" 13001063 13001077 1009 1 0 0 3 181 2949
def Ep:FuncData:=fdm τ "cidr_merge" "cidr_merge" (an pw.main.body 80) (eU τ) 2954
def OX:Obj:=fnO (Ep τ)
def OY:Obj:=dO τ "cidr_partition" "cidr_partition" 13001080 13001094 1040 2 0 0 3 181 2956
def Er:FuncData:=fdm τ "cidr_partition" "cidr_partition" (an pw.main.body 81) (eU τ) 2961
def OZ:Obj:=fnO (Er τ)
def O0:Obj:=se τ "spanning_cidr" "spanning_cidr" 13001097 13001100 1070 1 0 0 3 181 2963
def Es:FuncData:=fdm τ "spanning_cidr" "spanning_cidr" (an pw.main.body 82) (eU τ) 2966
def O3:Obj:=fnO (Es τ)
def O6:Obj:=ob (.type "tuple") (.seq #[(.int 1 (τ 13001103))] 0)
def O7:Obj:=dO τ "iter_iprange" "iter_iprange" 13001104 13001114 1097 3 0 0 35 181 2969
def O8:FuncData:=fdm τ "iter_iprange" "iter_iprange" (an pw.main.body 83) (eU τ) 2974 [] (.ref 2968)
def O9:Obj:=fnO (O8 τ)
def Pa:Obj:=dO τ "iprange_to_cidrs" "iprange_to_cidrs" 13001117 13001127 1120 2 0 0 3 181 2976
def Et:FuncData:=fdm τ "iprange_to_cidrs" "iprange_to_cidrs" (an pw.main.body 84) (eU τ) 2981
def Pb:Obj:=fnO (Et τ)
def Pc:Obj:=dO τ "_law_blocks" "_law_blocks" 13001132 13001140 1138 3 0 0 3 181 2983
def Eu:FuncData:=fdm τ "_law_blocks" "_law_blocks" (an pw.main.body 86) (B6 τ) 2988
def Pd:Obj:=fnO (Eu τ)
def Pe:Obj:=se τ "_law_told" "_law_told" 13001143 13001146 1147 1 0 0 3 181 2990
def Ev:FuncData:=fdm τ "_law_told" "_law_told" (an pw.main.body 87) (B6 τ) 2993
def Pf:Obj:=fnO (Ev τ)
def Pg:Obj:=se τ "_law_least" "_law_least" 13001149 13001152 1149 1 0 0 3 181 2995
def Ew:FuncData:=fdm τ "_law_least" "_law_least" (an pw.main.body 88) (B6 τ) 2998
def Ph:Obj:=fnO (Ew τ)
def Pi:Obj:=se τ "law" "law" 13001155 13001158 1162 1 0 0 3 181 3000
def Ey:FuncData:=fdm τ "law" "law" (an pw.main.body 89) (B6 τ) 3003
def Pj:Obj:=fnO (Ey τ)
def Ez:Obj:=ob .none (.fields #[])
def EA:Obj:=ob .none (.fields #[])
def K0:Frag:=[(2,o_2 P),(3,o_3 P τ),(4,o_4),(30,Vg P),(31,Vh),(32,Vi),(1366,MO τ),(1367,MP τ),(1371,MQ τ),(1372,MR τ),(1522,MS τ),(1526,D7 τ),(1527,MT τ),(1577,MU τ),(1583,MV τ),(1584,MW τ),(1637,MX P τ),(1638,MY τ),(1639,MZ τ),(1640,M0 τ),(1643,M7 P τ),(1644,M8),(2077,M9 P τ),(2078,Na τ),(2079,Nb τ),(2080,Nc τ),(2083,Nd τ),(2089,Nf τ),(2090,Nh τ),(2190,Ni P τ),(2191,Nj τ),(2192,Nk τ),(2193,Nl τ),(2196,Nm P τ),(2197,Nn),(2211,No τ),(2212,Np τ),(2236,Nq τ),(2270,Nr τ),(2271,Nt τ),(2284,Nu τ),(2285,Nw τ),(2312,Nx τ),(2313,Ny τ),(2314,Nz τ),(2316,NA P τ),(2317,NB τ),(2318,NC τ),(2319,ND τ),(2325,NE),(2330,NF τ),(2331,NG),(2337,NH τ),(2338,NI τ),(2414,NJ τ),(2415,NL τ),(2452,NM τ),(2460,NN τ),(2468,NO τ),(2476,NP τ),(2564,NQ P τ),(2565,NR τ),(2587,NS τ),(2588,NU τ),(2589,NV τ),(2612,NW P τ),(2613,NX τ),(2616,NY τ),(2617,NZ P τ),(2623,N0 τ),(2624,N1 τ),(2628,N2),(2633,N3 τ),(2634,N4 P τ),(2635,N5),(2641,N6 τ),(2642,N7 τ),(2655,N8 τ),(2656,N9 τ),(2664,Oa τ),(2665,Oc τ),(2666,Od τ),(2674,Oe τ),(2682,Of τ),(2690,Og τ),(2696,Oh τ),(2697,Oi τ),(2698,Oj τ),(2704,Ol τ),(2705,Om τ),(2706,On τ),(2723,Oo τ),(2729,Op τ),(2730,Ot τ),(2731,Ou τ),(2739,Ov τ),(2745,Ow τ),(2746,Ox τ),(2747,Oy τ),(2753,Oz τ),(2754,OC τ),(2755,OE τ),(2789,OF τ),(2790,OG τ),(2867,OH P τ),(2868,OJ τ),(2878,OK τ),(2884,OL τ),(2885,OM τ),(2898,ON τ),(2899,OO τ),(2900,OP τ),(2906,OQ τ),(2907,OR τ),(2908,OS τ),(2928,OT τ),(2929,OU τ),(2945,OV P τ),(2946,OW τ),(2954,Eo τ),(2955,OX τ),(2961,OY τ),(2962,OZ τ),(2966,O0 τ),(2967,O3 τ),(2968,O6 τ),(2974,O7 τ),(2975,O9 τ),(2981,Pa τ),(2982,Pb τ),(2988,Pc τ),(2989,Pd τ),(2993,Pe τ),(2994,Pf τ),(2998,Pg τ),(2999,Ph τ),(3003,Pi τ),(3004,Pj τ)]
noncomputable def T0:Frag:=[(1524,Ez),(2950,EA)]
def K1:Frag:=K0 P τ++T0
end
noncomputable def xj:List Nat:=[2,3,4,30,31,32,1366,1367,1371,1372,1522,1526,1527,1577,1583,1584,1637,1638,1639,1640,1643,1644,2077,2078,2079,2080,2083,2089,2090,2190,2191,2192,2193,2196,2197,2211,2212,2236,2270,2271,2284,2285,2312,2313,2314,2316,2317,2318,2319,2325,2330,2331,2337,2338,2414,2415,2452,2460,2468,2476,2564,2565,2587,2588,2589,2612,2613,2616,2617,2623,2624,2628,2633,2634,2635,2641,2642,2655,2656,2664,2665,2666,2674,2682,2690,2696,2697,2698,2704,2705,2706,2723,2729,2730,2731,2739,2745,2746,2747,2753,2754,2755,2789,2790,2867,2868,2878,2884,2885,2898,2899,2900,2906,2907,2908,2928,2929,2945,2946,2954,2955,2961,2962,2966,2967,2968,2974,2975,2981,2982,2988,2989,2993,2994,2998,2999,3003,3004,1524,2950]
end Az
section
section
namespace Az
noncomputable def jc(P:Params):BT:=fill 11 .nil 0 fun i=>match i with
 |0=>boot_o_0 P|1=>boot_o_1 P|2=>boot_o_2 P|3=>boot_o_3 P|4=>boot_o_4 P|5=>boot_o_5 P|6=>boot_o_6 P|7=>boot_o_7 P|8=>boot_o_8 P|9=>boot_o_9 P|_=>boot_o_10 P
noncomputable def S0(w:World)(os:OsState):SharedT:=⟨jc w.params,11,{},#[],boot_drawn,boot_toks,os⟩
structure Wp where
 p:Program
 w:World
 cf:Nat→Expr
 bf:Nat→List Stmt
noncomputable abbrev wp(v:World):Wp:=⟨pw,v,aL,nk⟩
structure Fl where
 g:Nat→Obj
 tk:Nat
 c:Code
 p:Pos
 xs:Array Value
 e:Int×Tok×Int×Tok
noncomputable def Vj:Thread:=⟨.raise .none,default,default,[]⟩
@[irreducible] noncomputable def dP(n:Nat)(w:Wp)(x:SharedT×Thread):SharedT×Thread:=match kGo treeTable w.p w.w n x.1 x.2 with
 |some y=>y
 |none=>(x.1,Vj)
theorem ow {n:Nat}{w:Wp}{x:SharedT×Thread}(h:goes (dP n w x).2=true):Comes (model w.p w.w) x.1.abs x.2 (dP n w x).1.abs (dP n w x).2:=by
 unfold dP at h⊢;split
 ·rename_i y hy;have:=pV n hy;rw[←table_eq_tree]at this;exact this
 ·rename_i hy;rw[hy]at h;cases h
noncomputable abbrev Seg:=Nat×Option (Nat→Obj)
noncomputable abbrev bk:=Bool×Code×List (Option Obj)×Option (List Obj)
noncomputable def mf(T:BT):Nat→Nat→Bool
 |0,_=>true
 |k+1,a=>match T.get a with
  |some o=>match alive o with
   |some _=>mf T k (a+1)
   |none=>false
  |none=>false
noncomputable def qa(T:BT):Nat→Nat→List Obj→Option (List Obj)
 |0,_,acc=>some acc
 |k+1,a,acc=>match T.get a with
  |some o=>qa T k (a+1) (o::acc)
  |none=>none
noncomputable def ox(g:Nat→Obj):Nat→Nat→List Obj→List Obj
 |0,_,acc=>acc
 |k+1,a,acc=>ox g k (a+1) (g a::acc)
noncomputable def oy(T:BT):List Seg→Nat→List Obj→Option (List Obj)
 |[],_,acc=>some acc
 |(k,m)::r,a,acc=>match m with
  |none=>match mf T k a with
   |true=>oy T r (a+k) acc
   |false=>none
  |some _=>match qa T k a acc with
   |some acc'=>oy T r (a+k) acc'
   |none=>none
noncomputable def lm:List Seg→Nat→List Obj→List Obj
 |[],_,acc=>acc
 |(k,m)::r,a,acc=>match m with
  |none=>lm r (a+k) acc
  |some g=>lm r (a+k) (ox g k a acc)
noncomputable def SZ(c:Code)(d:Env):Env:=match c with
 | .func _ e=>e
 | .compStart _ _ _ _ e=>e
 |_=>d
noncomputable def mh(e:Env)(x:Str):Bool:=match e.kindOf x with|some k=>(match k with| .local=>true|_=>false)|none=>false
noncomputable def te(e:Env)(x:Str):Bool:=match e.kindOf x with|some k=>(match k with| .globalImplicit=>true|_=>false)|none=>false
theorem iB {e:Env}{x:Str}(h:mh e x=true):e.kindOf x=some .local:=by
 unfold mh at h;split at h
 ·rename_i k hk;cases k<;>simp_all
 ·cases h
theorem oz {e:Env}{x:Str}(h:te e x=true):e.kindOf x=some .globalImplicit:=by
 unfold te at h;split at h
 ·rename_i k hk;cases k<;>simp_all
 ·cases h
noncomputable def wP(e:Env):Bool:=match e.scope.kind with| .function=>true|_=>false
theorem tj {e:Env}(h:wP e=true):e.scope.kind= .function:=by
 unfold wP at h;split at h
 ·assumption
 ·cases h
noncomputable def isInt(v:Option Value)(n:Int):Bool:=match v with
 |some v=>(match v with| .int k _=>decide (k=n)|_=>false)
 |none=>false
theorem tl {v:Option Value}{n:Int}(h:isInt v n=true):∃t,v=some (.int n t):=by
 unfold isInt at h;split at h
 ·split at h
  ·rename_i k t;exact⟨t,by rw[of_decide_eq_true h]⟩
  ·cases h
 ·cases h
noncomputable def GG:Str:=⟨⟨[98,105,116,115]⟩⟩
noncomputable def B7:Str:=⟨⟨[105]⟩⟩
noncomputable def nN:Str:=⟨⟨[110,117,109]⟩⟩
noncomputable def nL:Str:=⟨⟨[108,111,111,107,117,112]⟩⟩
noncomputable def nP:Str:=⟨⟨[98,105,116,115,95,112,101,114,95,98,121,116,101]⟩⟩
noncomputable def nR:Str:=⟨⟨[114,97,110,103,101]⟩⟩
noncomputable def nM4:Str:=⟨⟨[109,97,120,95,105,110,116,95,105,112,118,52]⟩⟩
noncomputable def nW4:Str:=⟨⟨[119,105,100,116,104,95,105,112,118,52]⟩⟩
noncomputable def nM6:Str:=⟨⟨[109,97,120,95,105,110,116,95,105,112,118,54]⟩⟩
noncomputable def nW6:Str:=⟨⟨[119,105,100,116,104,95,105,112,118,54]⟩⟩
noncomputable def A6(v:Option Value):Bool:=match v with
 |some v=>(match v with| .type n=>decide (n="range")|_=>false)
 |none=>false
theorem xl {v:Option Value}(h:A6 v=true):v=some (.type "range"):=by
 cases v with
 |none=>exact ff h
 |some v=>cases v with
  |type n=>rw[of_decide_eq_true h]
  |_=>exact ff h
noncomputable def Pk:Int:=4294967295
noncomputable def Pm:Int:=340282366920938463463374607431768211455
noncomputable def emptyDict(o:Obj):Bool:=match o.data with
 | .dict es _=>es.isEmpty
 |_=>false
noncomputable def ln(x:SharedT×Thread):Env:=SZ (codeAt x.2) default
noncomputable def xm(x:SharedT×Thread)(h:Nat):Bool:=
 goes x.2&&plainStk (stkAt x.2)&&Nat.beq x.1.n h&&x.1.gens.isEmpty
noncomputable def GH(x:SharedT×Thread)(e:Env)(g b:Obj):Bool:=
 xm x 43&&mf x.1.tree 43 0&& !interactive e&&wP e&&mh e GG&&mh e B7&&mh e nN&&mh e nL&&mh e nP&&te e nR&&
 Nat.beq e.locals 42&&Nat.beq e.globals 3&&Nat.beq e.builtins 0&&emptyDict (objAt x.1 42)&&nsO g&&nsO b&&(nsAt g nR).isNone&&A6 (nsAt b nR)
noncomputable def U0(w:Wp)(os:OsState):SharedT×Thread:=dP 335 w (S0 w.w os,topStub w.p)
noncomputable def fact0(w:Wp)(os:OsState):Bool×Code:=(GH (U0 w os) (ln (U0 w os)) (objAt (U0 w os).1 3) (objAt (U0 w os).1 0),codeAt (U0 w os).2)
noncomputable def fact0'(w:Wp)(os:OsState):Bool×Code:=(true,.func (w.bf 8) (ln (U0 w os)))
noncomputable def Pn(x:SharedT×Thread)(e:Env)(g:Obj)(h loc:Nat)(nM nW:Str)(M W:Int):Bool:=
 xm x h&&wP e&&mh e B7&&te e nM&&te e nW&&Nat.beq e.locals loc&&Nat.beq e.globals 3&&liveAt x.1 3&&nsO g&&isInt (nsAt g nM) M&&isInt (nsAt g nW) W
noncomputable def mj(x:SharedT×Thread)(R:List Seg)(it:Nat)(nM nW:Str)(M W:Int):bk:=
 (Pn x (ln x) (objAt x.1 3) (it+3) (it+2) nM nW M W,codeAt x.2,[x.1.tree.get it,x.1.tree.get (it+1),x.1.tree.get (it+2)],oy x.1.tree R 0 [])
noncomputable def ky(w:Wp)(x:SharedT×Thread)(R:List Seg)(ci it n:Nat):bk:=
 (true,.compStart (w.cf ci) 0 (.ref it) (.ref (it+1)) (ln x),[some {cls:= .type "range_iterator",dict:=none,data:= .fields #[rawInt 0,rawInt n,rawInt 1],slots:= #[]},some (listObj #[] 0),some (iDict none)],some (lm R 0 []))
noncomputable def ml(x:SharedT×Thread)(R:List Seg)(d l:Nat):bk:=
 (xm x (d+4),codeAt x.2,[x.1.tree.get d,x.1.tree.get l,x.1.tree.get (d+3)],oy x.1.tree R 0 [])
noncomputable def kz(R:List Seg)(d l:Nat)(xs:Array Value)(n:Nat):bk:=
 (true,.builtin "dict.update.loop" ⟨[.ref d,.ref (d+3),rawInt (0:Nat),.none],[]⟩,[some {cls:= .type "dict",data:= .dict #[]},some (listObj xs n),some {cls:= .type "list_iterator",data:= .fields #[.ref l,.int 0 0]}],some (lm R 0 []))
noncomputable abbrev Fs:=Nat→Fl
noncomputable def sh(s:Fs):Fs:=fun i=>s (i+1)
noncomputable def B8(f:Fl)(s:Fs):Fs:=fun i=>match i with
 |0=>f
 |i+1=>s i
noncomputable def gC(it n:Nat)(f:Fl):Nat→Obj:=know2 f.g (it+1) (listObj f.xs n) (it+2) (iDict (some f.e))
noncomputable abbrev Ly:=List Seg→List Seg
noncomputable def lyC(P:Ly)(gap it n:Nat)(f:Fl):Ly:=fun r=>P ((gap,none)::(1,some (gC it n f))::(2,none)::(n+2,some (gC it n f))::r)
noncomputable def lyD(P:Ly)(f:Fl):Ly:=fun r=>P ((1,some f.g)::(2,none)::(1,some f.g)::(2,some f.g)::r)
noncomputable def stC(x:SharedT×Thread)(it n:Nat)(f:Fl):SharedT×Thread:=(aft x.1 [it,it+1,it+2] (n+2) (gC it n f) f.tk,thr .next f.c f.p (stkAt x.2))
noncomputable def stD(x:SharedT×Thread)(d:Nat)(f:Fl):SharedT×Thread:=(aft x.1 [d,d+3] 2 f.g f.tk,thr (.ret .none) f.c f.p (stkAt x.2))
noncomputable def V0(w:Wp)(os:OsState)(s:Fs):SharedT×Thread:=(aft (U0 w os).1 [42] 1286 (s 0).g (s 0).tk,thr (.ret (.ref 43)) (s 0).c (s 0).p (stkAt (U0 w os).2))
noncomputable def P0(s:Fs):Ly:=fun r=>(42,none)::(1,some (s 0).g)::(1286,some (s 0).g)::r
noncomputable def GJ(w:Wp)(os:OsState)(s:Fs):SharedT×Thread:=dP 474 w (V0 w os s)
noncomputable def V1(w:Wp)(os:OsState)(s:Fs):SharedT×Thread:=stC (GJ w os (sh s)) 1388 33 (s 0)
noncomputable def P1(s:Fs):Ly:=lyC (P0 (sh s)) 59 1388 33 (s 0)
noncomputable def Po(w:Wp)(os:OsState)(s:Fs):SharedT×Thread:=dP 54 w (V1 w os s)
noncomputable def V2(w:Wp)(os:OsState)(s:Fs):SharedT×Thread:=stD (Po w os (sh s)) 1426 (s 0)
noncomputable def P2(s:Fs):Ly:=lyD (P1 (sh s)) (s 0)
noncomputable def GK(w:Wp)(os:OsState)(s:Fs):SharedT×Thread:=dP 58 w (V2 w os s)
noncomputable def V3(w:Wp)(os:OsState)(s:Fs):SharedT×Thread:=stC (GK w os (sh s)) 1433 33 (s 0)
noncomputable def P3(s:Fs):Ly:=lyC (P2 (sh s)) 1 1433 33 (s 0)
noncomputable def Pp(w:Wp)(os:OsState)(s:Fs):SharedT×Thread:=dP 54 w (V3 w os s)
noncomputable def V4(w:Wp)(os:OsState)(s:Fs):SharedT×Thread:=stD (Pp w os (sh s)) 1471 (s 0)
noncomputable def P4(s:Fs):Ly:=lyD (P3 (sh s)) (s 0)
noncomputable def GL(w:Wp)(os:OsState)(s:Fs):SharedT×Thread:=dP 58 w (V4 w os s)
noncomputable def V5(w:Wp)(os:OsState)(s:Fs):SharedT×Thread:=stC (GL w os (sh s)) 1478 33 (s 0)
noncomputable def P5(s:Fs):Ly:=lyC (P4 (sh s)) 1 1478 33 (s 0)
noncomputable def U6(w:Wp)(os:OsState)(s:Fs):SharedT×Thread:=dP 54 w (V5 w os s)
noncomputable def V6(w:Wp)(os:OsState)(s:Fs):SharedT×Thread:=stD (U6 w os (sh s)) 1516 (s 0)
noncomputable def P6(s:Fs):Ly:=lyD (P5 (sh s)) (s 0)
noncomputable def U7(w:Wp)(os:OsState)(s:Fs):SharedT×Thread:=dP 1149 w (V6 w os s)
noncomputable def V7(w:Wp)(os:OsState)(s:Fs):SharedT×Thread:=stC (U7 w os (sh s)) 1647 129 (s 0)
noncomputable def P7(s:Fs):Ly:=lyC (P6 (sh s)) 125 1647 129 (s 0)
noncomputable def U8(w:Wp)(os:OsState)(s:Fs):SharedT×Thread:=dP 54 w (V7 w os s)
noncomputable def V8(w:Wp)(os:OsState)(s:Fs):SharedT×Thread:=stD (U8 w os (sh s)) 1781 (s 0)
noncomputable def P8(s:Fs):Ly:=lyD (P7 (sh s)) (s 0)
noncomputable def U9(w:Wp)(os:OsState)(s:Fs):SharedT×Thread:=dP 58 w (V8 w os s)
noncomputable def V9(w:Wp)(os:OsState)(s:Fs):SharedT×Thread:=stC (U9 w os (sh s)) 1788 129 (s 0)
noncomputable def P9(s:Fs):Ly:=lyC (P8 (sh s)) 1 1788 129 (s 0)
noncomputable def U10(w:Wp)(os:OsState)(s:Fs):SharedT×Thread:=dP 54 w (V9 w os s)
noncomputable def V10(w:Wp)(os:OsState)(s:Fs):SharedT×Thread:=stD (U10 w os (sh s)) 1922 (s 0)
noncomputable def P10(s:Fs):Ly:=lyD (P9 (sh s)) (s 0)
noncomputable def U11(w:Wp)(os:OsState)(s:Fs):SharedT×Thread:=dP 58 w (V10 w os s)
noncomputable def V11(w:Wp)(os:OsState)(s:Fs):SharedT×Thread:=stC (U11 w os (sh s)) 1929 129 (s 0)
noncomputable def P11(s:Fs):Ly:=lyC (P10 (sh s)) 1 1929 129 (s 0)
noncomputable def U12(w:Wp)(os:OsState)(s:Fs):SharedT×Thread:=dP 54 w (V11 w os s)
noncomputable def V12(w:Wp)(os:OsState)(s:Fs):SharedT×Thread:=stD (U12 w os (sh s)) 2063 (s 0)
noncomputable def P12(s:Fs):Ly:=lyD (P11 (sh s)) (s 0)
noncomputable def R13(s:Fs):List Seg:=P12 s [(936,none)]
noncomputable def U13(w:Wp)(os:OsState)(s:Fs):SharedT×Thread:=dP 6983 w (V12 w os s)
noncomputable def XA0(w:Wp)(os:OsState)(s s1 s2 s3 s4 s5:Fs):bk×bk×bk×bk×bk×bk:=(mj (GJ w os s5) (P0 s5 [(62,none)]) 1388 nM4 nW4 Pk 32,ml (Po w os s4) (P1 s4 [(4,none)]) 1426 1389,mj (GK w os s3) (P2 s3 [(4,none)]) 1433 nM4 nW4 Pk 32,ml (Pp w os s2) (P3 s2 [(4,none)]) 1471 1434,mj (GL w os s1) (P4 s1 [(4,none)]) 1478 nW4 nW4 32 32,ml (U6 w os s) (P5 s [(4,none)]) 1516 1479)
noncomputable def XA(w:Wp)(os:OsState)(s:Fs):bk×bk×bk×bk×bk×bk:=XA0 w os s (sh s) (sh (sh s)) (sh (sh (sh s))) (sh (sh (sh (sh s)))) (sh (sh (sh (sh (sh s)))))
noncomputable def YA0(w:Wp)(os:OsState)(s s1 s2 s3 s4 s5:Fs):bk×bk×bk×bk×bk×bk:=(ky w (GJ w os s5) (P0 s5 [(62,none)]) 31 1388 33,kz (P1 s4 [(4,none)]) 1426 1389 (s4 0).xs 33,ky w (GK w os s3) (P2 s3 [(4,none)]) 32 1433 33,kz (P3 s2 [(4,none)]) 1471 1434 (s2 0).xs 33,ky w (GL w os s1) (P4 s1 [(4,none)]) 33 1478 33,kz (P5 s [(4,none)]) 1516 1479 (s 0).xs 33)
noncomputable def YA(w:Wp)(os:OsState)(s:Fs):bk×bk×bk×bk×bk×bk:=YA0 w os s (sh s) (sh (sh s)) (sh (sh (sh s))) (sh (sh (sh (sh s)))) (sh (sh (sh (sh (sh s)))))
noncomputable def XB0(w:Wp)(os:OsState)(s s1 s2 s3 s4 s5:Fs):bk×bk×bk×bk×bk×bk:=(mj (U7 w os s5) (P6 s5 [(128,none)]) 1647 nM6 nW6 Pm 128,ml (U8 w os s4) (P7 s4 [(4,none)]) 1781 1648,mj (U9 w os s3) (P8 s3 [(4,none)]) 1788 nM6 nW6 Pm 128,ml (U10 w os s2) (P9 s2 [(4,none)]) 1922 1789,mj (U11 w os s1) (P10 s1 [(4,none)]) 1929 nW6 nW6 128 128,ml (U12 w os s) (P11 s [(4,none)]) 2063 1930)
noncomputable def XB(w:Wp)(os:OsState)(s:Fs):bk×bk×bk×bk×bk×bk:=XB0 w os s (sh s) (sh (sh s)) (sh (sh (sh s))) (sh (sh (sh (sh s)))) (sh (sh (sh (sh (sh s)))))
noncomputable def YB0(w:Wp)(os:OsState)(s s1 s2 s3 s4 s5:Fs):bk×bk×bk×bk×bk×bk:=(ky w (U7 w os s5) (P6 s5 [(128,none)]) 56 1647 129,kz (P7 s4 [(4,none)]) 1781 1648 (s4 0).xs 129,ky w (U9 w os s3) (P8 s3 [(4,none)]) 57 1788 129,kz (P9 s2 [(4,none)]) 1922 1789 (s2 0).xs 129,ky w (U11 w os s1) (P10 s1 [(4,none)]) 58 1929 129,kz (P11 s [(4,none)]) 2063 1930 (s 0).xs 129)
noncomputable def YB(w:Wp)(os:OsState)(s:Fs):bk×bk×bk×bk×bk×bk:=YB0 w os s (sh s) (sh (sh s)) (sh (sh (sh s))) (sh (sh (sh (sh s)))) (sh (sh (sh (sh (sh s)))))
theorem XA_self:XA=XA:=rfl
theorem YA_self:YA=YA:=rfl
theorem XB_self:XB=XB:=rfl
theorem YB_self:YB=YB:=rfl
theorem U13_self:U13=U13:=rfl
theorem R13_self:R13=R13:=rfl
theorem fact0_self:fact0=fact0:=rfl
theorem fact0'_self:fact0'=fact0':=rfl
theorem Ta:GG="bits":=by kernel_rfl
theorem Jz:B7="i":=by kernel_rfl
theorem Tb:nN="num":=by kernel_rfl
theorem Tc:nL="lookup":=by kernel_rfl
theorem Td:nP="bits_per_byte":=by kernel_rfl
theorem B9:nR="range":=by kernel_rfl
end Az
end
lay_quick Az.kGo Az.kOne Az.kJump Az.goes Az.codeAt Az.stkAt Az.plainStk Az.liveAt Az.objAt Az.treeFull Az.fill Az.setAll Az.behind Az.nsO Az.nsAt Az.know2 Az.listObj Az.iDict Az.aft Az.thr
name_quick fact0Q for Az.fact0 by Az.fact0_self
name_quick fact0R for Az.fact0' by Az.fact0'_self
name_quick XAQ for Az.XA by Az.XA_self
name_quick YAQ for Az.YA by Az.YA_self
name_quick XBQ for Az.XB by Az.XB_self
name_quick YBQ for Az.YB by Az.YB_self
name_quick U13Q for Az.U13 by Az.U13_self
name_quick R13Q for Az.R13 by Az.R13_self
namespace Az
theorem Vk(w:World)(os:OsState):fact0 (wp w) os=fact0' (wp w) os:=by
 rw[show fact0=PySem.W.Fast.fact0Q from PySem.W.Fast.fact0Q_eq,show fact0'=PySem.W.Fast.fact0R from PySem.W.Fast.fact0R_eq];kernel_rfl
theorem GN(w:World)(os:OsState)(s:Fs):XA (wp (w.withFollow "special-get-raises" false)) os s=YA (wp (w.withFollow "special-get-raises" false)) os s:=by
 rw[show XA=PySem.W.Fast.XAQ from PySem.W.Fast.XAQ_eq,show YA=PySem.W.Fast.YAQ from PySem.W.Fast.YAQ_eq];kernel_rfl
theorem J6(w:World)(os:OsState)(s:Fs):XA (wp (w.withFollow "special-get-raises" true)) os s=YA (wp (w.withFollow "special-get-raises" true)) os s:=by
 rw[show XA=PySem.W.Fast.XAQ from PySem.W.Fast.XAQ_eq,show YA=PySem.W.Fast.YAQ from PySem.W.Fast.YAQ_eq];kernel_rfl
theorem GO(w:World)(os:OsState)(s:Fs):XB (wp (w.withFollow "special-get-raises" false)) os s=YB (wp (w.withFollow "special-get-raises" false)) os s:=by
 rw[show XB=PySem.W.Fast.XBQ from PySem.W.Fast.XBQ_eq,show YB=PySem.W.Fast.YBQ from PySem.W.Fast.YBQ_eq];kernel_rfl
theorem J7(w:World)(os:OsState)(s:Fs):XB (wp (w.withFollow "special-get-raises" true)) os s=YB (wp (w.withFollow "special-get-raises" true)) os s:=by
 rw[show XB=PySem.W.Fast.XBQ from PySem.W.Fast.XBQ_eq,show YB=PySem.W.Fast.YBQ from PySem.W.Fast.YBQ_eq];kernel_rfl
end Az
end
namespace Az
noncomputable def mO(T:BT):List Seg→Nat→Prop
 |[],_=>True
 |(k,m)::r,a=>(match m with
  |none=>∀i,a≤i→i<a+k→∃o,T.get i=some o∧(alive o).isSome=true
  |some g=>∀i,a≤i→i<a+k→T.get i=some (g i))∧mO T r (a+k)
noncomputable def dZ:List Seg→Nat→Prop
 |[],_=>True
 |(k,m)::r,a=>(match m with
  |none=>True
  |some g=>∀i,a≤i→i<a+k→(alive (g i)).isSome=true)∧dZ r (a+k)
theorem SA.nil:dZ [] a:=trivial
theorem SA.none(h:dZ r (a+k)):dZ ((k,.none)::r) a:=⟨trivial,h⟩
theorem SA.some(h1:∀i,a≤i→i<a+k→(alive (g i)).isSome=true)(h:dZ r (a+k)):dZ ((k,.some g)::r) a:=⟨h1,h⟩
theorem ic(h:mO T ((k,m)::r) a):mO T r (a+k):=h.2
theorem okH(h:mO T ((k,some g)::r) a):∀i,a≤i→i<a+k→T.get i=some (g i):=h.1
noncomputable def mm:List Seg→Nat→Nat
 |[],a=>a
 |(k,_)::r,a=>mm r (a+k)
theorem oA(k a:Nat)(h:mf T k a=true)(i:Nat)(h1:a≤i)(h2:i<a+k):∃o,T.get i=some o∧(alive o).isSome=true:=by
 induction k generalizing a with
 |zero=>exact absurd h2 (Nat.not_lt_of_le h1)
 |succ k ih=>
  replace h:(match T.get a with|some o=>(match alive o with|some _=>mf T k (a+1)|none=>false)|none=>false)=true:=h;cases ho:T.get a with
  |none=>rw[ho]at h;exact ff h
  |some o=>
   rw[ho]at h;replace h:(match alive o with|some _=>mf T k (a+1)|none=>false)=true:=h;cases hv:alive o with
   |none=>rw[hv]at h;exact ff h
   |some o'=>
    rw[hv]at h
    by_cases q:i=a
    ·subst q;exact⟨o,ho,congrArg Option.isSome hv⟩
    ·exact ih (a+1) h (Nat.lt_of_le_of_ne h1 (Ne.symm q)) (fj3 (Y1 X0 (.a (.i X1) X2)) [Y1 X0 (.a X1 (.i X2))] rfl h2)
theorem EB:qa T (k+1) a acc=(T.get a).elim none fun o=>qa T k (a+1) (o::acc):=by show(match T.get a with|some o=>_|none=>_)=_;cases T.get a<;>rfl
theorem GP(k a:Nat)(acc l:List Obj)(h:qa T k a acc=some l):l.length=acc.length+k:=by
 induction k generalizing a acc with
 |zero=>cases h;rfl
 |succ k ih=>
  rw[EB]at h;cases ho:T.get a with
  |none=>rw[ho]at h;exact nn h
  |some o=>
   rw[ho]at h;rw[ih (a+1) (o::acc) h,lCo,Nat.add_right_comm,Nat.add_assoc]
theorem EC(k a:Nat)(acc:List Obj):(ox g k a acc).length=acc.length+k:=by
 induction k generalizing a acc with
 |zero=>rfl
 |succ k ih=>show(ox g k (a+1) (g a::acc)).length=_;rw[ih,lCo,Nat.add_right_comm,Nat.add_assoc]
theorem vB(k a:Nat)(acc acc':List Obj)(hl:acc.length=acc'.length)(h:qa T k a acc=some (ox g k a acc')):acc=acc'∧∀i,a≤i→i<a+k→T.get i=some (g i):=by
 induction k generalizing a acc acc' with
 |zero=>exact⟨Option.some.inj h,fun i h1 h2=>absurd h2 (Nat.not_lt_of_le h1)⟩
 |succ k ih=>
  rw[EB]at h;cases ho:T.get a with
  |none=>rw[ho]at h;exact nn h
  |some o=>
   rw[ho]at h;obtain⟨e,hi⟩:=ih (a+1) (o::acc) (g a::acc') (congrArg (·+1) hl) h;refine⟨(List.cons.inj e).2,fun i h1 h2=>?_⟩
   by_cases q:i=a
   ·subst q;rw[ho,(List.cons.inj e).1]
   ·exact hi i (Nat.lt_of_le_of_ne h1 (Ne.symm q)) (fj3 (Y1 X0 (.a (.i X1) X2)) [Y1 X0 (.a X1 (.i X2))] rfl h2)
theorem qb(R:List Seg)(a:Nat)(acc acc':List Obj)(hl:acc.length=acc'.length)(h:oy T R a acc=some (lm R a acc')):acc=acc'∧mO T R a:=by
 induction R generalizing a acc acc' with
 |nil=>exact⟨Option.some.inj h,trivial⟩
 |cons s r ih=>
  obtain⟨k,m⟩:=s;cases m with
  |none=>
   replace h:(match mf T k a with|true=>oy T r (a+k) acc|false=>none)=some (lm r (a+k) acc'):=h;cases hv:mf T k a with
   |false=>rw[hv]at h;exact nn h
   |true=>rw[hv]at h;exact⟨(ih (a+k) acc acc' hl h).1,oA k a hv,(ih (a+k) acc acc' hl h).2⟩
  |some g=>
   replace h:(match qa T k a acc with|some acc1=>oy T r (a+k) acc1|none=>none)=some (lm r (a+k) (ox g k a acc')):=h;cases hv:qa T k a acc with
   |none=>rw[hv]at h;exact nn h
   |some acc1=>
    rw[hv]at h;obtain⟨e,ok⟩:=ih (a+k) acc1 (ox g k a acc') (by rw[GP k a acc acc1 hv,EC,hl]) h;subst e;exact⟨(vB k a acc acc' hl hv).1,(vB k a acc acc' hl hv).2,ok⟩
theorem xn(R:List Seg)(a:Nat)(h:mO T R a)(hs:dZ R a)(i:Nat)(h1:a≤i)(h2:i<mm R a):∃o,T.get i=some o∧(alive o).isSome=true:=by
 induction R generalizing a with
 |nil=>exact absurd h2 (Nat.not_lt_of_le h1)
 |cons s r ih=>
  obtain⟨k,m⟩:=s
  by_cases q:i<a+k
  ·cases m with
   |none=>exact h.1 i h1 q
   |some g=>exact⟨_,h.1 i h1 q,hs.1 i h1 q⟩
  ·exact ih (a+k) h.2 hs.2 (nNl q) h2
theorem qT(hg:S.gens.isEmpty=true)(hn:S.n=n)(hok:mO S.tree R 0)(ha:dZ R 0)(ht:mm R 0=n):eh S:=by
 haveI key:∀i,i<S.n→∃o,S.tree.get i=some o∧(alive o).isSome=true:=fun i hi=>xn R 0 hok ha i (nZl _) (by rw[ht,←hn];exact hi)
 refine⟨Array.isEmpty_iff.mp hg,fun b hb=>?_,List.all_eq_true.mpr fun i hi=>?_⟩
 ·haveI hb':b<S.n:=by rw[←ij S];exact hb
  obtain⟨o,h1,h2⟩:=key b hb';show((absHeap S.tree S.n S.life).get? b).isSome=true;rw[abs_get hb' h1];exact h2
 ·obtain⟨o,h1,_⟩:=key i (List.mem_range.mp hi);rw[h1];rfl
theorem fY {S:SharedT}{i:Nat}{o:Obj}(hi: @LT.lt Nat _ i S.n)(h:S.tree.get i=some o)(ha:alive o=some o):S.abs.heap.get? i=some o:=by
 show(absHeap S.tree S.n S.life).get? i=_;rw[abs_get hi h,ha]
theorem J8(hG:eh S)(h:i<S.n+k)(hi:i∈own∨(S.n≤i)):(behind S.tree own S.n k g).get i=some (g i):=by
 have ht:=kV hG.tree;have hs:∀j,j<S.n→((setAll g own S.tree).get j).isSome=true:=fun j hj=>by
  rw[gG _ _ _ _ (ht j hj)];split
  ·rfl
  ·exact ht j hj
 show(fill _ _ _ _).get i=_;rw[oh _ _ _ _ hs];split
 ·rfl
 ·rename_i q;have q':i<S.n:=by omega
  rw[gG _ _ _ _ (ht i q')];rcases hi with hi|hi
  ·rw[if_pos hi]
  ·omega
theorem qc(hG:eh S)(hA:eh (aft S own k g tk))(h:i<S.n+k)(hi:i∈own∨(S.n≤i)):(alive (g i)).isSome=true:=by
 have:=hA.full i (by rw[ij];exact h);have e:(aft S own k g tk).abs.heap.get? i=alive (g i):=abs_get (t:=behind S.tree own S.n k g) (n:=S.n+k) (life:=S.life) h (J8 hG h hi);rw[e]at this;exact this
theorem aw(h:(a&&b)=true):a=true∧b=true:=cS h
inductive J9(w:World)(x:SharedT×Thread)(it n:Nat):Prop
 |mk (b:goes x.2=true) (f:Fl) (t:Comes (model pw w) x.1.abs x.2 (stC x it n f).1.abs (stC x it n f).2) (z:f.xs.size=n) (y:∀q,q<n→f.xs[q]?=some (.ref (it+3+q))) (p:∀q,q<n→∃a b ta tb,f.g (it+3+q)=fJ a b ta tb)
  (A:∀i,i<it+3+(n+2)→i∈[it,it+1,it+2]∨it+3≤i→(alive (gC it n f i)).isSome=true)
inductive Pq(w:World)(x:SharedT×Thread)(d:Nat):Prop
 |mk (b:goes x.2=true) (f:Fl) (t:Comes (model pw w) x.1.abs x.2 (stD x d f).1.abs (stD x d f).2) (A:∀i,i<d+4+2→i∈[d,d+3]∨d+4≤i→(alive (f.g i)).isSome=true)
inductive Pr(x:SharedT×Thread)(h:Nat):Prop
 |mk (b1:goes x.2=true) (b2:plainStk (stkAt x.2)=true) (hn:x.1.n=h) (b4:x.1.gens.isEmpty=true)
theorem qd(hb:xm x h=true):Pr x h:=
 ⟨(aw (aw (aw hb).1).1).1,(aw (aw (aw hb).1).1).2,nEb (aw (aw hb).1).2,(aw hb).2⟩
theorem ltA:a<a+(k+1):=Nat.lt_add_of_pos_right (Nat.succ_pos k)
theorem ltB {a b c:Nat}(h:b<c):a+b<a+c:=Nat.add_lt_add_left h a
theorem ED {it n ci:Nat}{M W:Int}
  (hX:mj x R it nM nW M W=ky (wp w) x R ci it n)(hR:mm R 0=it+3)(hA:dZ R 0)
  (hc:aL ci= .ListComp elt [⟨.Name "i" p0,iU (aL ci),[],0⟩] (hS (aL ci)) (kj (aL ci)))
  (he:∀{env:Env} {tw tm:Tok} {mg:Str→Option Value},pZ env nM nW→El pw w env elt nM nW M W tm tw mg)
  (h3:3<it)(hn:n≤1000)(hn0:0<n)(hW:(n:Int)=W+1):J9 w x it n:=by
 obtain⟨S,th⟩:=x;have hb:Pn (S,th) (ln (S,th)) (objAt S 3) (it+3) (it+2) nM nW M W=true:=congrArg (·.1) hX;have hcode:codeAt th= .compStart (aL ci) 0 (.ref it) (.ref (it+1)) (ln (S,th)):=congrArg (·.2.1) hX;have hl:[S.tree.get it,S.tree.get (it+1),S.tree.get (it+2)]=[some _,some _,some _]:=congrArg (·.2.2.1) hX;have hok:=(qb R 0 [] [] rfl (congrArg (·.2.2.2) hX)).2;clear hX;generalize ln (S,th)=env at *;obtain⟨hb,b16⟩:=aw hb;obtain⟨hb,b15⟩:=aw hb;obtain⟨hb,b14⟩:=aw hb;obtain⟨hb,b13⟩:=aw hb;obtain⟨hb,b12⟩:=aw hb;obtain⟨hb,b11⟩:=aw hb;obtain⟨hb,b10⟩:=aw hb;obtain⟨hb,b9⟩:=aw hb;obtain⟨hb,b8⟩:=aw hb;obtain⟨hb,b7⟩:=aw hb;obtain⟨b1,b2,hn',b4⟩:=qd hb;have hG:eh S:=qT b4 hn' hok hA hR;have eL:env.locals=it+2:=nEb b11;have eG:env.globals=3:=nEb b12;obtain⟨tm,gM⟩:=tl b15;obtain⟨tw,gW⟩:=tl b16;have C:pZ env nM nW:=⟨tj b7,Jz▸iB b8,oz b9,oz b10⟩;obtain⟨g,tk,c',p',xs,e,hcm,q1,q2,q3,q4,q5,q6⟩:=D3 (w:=w) hG b1 b2 hcode hc (he C) C (by rw[eL];exact nNe (Nat.lt_succ_self _)) (by rw[eL];exact nNe ltA) (nNe ltA)
  (by rw[eL,eG];exact nNe (nLl h3 (Nat.le_add_right _ _))) (by rw[eG];exact nNe (Nat.lt_succ_of_lt h3)) (by rw[eG];exact nNe h3) hn hn0 hW gM gW (by rw[eG];exact wI (BP b13) b14)
  (by rw[eL];exact fY (hn'▸ltB (by decide)) (List.cons.inj (List.cons.inj (List.cons.inj hl).2).2).1 rfl) (fY (hn'▸ltB (by decide)) (List.cons.inj (List.cons.inj hl).2).1 rfl) (fY (hn'▸ltA) (List.cons.inj hl).1 rfl)
 rw[eL]at hcm q4;replace hn':S.n=it+3:=hn';rw[hn']at q2 q3;exact⟨b1,⟨g,tk,c',p',xs,e⟩,hcm,q1,q2,q3,fun i hi hm=>qc hG q4 (hn'▸hi) (hn'▸hm)⟩
theorem GQ {w:World}{x:SharedT×Thread}{R:List Seg}{d l n:Nat}{xs:Array Value}
  (hX:ml x R d l=kz R d l xs n)(hR:mm R 0=d+4)(hA:dZ R 0)
  (hld:l<d)(hn:xs.size=n)(hn':n≤1000){h':Nat}(hh:h'+n<d){g:Nat→Obj}
  (hx:∀q,q<n→xs[q]?=some (.ref (h'+q)))(hp:∀q,q<n→∃a b ta tb,g (h'+q)=fJ a b ta tb)(hreg:mO x.1.tree R 0→∀q,q<n→x.1.tree.get (h'+q)=some (g (h'+q))):
  Pq w x d:=by
 obtain⟨S,th⟩:=x;have hb:xm (S,th) (d+4)=true:=congrArg (·.1) hX;have hl:[S.tree.get d,S.tree.get l,S.tree.get (d+3)]=[some _,some _,some _]:=congrArg (·.2.2.1) hX;have hok:=(qb R 0 [] [] rfl (congrArg (·.2.2.2) hX)).2;obtain⟨b1,b2,hnS,b4⟩:=qd hb;replace hnS:S.n=d+4:=hnS;have hG:eh S:=qT b4 hnS hok hA hR;have l4:l<d+4:=Nat.lt_add_right 4 hld;obtain⟨g2,tk,c',p',hcm,hGA⟩:=Gr (w:=w) hG b1 b2 (congrArg (·.2.1) hX) hn hn' (nNe ltA) (nNe hld) (nNe (Nat.lt_add_right 3 hld)) (fY (hnS▸ltA) (List.cons.inj hl).1 rfl) (fY (hnS▸l4) (List.cons.inj (List.cons.inj hl).2).1 rfl) (fY (hnS▸ltB (by decide)) (List.cons.inj (List.cons.inj (List.cons.inj hl).2).2).1 rfl)
  (fun q hq=>
   have k:h'+q<d:=Nat.lt_trans (ltB hq) hh;let⟨a,b,ta,tb,e⟩:=hp q hq
   ⟨h'+q,a,b,ta,tb,hx q hq,nNe k,nNe (Nat.lt_add_right 3 k),fY (hnS▸Nat.lt_add_right 4 k) ((hreg hok q hq).trans (congrArg some e)) rfl⟩)
 exact⟨b1,⟨g2,tk,c',p',#[],(0,0,0,0)⟩,hcm,fun i hi hm=>qc hG hGA (hnS▸hi) (hnS▸hm)⟩
theorem GR(h1:i≠a)(h2:i≠b):know2 g a o b o' i=g i:=by
 unfold know2;have e1:Nat.beq i a=false:=by cases h:Nat.beq i a with|false=>rfl|true=>exact absurd (nEb h) h1
 have e2:Nat.beq i b=false:=by cases h:Nat.beq i b with|false=>rfl|true=>exact absurd (nEb h) h2
 rw[e1,e2]
theorem Ca(h1:a≤i)(h2:i<a+1):i∈a::l:=by
 have:i=a:=nAs (fj2 (Y0 X0 X1) [Y1 X0 (.i X1)] rfl h2) (h1);subst this;exact .head _
inductive Vl(x:SharedT×Thread)(e:Env)(g b:Obj):Prop
 |mk (h0:Pr x 43) (h3:eh x.1) (h4:interactive e=false) (h5:e.scope.kind= .function) (h6:e.kindOf GG=some .local) (h7:e.kindOf B7=some .local) (h8:e.kindOf nN=some .local) (h9:e.kindOf nL=some .local) (h10:e.kindOf nP=some .local) (h11:e.kindOf nR=some .globalImplicit) (h12:e.locals=42) (h13:e.globals=3) (h14:e.builtins=0) (h15:x.1.abs.heap.Ns 42 (fun _=>none)) (h16:x.1.abs.heap.Ns 3 (nsAt g)) (h17:x.1.abs.heap.Ns 0 (nsAt b)) (h18:nsAt g nR=none) (h19:nsAt b nR=some (.type "range"))
theorem xo {h:Heap}{a:Addr}{o:Obj}(e:h.get? a=some o)(hd:emptyDict o=true):h.Ns a (fun _=>none):=by
 obtain⟨c,d,D,sl⟩:=o;cases D with
 |dict es k=>
  have he:es= #[]:=Array.isEmpty_iff.mp hd;subst he;have h:=wI e (by unfold nsO;kernel_rfl);rwa[show nsAt _=fun _=>none from funext fun n=>by unfold nsAt;kernel_rfl]at h
 |_=>exact ff hd
theorem not_false(h:(!b)=true):b=false:=by cases b with|false=>rfl|true=>exact ff h
theorem EE {x:SharedT×Thread}{e:Env}(h:GH x e (objAt x.1 3) (objAt x.1 0)=true):Vl x e (objAt x.1 3) (objAt x.1 0):=by
 obtain⟨h,c22⟩:=aw h;obtain⟨h,c21⟩:=aw h;obtain⟨h,c20⟩:=aw h;obtain⟨h,c19⟩:=aw h;obtain⟨h,c18⟩:=aw h;obtain⟨h,c17⟩:=aw h;obtain⟨h,c16⟩:=aw h;obtain⟨h,c15⟩:=aw h;obtain⟨h,c14⟩:=aw h;obtain⟨h,c13⟩:=aw h;obtain⟨h,c12⟩:=aw h;obtain⟨h,c11⟩:=aw h;obtain⟨h,c10⟩:=aw h;obtain⟨h,c9⟩:=aw h;obtain⟨h,c8⟩:=aw h;obtain⟨h,c7⟩:=aw h;obtain⟨h,c5⟩:=aw h;have D:=qd h;obtain⟨c1,c2,hn,c4⟩:=D;have hG:eh x.1:=qT c4 hn (R:=[(43,none)]) ⟨fun i a b=>oA 43 0 c5 i a b,trivial⟩ ⟨trivial,trivial⟩ rfl;have lv:∀i:Nat,i<43→x.1.abs.heap.get? i=some (objAt x.1 i):=fun i hi=>by
  obtain⟨o,h1,h2⟩:=oA 43 0 c5 i (nZl _) (by assumption);have:objAt x.1 i=o:=by unfold objAt;rw[h1];rfl
  rw[this];obtain⟨o',h3⟩:=oSm h2;exact fY (hn▸hi) h1 (by rw[h3,lh h3])
 exact⟨⟨c1,c2,hn,c4⟩,hG,not_false c7,tj c8,iB c9,iB c10,iB c11,iB c12,iB c13,oz c14,nEb c15,nEb c16,nEb c17,
  xo (lv 42 (Nat.lt_succ_self _)) c18,wI (lv 3 (by decide)) c19,wI (lv 0 (Nat.succ_pos _)) c20,Option.isNone_iff_eq_none.mp c21,xl c22⟩
inductive oC(v:World)(os:OsState)(V:Wp→OsState→Fs→SharedT×Thread)(P:Fs→Ly)(e:Nat):Prop
 |mk (ht:∀s r,mm (P s r) 0=mm r e) (hk:∀{T s r},mO T (P s r) 0→mO T r e) (s:Fs) (T:Comes (model pw v) (S0 v os).abs (topStub pw) (V (wp v) os s).1.abs (V (wp v) os s).2) (A:∀{r},dZ r e→dZ (P s r) 0)
theorem Ps(v:World)(os:OsState):oC v os V0 P0 1329:=by
 have h0:=Vk v os;have hc:codeAt (U0 (wp v) os).2= .func (nk 8) (ln (U0 (wp v) os)):=congrArg Prod.snd h0;have hb:GH _ _ _ _=true:=congrArg Prod.fst h0;have hV:∀s,V0 (wp v) os s=(aft (U0 (wp v) os).1 [42] 1286 (s 0).g (s 0).tk,thr (.ret (.ref 43)) (s 0).c (s 0).p (stkAt (U0 (wp v) os).2)):=fun _=>rfl
 obtain⟨⟨c1,c2,c3,-⟩,hG,c4,c5,c6,c7,c8,c9,c10,c11,c12,c13,c14,n1,n2,n3,g1,g2⟩:=EE hb;have hcm0:Comes _ _ _ (U0 (wp v) os).1.abs (U0 (wp v) os).2:=ow (w:=wp v) c1;clear h0 hb;generalize U0 (wp v) os=x at *;generalize ln x=env at *;obtain⟨K,hK⟩:∃K:Nat,1286=K:=⟨_,rfl⟩;obtain⟨g,tk,c',p',hcm,hGA⟩:=D4 (w:=v) hK hG c1 c2 hc c4 c5 (Ta▸c6) (Jz▸c7) (Tb▸c8) (Tc▸c9) (Td▸c10) (B9▸c11)
  (by rw[c12];exact n1) (by rw[c13];exact n2) (B9▸g1) (by rw[c14];exact n3) (B9▸g2) (by rw[c13,c12];exact(by decide:(3:Nat)≠42)) (by rw[c14,c12];exact(by decide:(0:Nat)≠42))
 rw[c12,c3]at hcm;rw[c12]at hGA;subst hK;have A:∀i,i<43+1286→i∈[42]∨43≤i→(alive (g i)).isSome=true:=fun i hi hm=>qc hG hGA (c3▸hi) (c3▸hm)
 exact⟨fun s r=>rfl,fun h=>ic (ic (ic h)),fun _=>⟨g,tk,c',p',#[],(0,0,0,0)⟩,(hV _).symm▸hcm0.trans hcm,
  fun hr=>SA.none (SA.some (fun i p q=>A i (fj1 (Y1 X0 (.a (.k 43) (.k 1286))) [Y1 X0 (.i (.a (.k 0) (.k 42)))] rfl q) (.inl (Ca p q))) (SA.some (fun i p q=>A i q (.inr p)) hr))⟩
theorem uD {v:World}{os:OsState}{V:Wp→OsState→Fs→SharedT×Thread}{P:Fs→Ly}{e gap it n k1 k2 ci:Nat}{nM nW:Str}{M W:Int}{elt:Expr}{p0:Pos}
  (I:oC v os V P e)(he:e+gap=it)
  (h1:∀s,mj (dP k1 (wp v) (V (wp v) os s)) (P s [(gap+3,none)]) it nM nW M W=ky (wp v) (dP k1 (wp v) (V (wp v) os s)) (P s [(gap+3,none)]) ci it n)
  (h2:∀s,ml (dP k2 (wp v) (stC (dP k1 (wp v) (V (wp v) os (sh s))) it n (s 0))) (lyC (P (sh s)) gap it n (s 0) [(4,none)]) (it+3+(n+2)) (it+1)=kz (lyC (P (sh s)) gap it n (s 0) [(4,none)]) (it+3+(n+2)) (it+1) (s 0).xs n)
  (hc:aL ci= .ListComp elt [⟨.Name "i" p0,iU (aL ci),[],0⟩] (hS (aL ci)) (kj (aL ci)))
  (hel:∀{env:Env} {tw tm:Tok} {mg:Str→Option Value},pZ env nM nW→El pw v env elt nM nW M W tm tw mg)
  (h3:3<it)(hn:n≤1000)(hn0:0<n)(hW:(n:Int)=W+1):
  oC v os (fun w os s=>stD (dP k2 w (stC (dP k1 w (V w os (sh (sh s)))) it n (s 1))) (it+3+(n+2)) (s 0)) (fun s=>lyD (lyC (P (sh (sh s))) gap it n (s 1)) (s 0)) (it+3+(n+2)+6):=by
 subst he;obtain⟨ht,hk,s,T,A⟩:=I;obtain⟨b,f,t,z,y,p,A1⟩:=ED (h1 s) (ht _ _) (A (SA.none SA.nil)) hc hel h3 hn hn0 hW;have a1:=fun i p q=>A1 i (Nat.lt_trans q (fj3 (Y1 (.i (.a X0 X1)) (.a (.a (.a X0 X1) (.k 3)) (.a X2 (.k 2)))) [] rfl)) (.inl (Ca p q))
 have a2:=fun i p q=>A1 i q (.inr p)
 obtain⟨b2,f2,t2,A2⟩:=GQ (g:=gC (e+gap) n f) (h2 (B8 f s)) (ht _ _) (A (SA.none (SA.some a1 (SA.none (SA.some a2 (SA.none SA.nil)))))) (fj3 (Y1 (.i (.a X0 X1)) (.a (.a (.a X0 X1) (.k 3)) (.a X2 (.k 2)))) [] rfl) z hn (fj3 (Y1 (.a (.a (.a X0 X1) (.k 3)) X2) (.a (.a (.a X0 X1) (.k 3)) (.a X2 (.k 2)))) [] rfl) y
  (fun q hq=>let⟨a,b,ta,tb,e⟩:=p q hq;⟨a,b,ta,tb,(GR (fun hz=>fj3 (0,3,.k 0,.k 0) [Y2 (.a (.a (.a X0 X1) (.k 3)) X2) (.i (.a X0 X1))] rfl hz) (fun hz=>fj3 (0,3,.k 0,.k 0) [Y2 (.a (.a (.a X0 X1) (.k 3)) X2) (.a (.a X0 X1) (.k 2))] rfl hz)).trans e⟩) (fun hok q hq=>okH (ic (ic (ic (hk hok)))) _ (fj [e,gap,q] (Y0 (.a (.i (.a X0 X1)) (.k 2)) (.a (.a (.a X0 X1) (.k 3)) X2)) [] rfl) (fj4 (Y1 (.a (.a (.a X0 X1) (.k 3)) X2) (.a (.a (.i (.a X0 X1)) (.k 2)) (.a X3 (.k 2)))) [Y1 X2 X3] rfl hq))
 exact⟨fun s r=>ht _ _,fun h=>let q:=ic (ic (ic (ic (ic (ic (ic (ic (hk h))))))));q,B8 f2 (B8 f s),(((T.trans (ow b)).trans t).trans (ow b2)).trans t2,
  fun hr=>A (SA.none (SA.some a1 (SA.none (SA.some a2 (SA.some (fun i p q=>A2 i (Nat.lt_trans q (fj3 (1,1,.a (.a (.a (.i (.a X0 X1)) (.k 2)) (.a X2 (.k 2))) (.k 1),.a (.a (.a (.a (.a X0 X1) (.k 3)) (.a X2 (.k 2))) (.k 4)) (.k 2)) [] rfl)) (.inl (Ca p q))) (SA.none (SA.some (fun i p q=>A2 i (Nat.lt_trans q (fj3 (1,1,.a (.a (.a (.a (.a (.i (.a X0 X1)) (.k 2)) (.a X2 (.k 2))) (.k 1)) (.k 2)) (.k 1),.a (.a (.a (.a (.a X0 X1) (.k 3)) (.a X2 (.k 2))) (.k 4)) (.k 2)) [] rfl)) (.inl (.tail _ (Ca p q)))) (SA.some (fun i p q=>A2 i q (.inr p)) hr))))))))⟩
noncomputable def pd(s:Fs):Fs:=B8 (s 0) s
theorem Te {v:World}{os:OsState}(hA:∀s,XA (wp v) os s=YA (wp v) os s)(hB:∀s,XB (wp v) os s=YB (wp v) os s):oC v os V12 P12 2069:=by
 have I2:oC v os V2 P2 1432:=uD (Ps v os) (gap:=59) (it:=1388) (n:=33) rfl (fun s=>congrArg (·.1) (hA (pd (pd (pd (pd (pd s))))))) (fun s=>congrArg (·.2.1) (hA (pd (pd (pd (pd s)))))) Mi (fun C=>Mo C (by decide) (by decide)) (by decide) (by decide) (by decide) rfl;have I4:oC v os V4 P4 1477:=uD (I2) (gap:=1) (it:=1433) (n:=33) rfl (fun s=>congrArg (·.2.2.1) (hA (pd (pd (pd s))))) (fun s=>congrArg (·.2.2.2.1) (hA (pd (pd s)))) Mj (fun C=>Mp C (by decide) (by decide)) (by decide) (by decide) (by decide) rfl;have I6:oC v os V6 P6 1522:=uD (I4) (gap:=1) (it:=1478) (n:=33) rfl (fun s=>congrArg (·.2.2.2.2.1) (hA (pd s))) (fun s=>congrArg (·.2.2.2.2.2) (hA s)) Mk (fun C=>Mq C (by decide)) (by decide) (by decide) (by decide) rfl;have I8:oC v os V8 P8 1787:=uD (I6) (gap:=125) (it:=1647) (n:=129) rfl (fun s=>congrArg (·.1) (hB (pd (pd (pd (pd (pd s))))))) (fun s=>congrArg (·.2.1) (hB (pd (pd (pd (pd s)))))) Ml (fun C=>Mo C (by decide) (by decide)) (by decide) (by decide) (by decide) rfl;have I10:oC v os V10 P10 1928:=uD (I8) (gap:=1) (it:=1788) (n:=129) rfl (fun s=>congrArg (·.2.2.1) (hB (pd (pd (pd s))))) (fun s=>congrArg (·.2.2.2.1) (hB (pd (pd s)))) Mm (fun C=>Mp C (by decide) (by decide)) (by decide) (by decide) (by decide) rfl;exact uD (I10) (gap:=1) (it:=1929) (n:=129) rfl (fun s=>congrArg (·.2.2.2.2.1) (hB (pd s))) (fun s=>congrArg (·.2.2.2.2.2) (hB s)) Mn (fun C=>Mq C (by decide)) (by decide) (by decide) (by decide) rfl
end Az
section
section
namespace Az
noncomputable def hOf(S:SharedT):Heap:=⟨#[objAt S 0,objAt S 1,objAt S 2,objAt S 3,objAt S 4,objAt S 5,objAt S 6,objAt S 7,objAt S 8,objAt S 9,objAt S 10],{}⟩
noncomputable def wQ(t:Thread):Bool:=t.stack.isEmpty&&match t.cur with
 | .pure f=>(match f with| .done _=>true| .again _=>false)
 |_=>false
noncomputable def GS(v:Wp)(os:OsState)(x:SharedT×Thread):Bool:=
 wQ x.2&&Nat.beq x.1.n 3005&&x.1.gens.isEmpty&&(hOf x.1).accountedOkI []&&staticsOk [] (boot_heap v.w.params) (hOf x.1)&&namesBound v.p (hOf x.1)&&laidKept (boot_heap v.w.params) (hOf x.1)&&(hOf x.1).isNs mainNs&&(hOf x.1).bmainOk
noncomputable def tau(s:Fs)(T:Nat):Nat:=(s (13-T / 1000000)).tk+T%1000000
noncomputable abbrev JA:=Bool×List (Option Obj)×OsState×Option (List Obj)×List (Option Obj)
noncomputable def XF(v:Wp)(os:OsState)(s:Fs):JA:=
 (GS v os (U13 v os s),
  [0,1,4,5,6,7,8,9,10].map (fun i=>(U13 v os s).1.tree.get i),
  (U13 v os s).1.os,
  oy (U13 v os s).1.tree (R13 s) 0 [],
  xj.map fun i=>(U13 v os s).1.tree.get i)
noncomputable def YF(v:Wp)(k:Params→(Nat→Tok)→Frag)(os:OsState)(s:Fs):JA:=
 (true,[0,1,4,5,6,7,8,9,10].map (fun i=>(jc v.w.params).get i),os,
  some (lm (R13 s) 0 []),
  (k v.w.params (tau s)).map fun p=>some p.2)
theorem XF_self:XF=XF:=rfl
theorem YF_self:YF=YF:=rfl
end Az
end
name_quick XFQ for Az.XF by Az.XF_self
name_quick YFQ for Az.YF by Az.YF_self
namespace Az
theorem GT(w:World)(os:OsState)(s:Fs):XF (wp (w.withFollow "special-get-raises" false)) os s=YF (wp (w.withFollow "special-get-raises" false)) K1 os s:=by
 rw[show XF=PySem.W.Fast.XFQ from PySem.W.Fast.XFQ_eq,show YF=PySem.W.Fast.YFQ from PySem.W.Fast.YFQ_eq];kernel_rfl
theorem Ka(w:World)(os:OsState)(s:Fs):XF (wp (w.withFollow "special-get-raises" true)) os s=YF (wp (w.withFollow "special-get-raises" true)) K1 os s:=by
 rw[show XF=PySem.W.Fast.XFQ from PySem.W.Fast.XFQ_eq,show YF=PySem.W.Fast.YFQ from PySem.W.Fast.YFQ_eq];kernel_rfl
end Az
end
namespace Az
theorem tn {h h':Heap}{m:List Str}(e:h.get? 2=h'.get? 2):h.accountedOkI m=h'.accountedOkI m:=by
 have e1:h.isNs cStatics=h'.isNs cStatics:=by unfold Heap.isNs;rw[show h.get? cStatics=h'.get? cStatics from e]
 have e2:h.nsKeys cStatics=h'.nsKeys cStatics:=by unfold Heap.nsKeys;rw[show h.get? cStatics=h'.get? cStatics from e]
 have e3:h.nsMap cStatics=h'.nsMap cStatics:=by funext x;unfold Heap.nsMap;rw[show h.get? cStatics=h'.get? cStatics from e]
 unfold Heap.accountedOkI;rw[e1,e2,e3]
theorem vY {h0 h h':Heap}{m:List Str}(e:h.get? 2=h'.get? 2):staticsOk m h0 h=staticsOk m h0 h':=by
 have e1:h.isNs cStatics=h'.isNs cStatics:=by unfold Heap.isNs;rw[show h.get? cStatics=h'.get? cStatics from e]
 have e2:h.nsKeys cStatics=h'.nsKeys cStatics:=by unfold Heap.nsKeys;rw[show h.get? cStatics=h'.get? cStatics from e]
 have e3:h.nsMap cStatics=h'.nsMap cStatics:=by funext x;unfold Heap.nsMap;rw[show h.get? cStatics=h'.get? cStatics from e]
 unfold staticsOk;rw[e1,e2,e3]
theorem zA {p:Program}{h h':Heap}(e:h.get? 3=h'.get? 3):namesBound p h=namesBound p h':=by
 have e1:h.isNs mainGlobals=h'.isNs mainGlobals:=by unfold Heap.isNs;rw[show h.get? mainGlobals=h'.get? mainGlobals from e]
 have e2:h.nsKeys mainGlobals=h'.nsKeys mainGlobals:=by unfold Heap.nsKeys;rw[show h.get? mainGlobals=h'.get? mainGlobals from e]
 unfold namesBound;rw[e1,e2]
theorem Cb {h0 h h':Heap}(e:h.get? 3=h'.get? 3):laidKept h0 h=laidKept h0 h':=by
 have e1:h.isNs mainGlobals=h'.isNs mainGlobals:=by unfold Heap.isNs;rw[show h.get? mainGlobals=h'.get? mainGlobals from e]
 have e3:h.nsMap mainGlobals=h'.nsMap mainGlobals:=by funext x;unfold Heap.nsMap;rw[show h.get? mainGlobals=h'.get? mainGlobals from e]
 unfold laidKept;rw[e1,e3]
theorem lp {a:Addr}{h h':Heap}(e:h.get? a=h'.get? a):h.isNs a=h'.isNs a:=by unfold Heap.isNs;rw[e]
theorem mP {a:Addr}{h h':Heap}(e:h.get? a=h'.get? a):h.nsMap a=h'.nsMap a:=by funext x;unfold Heap.nsMap;rw[e]
theorem boot_abs(P:Params)(os:OsState):(⟨jc P,11,{},#[],boot_drawn,boot_toks,os⟩:SharedT).abs=⟨boot_heap P,Array.mk [],boot_drawn,boot_toks,os⟩:=by kernel_rfl
theorem xp(P:Params):(boot_heap P).bltView=bltViewBooted:=by kernel_rfl
theorem nq(P:Params):(boot_heap P).isNs builtinsNs=true:=by kernel_rfl
theorem Kb(w:World):(importEnds treeTable (opening pw) w 600 (start (opening pw)).1 (start (opening pw)).2).map (fun s=>(s.heap,s.gens,s.drawn,s.toks))=some (boot_heap w.params,Array.mk [],boot_drawn,boot_toks):=by kernel_rfl
theorem fence_self(s:Shared):fenceModules? pw s=some s:=by kernel_rfl
theorem tr:importedModules pw.main.body=[]:=by kernel_rfl
theorem uE {S:SharedT}(i:Nat)(hi:i<11)(hl:∀i,i<11→S.abs.heap.get? i=some (objAt S i)):S.abs.heap.get? i=(hOf S).get? i:=by
 haveI e:(hOf S).objs[i]?=some (objAt S i):=by
  clear hl
  iterate 11 (rcases i with _|i;exact rfl;replace hi:=Nat.lt_of_succ_lt_succ hi)
  exact absurd hi (nNz _)
 have h1:=hl i hi;rw[h1];haveI hal:alive (objAt S i)=some (objAt S i):=by
  unfold Heap.get? at h1;split at h1
  ·cases h1
  ·rename_i o hne;unfold alive;split
   ·rename_i o' a b c hq;exact absurd (h1.trans (congrArg some hq)) (by intro h2;exact hne _ _ _ h2)
   ·rfl
 unfold Heap.get?;rw[e];show some (objAt S i)=(match some (objAt S i)with|some ⟨_,_,.freed,_⟩=>none|o=>o);have:(match some (objAt S i)with|some ⟨_,_,.freed,_⟩=>none|o=>o)=alive (objAt S i):=by
  unfold alive;split<;>simp_all
 rw[this,hal]
theorem GU {t:Thread}(h:wQ t=true):∃f c q,t=⟨.pure (.done f),c,q,[]⟩:=by
 obtain⟨cur,code,pos,stack⟩:=t;obtain⟨h1,h2⟩:=cS h;have e:stack=[]:=List.isEmpty_iff.mp h1;clear h1;subst e;refine byG fun G kG=>?_
 cases cur with
 |pure f=>cases f with
  |done f=>exact kG ⟨f,code,pos,rfl⟩
  |again c=>exact ff h2
 |_=>exact ff h2
structure Behind(v:World)(os:OsState)(s₁:Shared):Prop where
 ran:TopRan pw v (S0 v os).abs s₁
 asleep:s₁.asleep
 gens:s₁.gens= #[]
 full:dY s₁.heap
 size:s₁.heap.objs.size=3005
 stat:∃τ:Nat→Tok,(K1 v.params τ).In s₁.heap
theorem EF(P:Params)(τ:Nat→Tok):xj=(K1 P τ).map (·.1):=rfl
theorem Kc(P:Params)(τ:Nat→Tok):((K1 P τ).all fun p=>Nat.blt p.1 3005&& !p.2.isFreed)=true:=by kernel_rfl
theorem Cc {x:SharedT}{K:Frag}{as:List Addr}(hn:x.n=3005)(e:as=K.map (·.1))(hk:as.map (fun i=>x.tree.get i)=K.map fun p=>some p.2)(hl:(K.all fun p=>Nat.blt p.1 3005&& !p.2.isFreed)=true):K.In x.abs.heap:=by
 refine Frag.in_of e ?_;rw[e]at hk⊢;clear e
 induction K with
 |nil=>rfl
 |cons p r ih=>
  simp only[List.map_cons,List.cons.injEq,List.all_cons,Bool.and_eq_true]at hk hl⊢;refine⟨?_,ih hk.2 hl.2⟩;have h1:p.1<3005:=by
   have:=hl.1.1;exact Nat.blt_eq▸this
  refine fY (by rw[hn];exact h1) hk.1 ?_;have h2:p.2.isFreed=false:=by simpa using hl.1.2
  unfold alive;split
  ·rename_i q;rw[q]at h2;cases h2
  ·rfl
theorem GV {n:Nat}{w:Wp}{x:SharedT×Thread}(h:wQ (dP n w x).2=true):Comes (model w.p w.w) x.1.abs x.2 (dP n w x).1.abs (dP n w x).2:=by
 unfold dP at h⊢;split
 ·rename_i y hy;have:=pV n hy;rw[←table_eq_tree]at this;exact this
 ·rename_i hy;rw[hy]at h;cases h
theorem zB {v:World}{os:OsState}{x:SharedT×Thread}{R:List Seg}{τ:Nat→Tok}(hT:mm R 0=3005)(SA:dZ R 0)
  (hX:(GS (wp v) os x,[0,1,4,5,6,7,8,9,10].map (fun i=>x.1.tree.get i),x.1.os,oy x.1.tree R 0 [],xj.map fun i=>x.1.tree.get i)=(true,[0,1,4,5,6,7,8,9,10].map (fun i=>(jc v.params).get i),os,some (lm R 0 []),(K1 v.params τ).map fun p=>some p.2))
  (hC:wQ x.2=true→Comes (model pw v) (S0 v os).abs (topStub pw) x.1.abs x.2):Behind v os x.1.abs:=by
 have hb:=congrArg (·.1) hX;have hq:=congrArg (·.2.1) hX;haveI hos:=congrArg (·.2.2.1) hX;haveI hpass:=congrArg (·.2.2.2.1) hX;haveI hstat:=congrArg (·.2.2.2.2) hX;clear hX;dsimp only at hb hq hos hpass hstat;simp only[List.map_cons,List.map_nil,List.cons.injEq,and_true]at hq;obtain⟨q0,q1,q4,q5,q6,q7,q8,q9,q10⟩:=hq;obtain⟨-,hok⟩:=qb R 0 [] [] rfl hpass;unfold GS at hb;obtain⟨hb,c9⟩:=aw hb;obtain⟨hb,c8⟩:=aw hb;obtain⟨hb,c7⟩:=aw hb;obtain⟨hb,c6⟩:=aw hb;obtain⟨hb,c5⟩:=aw hb;obtain⟨hb,c4⟩:=aw hb;obtain⟨hb,c3⟩:=aw hb;obtain⟨c1,c2⟩:=aw hb;have hn:x.1.n=3005:=nEb c2;haveI hG:eh x.1:=qT c3 hn hok SA hT;have hC:=hC c1;have hg:x.1.abs.gens= #[]:=hG.gens;haveI hz0:(S0 v os).abs.asleep:=⟨rfl,rfl⟩;haveI hl:x.1.abs.heap.life=(S0 v os).abs.heap.life:=lk hC;haveI hrun:∃n t,schedN (denote table) pw v n (.single (S0 v os).abs (topStub pw))= .running (.single x.1.abs t)∧through t=true:=by
  obtain⟨f,c,q,e⟩:=GU c1;rw[e]at hC;exact sa hz0 hg hC
 have lv:∀i:Nat,i<11→x.1.abs.heap.get? i=some (objAt x.1 i):=fun i hi=>by
  obtain⟨o,h1,h2⟩:=xn R 0 hok SA i (nZl _) (by rw[hT];exact fj1 (Y1 X0 (.k 3005)) [Y1 X0 (.k 11)] rfl hi);have:objAt x.1 i=o:=by unfold objAt;rw[h1];rfl
  rw[this];obtain⟨o',h3⟩:=oSm h2;exact fY (by rw[hn];show i<3005;exact fj1 (Y1 X0 (.k 3005)) [Y1 X0 (.k 11)] rfl hi) h1 (by rw[h3,lh h3])
 have h0:(S0 v os).abs.heap=boot_heap v.params:=congrArg Shared.heap (boot_abs v.params os);haveI same:∀i:Nat,i<11→x.1.tree.get i=(jc v.params).get i→x.1.abs.heap.get? i=(S0 v os).abs.heap.get? i:=fun i hi e=>by
  obtain⟨o,h1,h2⟩:=xn R 0 hok SA i (nZl _) (by rw[hT];exact fj1 (Y1 X0 (.k 3005)) [Y1 X0 (.k 11)] rfl hi);haveI a1:x.1.abs.heap.get? i=alive o:=abs_get (t:=x.1.tree) (n:=x.1.n) (life:=x.1.life) (by rw[hn];show i<3005;exact fj1 (Y1 X0 (.k 3005)) [Y1 X0 (.k 11)] rfl hi) h1;haveI a2:(S0 v os).abs.heap.get? i=alive o:=abs_get (t:=jc v.params) (n:=11) (life:={}) hi (by rw[←e];exact h1);rw[a1,a2]
 haveI g0:=same 0 (Nat.succ_pos _) q0;haveI k2:=uE (S:=x.1) 2 (by decide) lv;have k3:=uE (S:=x.1) 3 (by decide) lv;refine⟨⟨hrun,hl,Shared.rest_eq hos,?_,?_,?_,?_,?_,?_,?_,?_,?_⟩,Shared.asleep_of_life hl hz0,hg,hG.full,(ij x.1).trans hn,⟨_,Cc hn (EF _ _) hstat (Kc _ _)⟩⟩
 ·intro b o hb hne;have lt: @LT.lt Nat _ b 11:=by have:=Heap.lt_size hb;rw[ij]at this;exact this
  have n2:b≠cStatics:=fun q=>hne (.inr (.inl q))
  have n3:b≠mainNs:=fun q=>hne (.inl q)
  haveI n2':(b:Nat)≠2:=n2;haveI n3':(b:Nat)≠3:=n3;haveI key:∀n:Nat,n<11→n≠2→n≠3→x.1.tree.get n=(jc v.params).get n:=by
   intro n hn n2 n3;clear n2' n3' lt hb hne
   iterate 11 (rcases n with _|n;(first|exact q0|exact q1|exact absurd rfl n2|exact absurd rfl n3|exact q4|exact q5|exact q6|exact q7|exact q8|exact q9|exact q10);replace hn:=Nat.lt_of_succ_lt_succ hn)
   exact absurd hn (nNz _)
  rw[←hb];exact same b lt (key b lt n2' n3')
 ·rw[tr];exact Heap.accountedI_of_ok ((tn k2).trans c4)
 ·rw[tr,h0];exact statics_of_ok ((vY k2).trans c5)
 ·exact Pin.keysAreStrs_of ((lp (a:=mainNs) k3).trans c8)
 ·intro y hy;haveI i0:x.1.abs.heap.isNs builtinsNs=true:=(lp (a:=builtinsNs) g0).trans (by rw[h0];exact nq _);refine(Pin.builtinOf_eq i0 y).trans ?_;rw[mP (a:=builtinsNs) g0,h0];exact Heap.of_bltView (nq _) (xp _) y hy
 ·obtain⟨bm,ob,b1,_,b3,b4,b5,_⟩:=Heap.bmainOk_spec c9;haveI b1':x.1.abs.heap.nsMap mainGlobals "__builtins__" =some (.ref bm):=(congrFun (mP (a:=mainGlobals) k3) _).trans b1;haveI lt: @LT.lt Nat _ bm 11:=Heap.lt_size b3;refine⟨bm,ob,(Pin.globalOf_eq ((lp (a:=mainNs) k3).trans c8) _).trans b1',(uE (S:=x.1) bm lt lv).trans b3,b4,b5⟩
 ·intro g hg';rw[hg]at hg';simp at hg'
 ·exact names_of_bound ((zA k3).trans c6)
 ·rw[h0];exact laid_of_kept ((Cb k3).trans c7)
theorem vC {v:World}{os:OsState}(hA:∀s,XA (wp v) os s=YA (wp v) os s)(hB:∀s,XB (wp v) os s=YB (wp v) os s)(hF:∀s,XF (wp v) os s=YF (wp v) K1 os s):∃s₁,Behind v os s₁:=by
 obtain⟨ht,-,s,T,A⟩:=Te hA hB;exact⟨_,zB (ht _ _) (A (SA.none SA.nil)) (hF s) fun he=>T.trans (GV he)⟩
theorem Cd(v:World)(os:OsState):∃s₁,Behind v os s₁:=
 byRow2 "special-get-raises" (P:=fun v=>∃s₁,Behind v os s₁) (fun w=>vC (GN w os) (GO w os) (GT w os)) (fun w=>vC (J6 w os) (J7 w os) (Ka w os)) v
theorem EG(v:World):(∃s,AfterRun (opening pw) v s)∧∀s,AfterRun (opening pw) v s→∃s₀,fenceModules? pw s=some s₀∧s₀.gens= #[]∧∃os s₁,s₀=(S0 v os).abs∧Behind v os s₁:=by
 obtain⟨s,hs,hv⟩:=Option.map_eq_some_iff.mp (Kb v);rw[←table_eq_tree]at hs;have A:=AfterImport.of_importEnds hs;refine⟨⟨s,A⟩,fun s' hs'=>?_⟩;obtain rfl:s'=s:=AfterImport.unique hs' A;obtain⟨hp,g,d,t,os⟩:=s';simp only[Prod.mk.injEq]at hv;obtain⟨rfl,rfl,rfl,rfl⟩:=hv;obtain⟨s₁,B⟩:=Cd v os;exact⟨_,fence_self _,rfl,os,s₁,(boot_abs v.params os).symm,B⟩
noncomputable def eqN:List Nat→List Nat→Bool
 |[],[]=>true
 |a::x,b::y=>match Nat.beq a b with
  |true=>eqN x y
  |false=>false
 |_,_=>false
theorem Kd:eqN x y=true↔x=y:=by
 induction x generalizing y with
 |nil=>cases y with
  |nil=>exact⟨fun _=>rfl,fun _=>rfl⟩
  |cons b y=>exact⟨fun h=>ff h,fun h=>nomatch h⟩
 |cons a x ih=>cases y with
  |nil=>exact⟨fun h=>ff h,fun h=>nomatch h⟩
  |cons b y=>
   show(match Nat.beq a b with|true=>eqN x y|false=>false)=true↔_;cases h:Nat.beq a b with
   |true=>rw[nEb h];exact ih.trans ⟨congrArg _,fun e=>(List.cons.inj e).2⟩
   |false=>exact⟨fun q=>ff q,fun e=>by rw[(List.cons.inj e).1,Nat.beq_refl]at h;cases h⟩
noncomputable def kX(a b:Str):Bool:=eqN a.cps.toList b.cps.toList
theorem nr(a b:Str):kX a b=(a==b):=by
 have h1:kX a b=true↔a=b:=by
  unfold kX;rw[Kd];obtain⟨⟨a⟩⟩:=a;obtain⟨⟨b⟩⟩:=b;simp
 cases hq:kX a b with
 |true=>rw[h1.mp hq];simp
 |false=>
  have:a≠b:=fun e=>by rw[h1.mpr e]at hq;cases hq
  exact(beq_eq_false_iff_ne.mpr this).symm
noncomputable def qe(v:Value)(x:Str):Bool:=match v with
 | .str s _=>kX s x
 |_=>false
theorem vD(v:Value)(x:Str):qe v x=v.isStr x:=by cases v<;>first|rfl|exact nr _ _
noncomputable def wR(K:Frag)(ns:Addr)(name:Str):Option (Option Value):=match K.lookup ns with
 |some ⟨_,_,.dict es _,_⟩=>(match es.toList.find? (fun e=>qe e.key name)with
   |some e=>some (some e.val)
   |none=>if es.toList.any (·.refKey)then none else some none)
 |_=>none
theorem xq(K:Frag)(ns:Addr)(name:Str):wR K ns name=nsIn K ns name:=by
 unfold wR nsIn;have:(fun e:DictEntry=>qe e.key name)=fun e=>e.key.isStr name:=funext fun e=>vD _ _
 rw[this];rfl
noncomputable def xr(K:Frag)(name:Str):Value→Option (Option Value)
 | .type n=>some (fastBuiltinOwn n name)
 | .ref a=>(match K.lookup a with
   |some ⟨_,_,.cls cd,_⟩=>wR K cd.ns name
   |_=>none)
 |_=>some none
theorem EH(K:Frag)(name:Str)(v:Value):xr K name v=ownIn K name v:=by
 cases v<;>first|rfl|skip
 unfold xr ownIn;simp only[xq];rfl
noncomputable def oE(K:Frag)(name:Str):List Value→Option (Option Value)
 |[]=>some none
 |c::r=>match xr K name c with
  |some (some v)=>some (some v)
  |some none=>oE K name r
  |none=>none
theorem rL(K:Frag)(name:Str):∀l,oE K name l=alongIn K name l
 |[]=>rfl
 |c::r=>by
  unfold oE alongIn;rw[EH,rL K name r];rfl
noncomputable def nu(K:Frag)(t:Value)(name:Str):Option (Option Value):=match t with
 | .type n=>fastLookup n name
 | .ref a=>(match K.lookup a with
   |some ⟨_,_,.cls cd,_⟩=>oE K name cd.mro
   |_=>none)
 |_=>none
theorem Ce(K:Frag)(t:Value)(name:Str):nu K t name=findIn K t name:=by
 cases t<;>first|rfl|skip
 unfold nu findIn;simp only[rL];rfl
noncomputable def uF(name:Str)(o:Obj):Option (Option Value):=match o.data with
 | .dict es _=>(match es.toList.find? (fun e=>qe e.key name)with
   |some e=>some (some e.val)
   |none=>if es.toList.any (·.refKey)then none else some none)
 |_=>none
theorem Cf(name:Str)(o:Obj):uF name o=lookIn name o:=by
 unfold uF lookIn;have:(fun e:DictEntry=>qe e.key name)=fun e=>e.key.isStr name:=funext fun e=>vD _ _
 rw[this];rfl
theorem aS {K:Frag}{t:Value}{name:Str}{r:Option (Option Value)}(h:nu K t name=r:=by kernel_rfl):findIn K t name=r:=(Ce ..).symm.trans h
theorem bd {K:Frag}{ns:Addr}{name:Str}{r:Option (Option Value)}(h:wR K ns name=r:=by kernel_rfl):nsIn K ns name=r:=(xq ..).symm.trans h
theorem j0(h:uF name o=r:=by kernel_rfl):lookIn name o=r:=(Cf ..).symm.trans h
theorem lO {K:Frag}{C:Addr}(h1:nu K (.ref C) "__getattribute__" =some (some (.builtin "object.__getattribute__")))(h2:nu K (.ref C) "__getattr__" =some none)(x:Str):plainGet K C x=true:=by
 unfold plainGet;rw[aS h1,aS h2];rfl
theorem ik {K:Frag}{C:Addr}{name:Str}(h:findIn K (.ref C) name=some none):takerIn K C name=some none:=by unfold takerIn;rw[h];rfl
noncomputable def uG(x:Str):List (Str×NameKind)→Nat→Option (Nat×NameKind)
 |[],_=>none
 |(y,k)::r,i=>match kX y x with
  |true=>some (i,k)
  |false=>uG x r (i+1)
theorem qf:∀{l:List (Str×NameKind)} {i j:Nat} {k:NameKind},uG x l i=some (j,k)→(l.findIdx? fun p=>p.1==x)=some (j-i)∧i≤j∧l.lookup x=some k
 |[],_,_,_,h=>by cases h
 |(y,k')::r,i,j,k,h=>by
  replace h:(match kX y x with|true=>some (i,k')|false=>uG x r (i+1))=some (j,k):=h;rw[List.findIdx?_cons,lLc];have e:=nr y x;have e2:(x==y)=(y==x):=by
   by_cases q:x=y
   ·subst q;rfl
   ·rw[beq_eq_false_iff_ne.mpr q,beq_eq_false_iff_ne.mpr (Ne.symm q)]
  cases q:kX y x with
  |true=>
   rw[q]at h e;cases h;rw[e2,←e];simp
  |false=>
   rw[q]at h e;obtain⟨h1,h2,h3⟩:=qf h;rw[e2,←e,h1];refine⟨?_,fj2 (Y0 X0 X1) [Y0 (.i X0) X1] rfl h2,h3⟩;simp only[Bool.false_eq_true,if_false,Option.map_some]
   congr 1;exact nAs (fj4 (Y0 (.i X0) X1) [Y0 X2 (.a X1 X3),Y2 (.a X0 (.i X3)) X2] rfl (lsa j i) (sac j (i+1) h2)) (fj4 (Y0 X0 (.i X1)) [Y0 X2 (.a X1 (.i X3)),Y2 (.a X0 X3) X2] rfl (lsa j (i+1)) (sac j i (fj2 (Y0 X0 X1) [Y0 (.i X0) X1] rfl h2)))
inductive V where
 |none
 |bool (b:Bool)
 |int (n:Int)
 |str (s:Str)
 |bytes (b:Array UInt8)
 |tup (vs:List V)
 |list (vs:List V)
 |inst (C:Addr) (fs:List (Str×V))
 |rng (a b c:Int)
 |obj (i:Nat)
 |top (v:Value)
 |any
inductive ai where
 |list (vs:List V)
 |inst (C:Addr) (fs:List (Str×V))
 |cell (v:Option V)
noncomputable def eV:List (Addr×Str):=[(2950,"cidr_merge.<locals>.<lambda>"),(1524,"str_to_int.<locals>.<genexpr>")]
noncomputable def tu(fz:Addr→Prop)(h:Heap)(t:Addr×Str):Prop:=
 ∃ps,h.get? t.1=some (tabObj ps)∧TriplesOk ps.toList∧∀pos cv,codeAmong pos ps.toList=some cv→∃c,cv= .ref c∧fz c∧h.CodeRec (.ref c) t.2
theorem tu.move(x:tu fz h t)(h1:∀o,h.get? t.1=some o→h'.get? t.1=some o)
  (h2:∀c,fz c→fz' c∧∀o,h.get? c=some o→h'.get? c=some o):tu fz' h' t:=by
 obtain⟨ps,a,b,k⟩:=x;refine⟨ps,h1 _ a,b,fun pos cv e=>?_⟩;obtain⟨c,rfl,hc,c',oc,vs,tq,q1,q2,q3⟩:=k pos cv e;cases q1;exact⟨c,rfl,(h2 c hc).1,c,oc,vs,tq,rfl,(h2 c hc).2 _ q2,q3⟩
structure Sta where
 w:World
 τ:Nat→Tok
 H:Heap
 os:OsState
 mg:Str→Option Value
 mb:Str→Option Value
 X:(K0 w.params τ).In H
 g:H.Ns 3 mg
 b:H.Ns 0 mb
 lim:H.NoLimit
 blt:∀x:Str,x≠("__name__":Str)→mb x=bootBuiltins x
 tb:∀t∈eV,H.get? t.1=none
noncomputable def Sta.K(S:Sta):Frag:=K0 S.w.params S.τ
noncomputable abbrev Pt(xs:Array Value)(k:Nat):Obj:={cls:= .type "tuple",data:= .seq xs k}
noncomputable def TupAt(h:Heap)(a:Addr)(xs:Array Value):Prop:=∃k,h.get? a=some (Pt xs k)
theorem TupAt.is(x:TupAt h a xs):h.IsTuple a xs:=let⟨k,e⟩:=x;⟨_,e,rfl,k,rfl⟩
noncomputable abbrev Sta.M(S:Sta):Model:=model pw S.w
structure Pl where
 pl:Nat→Addr×Addr
 fz:Addr→Prop
mutual
inductive RelV(ρ:Pl)(n:Nat)(h:Heap):V→Value→Prop
 |none:RelV ρ n h .none .none
 |bool (b:Bool):RelV ρ n h (.bool b) (.bool b)
 |int (k:Int) (t:Tok):RelV ρ n h (.int k) (.int k t)
 |str (s:Str) (t:Tok):RelV ρ n h (.str s) (.str s t)
 |bytes (b:Array UInt8) (t:Tok):RelV ρ n h (.bytes b) (.bytes b t)
 |tup {vs:List V} {a:Addr} {xs:Array Value} (ha:TupAt h a xs) (hx:aj ρ n h vs xs.toList):RelV ρ n h (.tup vs) (.ref a)
 |list {vs:List V} {a:Addr} {xs:Array Value} (hz:ρ.fz a) (ha:h.PlainList a xs) (hx:aj ρ n h vs xs.toList):RelV ρ n h (.list vs) (.ref a)
 |inst {C:Addr} {fs:List (Str×V)} {a d:Addr} {fs':List (Str×Value)} (hz:ρ.fz a) (hd:ρ.fz d) (ha:h.get? a=some (instObj C d)) (hn:h.Ns d fun x=>fs'.lookup x) (hf:bq ρ n h fs fs'):RelV ρ n h (.inst C fs) (.ref a)
 |rng {a b c:Int} {x:Addr} {t u v:Tok} (hz:ρ.fz x) (hr:IsRange h x a b c t u v):RelV ρ n h (.rng a b c) (.ref x)
 |obj {i:Nat} (hi:i<n):RelV ρ n h (.obj i) (.ref (ρ.pl i).1)
 |top (v:Value):RelV ρ n h (.top v) v
 |any (v:Value):RelV ρ n h .any v
inductive aj(ρ:Pl)(n:Nat)(h:Heap):List V→List Value→Prop
 |nil:aj ρ n h [] []
 |cons {v:V} {x:Value} {vs:List V} {xs:List Value} (hv:RelV ρ n h v x) (hs:aj ρ n h vs xs):aj ρ n h (v::vs) (x::xs)
inductive bq(ρ:Pl)(n:Nat)(h:Heap):List (Str×V)→List (Str×Value)→Prop
 |nil:bq ρ n h [] []
 |cons {k:Str} {v:V} {x:Value} {vs:List (Str×V)} {xs:List (Str×Value)} (hv:RelV ρ n h v x) (hs:bq ρ n h vs xs):bq ρ n h ((k,v)::vs) ((k,x)::xs)
end
@[elab_as_elim] theorem bq.nilE {ρ:Pl}{n:Nat}{h:Heap}{motive:List (Str×Value)→Prop}{l:List (Str×Value)}(r:bq ρ n h [] l)(k:motive []):motive l:=by cases r;exact k
@[elab_as_elim] theorem bq.oneE {ρ:Pl}{n:Nat}{h:Heap}{motive:List (Str×Value)→Prop}{x:Str}{v:V}{l:List (Str×Value)}(r:bq ρ n h [(x,v)] l)(k:∀y,RelV ρ n h v y→motive [(x,y)]):motive l:=by
 cases r with|cons a r=>cases r;exact k _ a
@[elab_as_elim] theorem aj.nilE {ρ:Pl}{n:Nat}{h:Heap}{motive:List Value→Prop}{l:List Value}(r:aj ρ n h [] l)(k:motive []):motive l:=by cases r;exact k
@[elab_as_elim] theorem aj.consE {ρ:Pl}{n:Nat}{h:Heap}{motive:List Value→Prop}{v:V}{vs:List V}{l:List Value}(r:aj ρ n h (v::vs) l)(k:∀x xs,RelV ρ n h v x→aj ρ n h vs xs→motive (x::xs)):motive l:=by
 cases r with|cons a r=>exact k _ _ a r
@[elab_as_elim] theorem aj.oneE {ρ:Pl}{n:Nat}{h:Heap}{motive:List Value→Prop}{v:V}{l:List Value}(r:aj ρ n h [v] l)(k:∀x,RelV ρ n h v x→motive [x]):motive l:=r.consE fun _ _ a r=>r.nilE (k _ a)
@[elab_as_elim] theorem aj.twoE {ρ:Pl}{n:Nat}{h:Heap}{motive:List Value→Prop}{v w:V}{l:List Value}(r:aj ρ n h [v,w] l)(k:∀x y,RelV ρ n h v x→RelV ρ n h w y→motive [x,y]):motive l:=r.consE fun _ _ a r=>r.oneE fun _ b=>k _ _ a b
@[elab_as_elim] theorem aj.threeE {ρ:Pl}{n:Nat}{h:Heap}{motive:List Value→Prop}{v w u:V}{l:List Value}(r:aj ρ n h [v,w,u] l)(k:∀x y z,RelV ρ n h v x→RelV ρ n h w y→RelV ρ n h u z→motive [x,y,z]):motive l:=r.consE fun _ _ a r=>r.twoE fun _ _ b c=>k _ _ _ a b c
@[elab_as_elim] theorem RelV.intE {ρ:Pl}{n:Nat}{h:Heap}{motive:Value→Prop}{k:Int}{x:Value}(r:RelV ρ n h (.int k) x)(q:∀t,motive (.int k t)):motive x:=by cases r;exact q _
@[elab_as_elim] theorem RelV.strE {ρ:Pl}{n:Nat}{h:Heap}{motive:Value→Prop}{k:Str}{x:Value}(r:RelV ρ n h (.str k) x)(q:∀t,motive (.str k t)):motive x:=by cases r;exact q _
@[elab_as_elim] theorem RelV.bytesE {ρ:Pl}{n:Nat}{h:Heap}{motive:Value→Prop}{k:Array UInt8}{x:Value}(r:RelV ρ n h (.bytes k) x)(q:∀t,motive (.bytes k t)):motive x:=by cases r;exact q _
@[elab_as_elim] theorem RelV.tupE {ρ:Pl}{n:Nat}{h:Heap}{motive:Value→Prop}{vs:List V}{x:Value}(r:RelV ρ n h (.tup vs) x)(q:∀a xs,TupAt h a xs→aj ρ n h vs xs.toList→motive (.ref a)):motive x:=by cases r;exact q _ _ ‹_› ‹_›
@[elab_as_elim] theorem aj.indE {ρ:Pl}{n:Nat}{h:Heap}{motive:(vs:List V)→(xs:List Value)→aj ρ n h vs xs→Prop}{vs:List V}{xs:List Value}(r:aj ρ n h vs xs)(k0:motive [] [] .nil)(k1:∀v x vs xs (a:RelV ρ n h v x) (b:aj ρ n h vs xs),motive vs xs b→motive (v::vs) (x::xs) (.cons a b)):motive vs xs r:=by
 induction vs generalizing xs with
 |nil=>cases r;exact k0
 |cons v vs ih=>cases r with|cons a b=>exact k1 _ _ _ _ a b (ih b)
@[elab_as_elim] theorem bq.indE {ρ:Pl}{n:Nat}{h:Heap}{motive:(vs:List (Str×V))→(xs:List (Str×Value))→bq ρ n h vs xs→Prop}{vs:List (Str×V)}{xs:List (Str×Value)}(r:bq ρ n h vs xs)(k0:motive [] [] .nil)(k1:∀k v x vs xs (a:RelV ρ n h v x) (b:bq ρ n h vs xs),motive vs xs b→motive ((k,v)::vs) ((k,x)::xs) (.cons a b)):motive vs xs r:=by
 induction vs generalizing xs with
 |nil=>cases r;exact k0
 |cons v vs ih=>cases r with|cons a b=>exact k1 _ _ _ _ _ a b (ih b)
noncomputable def gr(ρ:Pl)(n:Nat)(h:Heap):Option V→Option Value→Prop
 |none,none=>True
 |some v,some x=>RelV ρ n h v x
 |_,_=>False
noncomputable def look(l:List (Str×V))(x:Str):Option V:=l.lookup x
noncomputable def iV(ρ:Pl)(n:Nat)(h:Heap)(p:Addr×Addr):ai→Prop
 | .list vs=>p.2=p.1∧∃xs,h.PlainList p.1 xs∧aj ρ n h vs xs.toList
 | .inst C fs=>h.get? p.1=some (instObj C p.2)∧p.1≠p.2∧∃m,h.Ns1 p.2 m∧∀x,gr ρ n h (look fs x) (m x)
 | .cell v=>p.2=p.1∧∃x,h.IsCell p.1 x∧gr ρ n h v x
noncomputable def iN(ρ:Pl)(n:Nat)(b:Addr):Prop:=(∀t∈eV,b≠t.1)∧∀i,i<n→b≠(ρ.pl i).1∧b≠(ρ.pl i).2
structure CorrH(S:Sta)(ρ:Pl)(hp:List ai)(s:Shared):Prop where
 keep:∀b o,S.H.get? b=some o→s.heap.get? b=some o
 objs:∀i o,hp[i]?=some o→iV ρ hp.length s.heap (ρ.pl i) o
 fresh:∀i,i<hp.length→S.H.get? (ρ.pl i).1=none∧S.H.get? (ρ.pl i).2=none
 inj:∀i j,i<hp.length→j<hp.length→i≠j→(ρ.pl i).1≠(ρ.pl j).1∧(ρ.pl i).1≠(ρ.pl j).2∧(ρ.pl i).2≠(ρ.pl j).2
 gens:AllBare s.gens
 os:s.os=S.os
 fz:∀b,ρ.fz b→iN ρ hp.length b∧(s.heap.get? b).isSome=true
 tab:∀t∈eV,tu ρ.fz s.heap t
structure ah(l:List Addr)(ρ:Pl)(hp:List ai)(s:Shared)(ρ':Pl)(hp':List ai)(s':Shared):Prop where
 ext:∀i,i<hp.length→ρ'.pl i=ρ.pl i
 len:hp.length≤hp'.length
 live:∀b,(s.heap.get? b).isSome=true→(s'.heap.get? b).isSome=true
 frame:∀b o,s.heap.get? b=some o→b∉l→iN ρ hp.length b→s'.heap.get? b=some o
 news:∀i,hp.length≤i→i<hp'.length→s.heap.get? (ρ'.pl i).1=none∧s.heap.get? (ρ'.pl i).2=none
 fzk:∀b,ρ.fz b→ρ'.fz b
 fzn:∀b,ρ'.fz b→ρ.fz b∨s.heap.get? b=none
theorem bF {h:Heap}{a b:Addr}{o:Obj}(e:h.get? a=some o)(n:h.get? b=none):a≠b:=fun q=>by rw[q,n]at e;cases e
theorem cV {h h':Heap}(l:∀b,(h.get? b).isSome=true→(h'.get? b).isSome=true){b:Addr}(n:h'.get? b=none):h.get? b=none:=by
 cases q:h.get? b with
 |none=>rfl
 |some o=>have:=l b (by rw[q];rfl);rw[n]at this;cases this
theorem g7 {h h':Heap}(k:∀b o,h.get? b=some o→h'.get? b=some o)(b:Addr)(e:(h.get? b).isSome=true):(h'.get? b).isSome=true:=by
 obtain⟨o,ho⟩:=oSm e;rw[k b o ho];rfl
theorem mQ {h h':Heap}{c:Addr}(k:∀b o,b≠c→h.get? b=some o→h'.get? b=some o)(hc:(h'.get? c).isSome=true)(b:Addr)(e:(h.get? b).isSome=true):(h'.get? b).isSome=true:=by
 by_cases q:b=c
 ·rw[q];exact hc
 ·obtain⟨o,ho⟩:=oSm e;rw[k b o q ho];rfl
theorem ah.refl(l:List Addr)(ρ:Pl)(hp:List ai)(s:Shared):ah l ρ hp s ρ hp s:=
 ⟨fun _ _=>rfl,nRe _,fun _ h=>h,fun _ _ h _ _=>h,fun i h1 h2=>absurd h2 (Nat.not_lt.mpr h1),fun _ h=>h,fun _ h=> .inl h⟩
theorem ah.trans {l:List Addr}{ρ ρ₁ ρ₂:Pl}{hp hp₁ hp₂:List ai}{s s₁ s₂:Shared}(a:ah l ρ hp s ρ₁ hp₁ s₁)(b:ah l ρ₁ hp₁ s₁ ρ₂ hp₂ s₂):ah l ρ hp s ρ₂ hp₂ s₂:=by
 haveI lo:∀i,i<hp.length→ρ₂.pl i=ρ.pl i:=fun i hi=>(b.ext i (nLl hi a.len)).trans (a.ext i hi)
 refine⟨lo,Nat.le_trans a.len b.len,fun x h=>b.live x (a.live x h),fun x o h hl hf=>?_,fun i h1 h2=>?_,fun x h=>b.fzk x (a.fzk x h),fun x h=>(b.fzn x h).elim (a.fzn x) fun q=> .inr (cV a.live q)⟩
 ·refine b.frame x o (a.frame x o h hl hf) hl ⟨hf.1,fun i hi=>?_⟩
  by_cases q:i<hp.length
  ·rw[a.ext i q];exact hf.2 i q
  ·haveI n1:=(a.news i (nNl q) hi).1;haveI n2:=(a.news i (nNl q) hi).2;exact⟨bF h n1,bF h n2⟩
 ·by_cases q:i<hp₁.length
  ·rw[b.ext i q];exact a.news i h1 q
  ·haveI n1:=(b.news i (nNl q) h2).1;haveI n2:=(b.news i (nNl q) h2).2;exact⟨cV a.live n1,cV a.live n2⟩
theorem ah.weak(a:ah l ρ hp s ρ' hp' s')(h:∀b∈l,b∈l'):ah l' ρ hp s ρ' hp' s':=
 ⟨a.ext,a.len,a.live,fun b o e hl hf=>a.frame b o e (fun q=>hl (h b q)) hf,a.news,a.fzk,a.fzn⟩
noncomputable def g8(o:Obj):Prop:=∀xs k,o.cls= .type "tuple" →o.data≠.seq xs k
theorem iV.places(x:iV ρ n h p o):
  (∃ob,h.get? p.1=some ob∧g8 ob)∧∃ob,h.get? p.2=some ob∧g8 ob:=by
 obtain⟨p1,p2⟩:=p;cases o with
 |list vs=>
  obtain⟨e,xs,⟨n,h1⟩,_⟩:=x;dsimp only at e h1;subst e;have:g8 {cls:= .type "list",data:= .seq xs n}:=fun xs k ht=>(by simp at ht)
  exact⟨⟨_,h1,this⟩,_,h1,this⟩
 |inst C fs=>
  obtain⟨h1,_,m,⟨ob,es,ep,h2,h3,_⟩,_⟩:=x;exact⟨⟨_,h1,fun xs k ht=>by cases ht⟩,ob,h2,fun xs k _ hd=>by rw[h3]at hd;cases hd⟩
 |cell v=>
  obtain⟨e,y,⟨ob,h1,h2⟩,_⟩:=x;dsimp only at e h1;subst e;have:g8 ob:=fun xs k _ hd=>by rw[h2]at hd;cases hd
  exact⟨⟨ob,h1,this⟩,ob,h1,this⟩
theorem iV.noTab(x:iV ρ n h p o):(∀ps,h.get? p.1≠some (tabObj ps))∧∀ps,h.get? p.2≠some (tabObj ps):=by
 obtain⟨p1,p2⟩:=p;cases o with
 |list vs=>
  obtain⟨e,xs,⟨n,h1⟩,_⟩:=x;dsimp only at e h1;subst e;have:∀ps,h.get? p2≠some (tabObj ps):=fun ps q=>by rw[h1]at q;cases q
  exact⟨this,this⟩
 |inst C fs=>
  obtain⟨h1,_,m,⟨ob,es,ep,h2,h3,_⟩,_⟩:=x;exact⟨fun ps q=>(by rw[h1]at q;cases q),fun ps q=>(by rw[h2]at q;cases q;cases h3)⟩
 |cell v=>
  obtain⟨e,y,⟨ob,h1,h2⟩,_⟩:=x;dsimp only at e h1;subst e;have:∀ps,h.get? p2≠some (tabObj ps):=fun ps q=>by rw[h1]at q;cases q;cases h2
  exact⟨this,this⟩
theorem CorrH.noTab(C:CorrH S ρ hp s)(e:s.heap.get? a=some o)(hn:o.cls≠.none∨∀ps,o.data≠.fields ps):∀t∈eV,a≠t.1:=fun t ht q=>by
 obtain⟨ps,h1,_⟩:=C.tab t ht;rw[←q,e]at h1;cases h1;rcases hn with hn|hn
 ·exact hn rfl
 ·exact hn ps rfl
theorem CorrH.tupFree(C:CorrH S ρ hp s)(ht:TupAt s.heap a xs):iN ρ hp.length a:=by
 obtain⟨k,h1⟩:=ht;refine⟨C.noTab h1 (.inl (by simp)),?_⟩;intro i hi;obtain⟨⟨o1,e1,n1⟩,o2,e2,n2⟩:=(C.objs i _ (lGe hi)).places;refine⟨fun e=>?_,fun e=>?_⟩
 ·rw[←e,h1]at e1;cases e1;exact n1 xs k rfl rfl
 ·rw[←e,h1]at e2;cases e2;exact n2 xs k rfl rfl
noncomputable def kl(ρ:Pl)(l:List Addr)(h:Heap):Prop:=∀b∈l,(∃o,h.get? b=some o∧g8 o)∧¬ρ.fz b
theorem gH:kl ρ [] h:=fun b hb=>by cases hb
theorem GW(hl:kl ρ l h)(ht:TupAt h a xs):a∉l:=fun q=>by
 obtain⟨k,h1⟩:=ht;obtain⟨⟨o',e1,n⟩,_⟩:=hl a q;rw[h1]at e1;cases e1;exact n xs k rfl rfl
theorem Ns.at {h h':Heap}{a:Addr}{m:Str→Option Value}(hn:h.Ns a m)(e:∀o,h.get? a=some o→h'.get? a=some o):h'.Ns a m:=
 let⟨o,es,ep,h1,r⟩:=hn;⟨o,es,ep,e o h1,r⟩
structure cL(ρ ρ':Pl)(n n':Nat)(h h':Heap):Prop where
 tup:∀a xs,TupAt h a xs→TupAt h' a xs
 ext:∀i,i<n→ρ'.pl i=ρ.pl i
 len:n≤n'
 fzk:∀b,ρ.fz b→ρ'.fz b
 fzh:∀b o,ρ.fz b→h.get? b=some o→h'.get? b=some o
theorem RelV.move {ρ ρ':Pl}{n n':Nat}{h h':Heap}(M:cL ρ ρ' n n' h h'){v:V}{x:Value}(r:RelV ρ n h v x):RelV ρ' n' h' v x:=by
 refine RelV.rec (motive_1:=fun v x _=>RelV ρ' n' h' v x) (motive_2:=fun vs xs _=>aj ρ' n' h' vs xs) (motive_3:=fun vs xs _=>bq ρ' n' h' vs xs) .none .bool .int .str .bytes ?_ ?_ ?_ ?_ ?_ .top .any .nil (fun _ _ a b=> .cons a b) .nil (fun _ _ a b=> .cons a b) r
 ·intro vs a xs ha hx ih;exact .tup (M.tup _ _ ha) ih
 ·intro vs a xs hz ha hx ih;exact .list (M.fzk _ hz) (ha.at fun o e=>M.fzh _ _ hz e) ih
 ·intro C fs a d fs' hz hd ha hn hf ih;exact .inst (M.fzk _ hz) (M.fzk _ hd) (M.fzh _ _ hz ha) (Ns.at hn fun o e=>M.fzh _ _ hd e) ih
 ·intro a b c x t u v hz hr;exact .rng (M.fzk _ hz) (M.fzh _ _ hz hr)
 ·intro i hi;rw[←M.ext i hi];exact .obj (nLl hi M.len)
theorem aj.move(M:cL ρ ρ' n n' h h'):∀{vs:List V} {xs:List Value},aj ρ n h vs xs→aj ρ' n' h' vs xs
 |_,_,.nil=> .nil
 |_,_,.cons a b=> .cons (a.move M) (aj.move M b)
theorem bq.move(M:cL ρ ρ' n n' h h'):∀{vs:List (Str×V)} {xs:List (Str×Value)},bq ρ n h vs xs→bq ρ' n' h' vs xs
 |_,_,.nil=> .nil
 |_,_,.cons a b=> .cons (a.move M) (bq.move M b)
theorem gr.move(M:cL ρ ρ' n n' h h'):∀{v:Option V} {x:Option Value},gr ρ n h v x→gr ρ' n' h' v x
 |none,none,h=>h
 |some _,some _,h=>RelV.move M h
 |some _,none,h=>h.elim
 |none,some _,h=>h.elim
theorem iV.move(M:cL ρ ρ' n n' h h')(h1:∀o,h.get? p.1=some o→h'.get? p.1=some o)(h2:∀o,h.get? p.2=some o→h'.get? p.2=some o):
  ∀{o:ai},iV ρ n h p o→iV ρ' n' h' p o
 | .list vs,⟨e,xs,a,r⟩=>⟨e,xs,a.at h1,r.move M⟩
 | .inst C fs,⟨a,ne,m,b,r⟩=>⟨h1 _ a,ne,m,b.at h2,fun x=>(r x).move M⟩
 | .cell v,⟨e,x,⟨o,a,b⟩,r⟩=>⟨e,x,⟨o,h1 _ a,b⟩,r.move M⟩
theorem ah.moves(T:ah l ρ hp s ρ' hp' s')(C:CorrH S ρ hp s)(hl:kl ρ l s.heap):cL ρ ρ' hp.length hp'.length s.heap s'.heap:=by
 refine⟨fun a xs ht=>?_,T.ext,T.len,T.fzk,fun b o hz e=>T.frame b o e (fun q=>(hl b q).2 hz) (C.fz b hz).1⟩;have h1:=GW hl ht;have h2:=C.tupFree ht;obtain⟨k,e⟩:=ht;exact⟨k,T.frame a _ e h1 h2⟩
theorem RelV.step(C:CorrH S ρ hp s)(hl:kl ρ l s.heap)(T:ah l ρ hp s ρ' hp' s')
  (r:RelV ρ hp.length s.heap v x):RelV ρ' hp'.length s'.heap v x:=r.move (T.moves C hl)
theorem aj.step(C:CorrH S ρ hp s)(hl:kl ρ l s.heap)(T:ah l ρ hp s ρ' hp' s')
  (r:aj ρ hp.length s.heap vs xs):aj ρ' hp'.length s'.heap vs xs:=r.move (T.moves C hl)
theorem gr.step(C:CorrH S ρ hp s)(hl:kl ρ l s.heap)(T:ah l ρ hp s ρ' hp' s')
  (r:gr ρ hp.length s.heap v x):gr ρ' hp'.length s'.heap v x:=r.move (T.moves C hl)
structure FC where
 qual:Str
 scope:Scope
 code:Value
 fn:Addr:=0
 cel:List (Str×Nat):=[]
 cst:List (Str×Addr):=[]
 inner:Bool:=false
structure St where
 loc:List (Option V)
 hp:List ai
noncomputable abbrev PX:=V→List ai→Prop
noncomputable abbrev PV:=V→St→Prop
noncomputable def idx(c:FC)(x:Str):Option Nat:=c.scope.names.findIdx? fun p=>p.1==x
noncomputable def slot(c:FC)(loc:List (Option V))(x:Str):Option V:=match idx c x with
 |some i=>(loc[i]?).join
 |none=>none
structure ac(c:FC)(x:Str)(i:Nat)(k:NameKind):Prop where
 ix:idx c x=some i
 kind:c.scope.names.lookup x=some k
 nd:(x==("__debug__":Str))=false
inductive aT(v:α):Nat→List α→List α→Prop
 |zero {a:α} {r:List α}:aT v 0 (a::r) (v::r)
 |succ {i:Nat} {a:α} {r r':List α} (h:aT v i r r'):aT v (i+1) (a::r) (a::r')
theorem aT.z1 {α:Type}{v a0 a1:α}{r:List α}:aT v 1 (a0::a1::r) (a0::v::r):= .succ .zero
theorem aT.z2 {α:Type}{v a0 a1 a2:α}{r:List α}:aT v 2 (a0::a1::a2::r) (a0::a1::v::r):= .succ .z1
theorem aT.z3 {α:Type}{v a0 a1 a2 a3:α}{r:List α}:aT v 3 (a0::a1::a2::a3::r) (a0::a1::a2::v::r):= .succ .z2
theorem aT.z4 {α:Type}{v a0 a1 a2 a3 a4:α}{r:List α}:aT v 4 (a0::a1::a2::a3::a4::r) (a0::a1::a2::a3::v::r):= .succ .z3
theorem aT.z5 {α:Type}{v a0 a1 a2 a3 a4 a5:α}{r:List α}:aT v 5 (a0::a1::a2::a3::a4::a5::r) (a0::a1::a2::a3::a4::v::r):= .succ .z4
theorem aT.z6 {α:Type}{v a0 a1 a2 a3 a4 a5 a6:α}{r:List α}:aT v 6 (a0::a1::a2::a3::a4::a5::a6::r) (a0::a1::a2::a3::a4::a5::v::r):= .succ .z5
theorem aT.z7 {α:Type}{v a0 a1 a2 a3 a4 a5 a6 a7:α}{r:List α}:aT v 7 (a0::a1::a2::a3::a4::a5::a6::a7::r) (a0::a1::a2::a3::a4::a5::a6::v::r):= .succ .z6
theorem aT.z8 {α:Type}{v a0 a1 a2 a3 a4 a5 a6 a7 a8:α}{r:List α}:aT v 8 (a0::a1::a2::a3::a4::a5::a6::a7::a8::r) (a0::a1::a2::a3::a4::a5::a6::a7::v::r):= .succ .z7
theorem aT.z9 {α:Type}{v a0 a1 a2 a3 a4 a5 a6 a7 a8 a9:α}{r:List α}:aT v 9 (a0::a1::a2::a3::a4::a5::a6::a7::a8::a9::r) (a0::a1::a2::a3::a4::a5::a6::a7::a8::v::r):= .succ .z8
theorem aT.z10 {α:Type}{v a0 a1 a2 a3 a4 a5 a6 a7 a8 a9 a10:α}{r:List α}:aT v 10 (a0::a1::a2::a3::a4::a5::a6::a7::a8::a9::a10::r) (a0::a1::a2::a3::a4::a5::a6::a7::a8::a9::v::r):= .succ .z9
theorem aT.z11 {α:Type}{v a0 a1 a2 a3 a4 a5 a6 a7 a8 a9 a10 a11:α}{r:List α}:aT v 11 (a0::a1::a2::a3::a4::a5::a6::a7::a8::a9::a10::a11::r) (a0::a1::a2::a3::a4::a5::a6::a7::a8::a9::a10::v::r):= .succ .z10
theorem aT.z12 {α:Type}{v a0 a1 a2 a3 a4 a5 a6 a7 a8 a9 a10 a11 a12:α}{r:List α}:aT v 12 (a0::a1::a2::a3::a4::a5::a6::a7::a8::a9::a10::a11::a12::r) (a0::a1::a2::a3::a4::a5::a6::a7::a8::a9::a10::a11::v::r):= .succ .z11
theorem aT.z13 {α:Type}{v a0 a1 a2 a3 a4 a5 a6 a7 a8 a9 a10 a11 a12 a13:α}{r:List α}:aT v 13 (a0::a1::a2::a3::a4::a5::a6::a7::a8::a9::a10::a11::a12::a13::r) (a0::a1::a2::a3::a4::a5::a6::a7::a8::a9::a10::a11::a12::v::r):= .succ .z12
theorem aT.z14 {α:Type}{v a0 a1 a2 a3 a4 a5 a6 a7 a8 a9 a10 a11 a12 a13 a14:α}{r:List α}:aT v 14 (a0::a1::a2::a3::a4::a5::a6::a7::a8::a9::a10::a11::a12::a13::a14::r) (a0::a1::a2::a3::a4::a5::a6::a7::a8::a9::a10::a11::a12::a13::v::r):= .succ .z13
theorem aT.z15 {α:Type}{v a0 a1 a2 a3 a4 a5 a6 a7 a8 a9 a10 a11 a12 a13 a14 a15:α}{r:List α}:aT v 15 (a0::a1::a2::a3::a4::a5::a6::a7::a8::a9::a10::a11::a12::a13::a14::a15::r) (a0::a1::a2::a3::a4::a5::a6::a7::a8::a9::a10::a11::a12::a13::a14::v::r):= .succ .z14
theorem aT.z16 {α:Type}{v a0 a1 a2 a3 a4 a5 a6 a7 a8 a9 a10 a11 a12 a13 a14 a15 a16:α}{r:List α}:aT v 16 (a0::a1::a2::a3::a4::a5::a6::a7::a8::a9::a10::a11::a12::a13::a14::a15::a16::r) (a0::a1::a2::a3::a4::a5::a6::a7::a8::a9::a10::a11::a12::a13::a14::a15::v::r):= .succ .z15
theorem aT.z17 {α:Type}{v a0 a1 a2 a3 a4 a5 a6 a7 a8 a9 a10 a11 a12 a13 a14 a15 a16 a17:α}{r:List α}:aT v 17 (a0::a1::a2::a3::a4::a5::a6::a7::a8::a9::a10::a11::a12::a13::a14::a15::a16::a17::r) (a0::a1::a2::a3::a4::a5::a6::a7::a8::a9::a10::a11::a12::a13::a14::a15::a16::v::r):= .succ .z16
theorem aT.eq(h:aT v i l l'):l'=l.set i v∧i<l.length:=by
 induction h with
 |zero=>exact⟨rfl,Nat.zero_lt_succ _⟩
 |succ _ ih=>exact⟨congrArg (_::·) ih.1,Nat.succ_lt_succ ih.2⟩
theorem EI(h:idx c x=some i):∃p,c.scope.names[i]?=some p∧p.1=x:=by
 unfold idx at h;rw[List.findIdx?_eq_some_iff_getElem]at h;obtain⟨hi,hp,_⟩:=h;exact⟨_,lGe hi,by simpa using hp⟩
theorem slot_set(hx:idx c x=some i)(hl:i<loc.length)(v:V)(y:Str):slot c (loc.set i (some v)) y=if y=x then some v else slot c loc y:=by
 unfold slot
 by_cases q:y=x
 ·subst q;rw[if_pos rfl,hx];dsimp only;rw[List.getElem?_set_self hl];rfl
 ·rw[if_neg q];cases hy:idx c y with
  |none=>rfl
  |some j=>
   dsimp only;have:i≠j:=fun e=>by
    subst e;obtain⟨p,h1,h2⟩:=EI hx;obtain⟨p',h1',h2'⟩:=EI hy;rw[h1]at h1';cases h1';exact q (h2'.symm.trans h2)
   rw[List.getElem?_set_ne this]
noncomputable abbrev FC.env(c:FC)(cl:List (Str×Addr))(L a:Addr):Env:=
 {scope:=c.scope,locals:=L,globals:=3,cells:=cl,qual:=c.qual,func:=bif c.inner then none else some c.fn,code:=c.code,frame:=some (bif c.inner then a else L),builtins:=0}
structure aG(S:Sta)(c:FC)(cl:List (Str×Addr))(L:Addr)(ρ:Pl)(σ:St)(s:Shared):Prop extends CorrH S ρ σ.hp s where
 ns:∃m,s.heap.Ns L m∧∀x,gr ρ σ.hp.length s.heap (slot c σ.loc x) (m x)
 above:S.H.get? L=none
 free:iN ρ σ.hp.length L
 nfz:¬ρ.fz L
 cel:∀x i,c.cel.lookup x=some i→i<σ.hp.length∧cl.lookup x=some (ρ.pl i).1
 cst:∀x a,c.cst.lookup x=some a→cl.lookup x=some a
structure AOk(A:Around)(d:Nat):Prop where
 handled:A.handled=none
 depth:A.depth≤d
 units:A.units≤8*d
theorem AOk.deeper(h:AOk A d)(env:Env):AOk (A.deeper env) (d+1):=⟨h.handled,Nat.succ_le_succ h.depth,by have:=h.units;show A.units+3≤_;exact fj2 (Y0 (.a X0 (.k 3)) (.m 8 (.i X1))) [Y0 X0 (.m 8 X1)] rfl this⟩
theorem AOk.in1(h:AOk A d):AOk A.in1 (d+1):=⟨h.handled,Nat.le_succ_of_le h.depth,by have:=h.units;show A.units+1≤_;exact fj2 (Y0 (.i X0) (.m 8 (.i X1))) [Y0 X0 (.m 8 X1)] rfl this⟩
theorem AOk.up(h:AOk A d):AOk A (d+1):=⟨h.handled,Nat.le_succ_of_le h.depth,by have:=h.units;exact fj2 (Y0 X0 (.m 8 (.i X1))) [Y0 X0 (.m 8 X1)] rfl this⟩
inductive Out where
 |next|brk|cont
 |ret (v:V)
noncomputable def GX(ρ:Pl)(n:Nat)(h:Heap):Out→Flow→Prop
 | .next,.next=>True
 | .brk,.brk=>True
 | .cont,.cont=>True
 | .ret v,.ret x=>RelV ρ n h v x
 |_,_=>False
section
variable {S:Sta} {ρ ρ':Pl} {hp hp':List ai} {s s':Shared} {l:List Addr} {L:Addr}
theorem aq(h:Heap)(ha: @LE.le Nat _ h.objs.size a):h.get? a=none:=by
 cases q:h.get? a with
 |none=>rfl
 |some o=>exact absurd (Heap.lt_size q) (Nat.not_lt.mpr ha)
theorem CorrH.fresh_of(C:CorrH S ρ hp s)(h:s.heap.get? a=none):S.H.get? a=none:=by
 cases q:S.H.get? a with
 |none=>rfl
 |some o=>rw[C.keep a o q]at h;cases h
theorem CorrH.nfz_of(C:CorrH S ρ hp s)(h:s.heap.get? a=none):¬ρ.fz a:=fun q=>by
 have:=(C.fz a q).2;rw[h]at this;cases this
theorem CorrH.place_get(C:CorrH S ρ hp s)(hi:i<hp.length):(∃o,s.heap.get? (ρ.pl i).1=some o)∧∃o,s.heap.get? (ρ.pl i).2=some o:=by
 obtain⟨⟨o1,e1,_⟩,o2,e2,_⟩:=(C.objs i _ (lGe hi)).places;exact⟨⟨o1,e1⟩,o2,e2⟩
theorem CorrH.free_of(C:CorrH S ρ hp s)(h:s.heap.get? a=none):iN ρ hp.length a:=⟨fun t ht=>let⟨_,e,_⟩:=C.tab t ht;(bF e h).symm,fun j hj=>by
 obtain⟨⟨_,a⟩,_,b⟩:=C.place_get hj;exact⟨(bF a h).symm,(bF b h).symm⟩⟩
theorem CorrH.free0(C:CorrH S ρ [] s)(e:s.heap.get? a=some o)(hn:o.cls≠.none∨∀ps,o.data≠.fields ps):iN ρ ([]:List ai).length a:=⟨C.noTab e hn,fun i hi=>absurd hi (nNz _)⟩
theorem CorrH.moves(C:CorrH S ρ hp s)(hl:kl ρ l s.heap)(hf:∀b∈l,iN ρ hp.length b∧S.H.get? b=none)(sz:∀b,(s.heap.get? b).isSome=true→(s'.heap.get? b).isSome=true)
  (hk:∀b o,s.heap.get? b=some o→b∉l→s'.heap.get? b=some o)(hg:AllBare s'.gens)(ho:s'.os=s.os):CorrH S ρ hp s'∧ah l ρ hp s ρ hp s':=by
 have T:ah l ρ hp s ρ hp s':=⟨fun _ _=>rfl,nRe _,sz,fun b o h hb _=>hk b o h hb,fun i h1 h2=>absurd h2 (Nat.not_lt.mpr h1),fun _ h=>h,fun _ h=> .inl h⟩;haveI M:=T.moves C hl;refine⟨⟨fun b o h=>hk b o (C.keep b o h) fun q=>?_,fun i o h=>?_,C.fresh,C.inj,hg,ho.trans C.os,fun b h=>⟨(C.fz b h).1,sz b (C.fz b h).2⟩,
  fun t ht=>(C.tab t ht).move (fun o e=>hk _ o e fun q=>(hf _ q).1.1 t ht rfl) fun c hc=>⟨hc,fun o e=>hk _ o e fun q=>(hl c q).2 hc⟩⟩,T⟩
 ·rw[(hf b q).2]at h;cases h
 ·haveI hi:i<hp.length:=(lSi h).1;refine(C.objs i o h).move M (fun ob e=>hk _ ob e fun q=>?_) (fun ob e=>hk _ ob e fun q=>?_)
  ·exact((hf _ q).1.2 i hi).1 rfl
  ·exact((hf _ q).1.2 i hi).2 rfl
theorem CorrH.grows(C:CorrH S ρ hp s)(hk:∀b o,s.heap.get? b=some o→s'.heap.get? b=some o)(hg:AllBare s'.gens)(ho:s'.os=s.os):CorrH S ρ hp s'∧ah [] ρ hp s ρ hp s':=
 C.moves (l:=[]) gH (fun _ h=>by cases h) (g7 hk) (fun b ob h _=>hk b ob h) hg ho
theorem CorrH.push(C:CorrH S ρ hp s)(o:Obj)(tk:Nat):CorrH S ρ hp {s with heap:=s.heap.push o,toks:=tk}∧ah [] ρ hp s ρ hp {s with heap:=s.heap.push o,toks:=tk}:=
 C.grows (fun b ob h=>Heap.get?_push_of_some o h) C.gens rfl
noncomputable def jE(ρ:Pl)(n:Nat)(p:Addr×Addr):Pl:=⟨fun i=>if i=n then p else ρ.pl i,ρ.fz⟩
theorem cG(h:i<n):(jE ρ n p).pl i=ρ.pl i:=if_neg (nNe h)
theorem grow_self:(jE ρ n p).pl n=p:=if_pos rfl
theorem CorrH.add(C:CorrH S ρ hp s)(hk:∀b ob,s.heap.get? b=some ob→s'.heap.get? b=some ob)
  (h1:s.heap.get? p.1=none)(h2:s.heap.get? p.2=none)(hg:AllBare s'.gens)(ho:s'.os=s.os)
  (hr:cL ρ (jE ρ hp.length p) hp.length (hp.length+1) s.heap s'.heap→iV (jE ρ hp.length p) (hp.length+1) s'.heap p o):
  CorrH S (jE ρ hp.length p) (hp++[o]) s'∧ah [] ρ hp s (jE ρ hp.length p) (hp++[o]) s':=by
 have ht:∀a xs,TupAt s.heap a xs→TupAt s'.heap a xs:=fun a xs ⟨k,e⟩=>⟨k,hk a _ e⟩
 have hlen:(hp++[o]).length=hp.length+1:=by simp
 have pl:∀i,i<hp.length→(∃o,s.heap.get? (ρ.pl i).1=some o)∧∃o,s.heap.get? (ρ.pl i).2=some o:=fun i hi=>C.place_get hi
 have M:cL ρ (jE ρ hp.length p) hp.length (hp.length+1) s.heap s'.heap:=⟨ht,fun i hi=>cG hi,Nat.le_succ _,fun _ h=>h,fun b o _ e=>hk b o e⟩;refine⟨⟨fun b ob h=>hk b ob (C.keep b ob h),fun i ob h=>?_,fun i hi=>?_,fun i j hi hj hne=>?_,hg,ho.trans C.os,fun b hz=>⟨⟨(C.fz b hz).1.1,fun i hi=>?_⟩,g7 hk b (C.fz b hz).2⟩,
  fun t ht=>(C.tab t ht).move (fun o e=>hk _ o e) fun c hc=>⟨hc,fun o e=>hk _ o e⟩⟩,
  fun i hi=>cG hi,by rw[hlen];exact Nat.le_succ _,g7 hk,fun b ob h _ _=>hk b ob h,fun i h3 h4=>?_,fun _ h=>h,fun _ h=> .inl h⟩
 ·rw[hlen]
  by_cases q:i<hp.length
  ·rw[List.getElem?_append_left q]at h;rw[cG q];exact(C.objs i ob h).move M (fun ob e=>hk _ ob e) (fun ob e=>hk _ ob e)
  ·have hi:i<(hp++[o]).length:=(lSi h).1;have e:i=hp.length:=nAs (fj3 (Y0 X0 X1) [Y2 X2 (.i X1),Y1 X0 X2] rfl hlen hi) ((nNl q));subst e;rw[List.getElem?_append_right (nRe _)]at h;simp at h;subst h;rw[grow_self];exact hr M
 ·by_cases q:i<hp.length
  ·rw[cG q];exact C.fresh i q
  ·have e:i=hp.length:=nAs (fj3 (Y0 X0 X1) [Y2 X2 (.i X1),Y1 X0 X2] rfl hlen hi) ((nNl q));subst e;rw[grow_self];exact⟨C.fresh_of h1,C.fresh_of h2⟩
 ·by_cases q:i<hp.length
  ·by_cases r:j<hp.length
   ·rw[cG q,cG r];exact C.inj i j q r hne
   ·have e:j=hp.length:=nAs (fj3 (Y0 X0 X1) [Y2 X2 (.i X1),Y1 X0 X2] rfl hlen hj) ((nNl r));subst e;rw[cG q,grow_self];obtain⟨⟨_,a⟩,_,b⟩:=pl i q;exact⟨bF a h1,bF a h2,bF b h2⟩
  ·have e:i=hp.length:=nAs (fj3 (Y0 X0 X1) [Y2 X2 (.i X1),Y1 X0 X2] rfl hlen hi) ((nNl q));subst e;have r:j<hp.length:=by lia
   rw[grow_self,cG r];obtain⟨⟨_,a⟩,_,b⟩:=pl j r;exact⟨(bF a h1).symm,(bF b h1).symm,(bF b h2).symm⟩
 ·by_cases q:i<hp.length
  ·rw[cG q];exact(C.fz b hz).1.2 i q
  ·have e:i=hp.length:=nAs (fj3 (Y0 X0 X1) [Y2 X2 (.i X1),Y1 X0 X2] rfl hlen hi) ((nNl q));subst e;rw[grow_self];have:=(C.fz b hz).2;refine⟨fun e=>?_,fun e=>?_⟩
   ·rw[e,h1]at this;cases this
   ·rw[e,h2]at this;cases this
 ·have e:i=hp.length:=nAs (fj3 (Y0 X0 X1) [Y2 X2 (.i X1),Y1 X0 X2] rfl hlen h4) (h3);subst e;rw[grow_self];exact⟨h1,h2⟩
theorem CorrH.set(C:CorrH S ρ hp s)(hi:i<hp.length)(b:Addr)(hb:b=(ρ.pl i).1∨b=(ρ.pl i).2)(hk:∀c ob,c≠b→s.heap.get? c=some ob→s'.heap.get? c=some ob)
  (sz:(s'.heap.get? b).isSome=true)(hg:AllBare s'.gens)(ho:s'.os=s.os)(hr:cL ρ ρ hp.length hp.length s.heap s'.heap→iV ρ hp.length s'.heap (ρ.pl i) o):
  CorrH S ρ (hp.set i o) s'∧ah [] ρ hp s ρ (hp.set i o) s':=by
 have nf:∀c,iN ρ hp.length c→c≠b:=fun c h e=>by
  have:=h.2 i hi;subst e;rcases hb with hb|hb
  ·exact this.1 hb
  ·exact this.2 hb
 have ht:∀a xs,TupAt s.heap a xs→TupAt s'.heap a xs:=fun a xs h=>by
  have:=nf a (C.tupFree h);obtain⟨k,e⟩:=h;exact⟨k,hk a _ this e⟩
 have hlen:(hp.set i o).length=hp.length:=List.length_set ..;have ntb:∀t∈eV,t.1≠b:=fun t ht e=>by
  obtain⟨ps,e1,_⟩:=C.tab t ht;haveI n1:=((C.objs i _ (lGe hi)).noTab).1;haveI n2:=((C.objs i _ (lGe hi)).noTab).2;rw[e]at e1;rcases hb with hb|hb
  ·rw[hb]at e1;exact n1 ps e1
  ·rw[hb]at e1;exact n2 ps e1
 have M:cL ρ ρ hp.length hp.length s.heap s'.heap:=⟨ht,fun _ _=>rfl,nRe _,fun _ h=>h,fun c o hz e=>hk c o (nf c (C.fz c hz).1) e⟩;refine⟨⟨fun c ob h=>hk c ob (fun e=>?_) (C.keep c ob h),fun j ob h=>?_,?_,?_,hg,ho.trans C.os,fun c hz=>⟨by rw[hlen];exact(C.fz c hz).1,mQ hk sz c (C.fz c hz).2⟩,
  fun t ht=>(C.tab t ht).move (fun o e=>hk _ o (ntb t ht) e) fun c hc=>⟨hc,fun o e=>hk _ o (nf c (C.fz c hc).1) e⟩⟩,
  fun _ _=>rfl,Nat.le_of_eq hlen.symm,mQ hk sz,fun c ob h _ hf=>hk c ob (nf c hf) h,fun j h1 h2=>?_,fun _ h=>h,fun _ h=> .inl h⟩
 ·haveI f1:=(C.fresh i hi).1;haveI f2:=(C.fresh i hi).2;subst e;rcases hb with hb|hb
  ·rw[←hb,h]at f1;cases f1
  ·rw[←hb,h]at f2;cases f2
 ·rw[hlen]
  by_cases q:i=j
  ·subst q;rw[List.getElem?_set_self hi]at h;cases h;exact hr M
  ·rw[List.getElem?_set_ne q]at h;have hj:j<hp.length:=(lSi h).1;have d1:=C.inj i j hi hj q;have d2:=C.inj j i hj hi (Ne.symm q);refine(C.objs j ob h).move M (fun ob e=>hk _ ob (fun e'=>?_) e) (fun ob e=>hk _ ob (fun e'=>?_) e)
   ·rcases hb with hb|hb
    ·exact d2.1 (e'.trans hb)
    ·exact d2.2.1 (e'.trans hb)
   ·rcases hb with hb|hb
    ·exact d1.2.1 (hb.symm.trans e'.symm)
    ·exact d2.2.2 (e'.trans hb)
 ·rw[hlen];exact C.fresh
 ·rw[hlen];exact C.inj
 ·rw[hlen]at h2;exact absurd h2 (Nat.not_lt.mpr h1)
mutual
noncomputable def V.nob:V→Bool
 | .tup vs=>nobs vs
 | .list vs=>nobs vs
 | .inst _ fs=>nobf fs
 | .obj _=>false
 |_=>true
noncomputable def nobs:List V→Bool
 |[]=>true
 |v::r=>v.nob&&nobs r
noncomputable def nobf:List (Str×V)→Bool
 |[]=>true
 |(_,v)::r=>v.nob&&nobf r
end
theorem lP:∀{vs:List V},(∀v∈vs,v.nob=true)→nobs vs=true
 |[],_=>rfl
 |v::r,h=>by rw[nobs,h v (.head _),lP fun x hx=>h x (.tail _ hx)];rfl
theorem GY(h:nobs vs=true):∀v∈vs,v.nob=true:=by
 induction vs with
 |nil=>exact fun _ q=>absurd q lNm
 |cons v r ih=>
  have h:=cS h;exact fun x hx=>(List.mem_cons.mp hx).elim (fun e=>e▸h.1) (ih h.2 x)
theorem RelV.closed(r:RelV ρ n h v x)(hn:v.nob=true):RelV ρ 0 h v x:=by
 refine RelV.rec (motive_1:=fun v x _=>v.nob=true→RelV ρ 0 h v x) (motive_2:=fun vs xs _=>nobs vs=true→aj ρ 0 h vs xs) (motive_3:=fun vs xs _=>nobf vs=true→bq ρ 0 h vs xs)
  (fun _=> .none) (fun b _=> .bool b) (fun k t _=> .int k t) (fun k t _=> .str k t) (fun k t _=> .bytes k t) (fun ha _ ih e=> .tup ha (ih e)) (fun hz ha _ ih e=> .list hz ha (ih e))
  (fun hz hd ha hn _ ih e=> .inst hz hd ha hn (ih e)) (fun hz hr _=> .rng hz hr) (fun hi e=>ff e) (fun v _=> .top v) (fun v _=> .any v) (fun _=> .nil) (fun _ _ a b e=>?_) (fun _=> .nil) (fun _ _ a b e=>?_) r hn
 ·have e:=cS e;exact .cons (a e.1) (b e.2)
 ·have e:=cS e;exact .cons (a e.1) (b e.2)
theorem aj.closed(r:aj ρ n h vs xs):nobs vs=true→aj ρ 0 h vs xs:=
 r.indE (fun _=> .nil) fun _ _ _ _ a _ ih e=> .cons (a.closed (cS e).1) (ih (cS e).2)
theorem bq.closed(r:bq ρ n h vs xs):nobf vs=true→bq ρ 0 h vs xs:=
 r.indE (fun _=> .nil) fun _ _ _ _ _ a _ ih e=> .cons (a.closed (cS e).1) (ih (cS e).2)
theorem CorrH.forget(C:CorrH S ρ hp s):CorrH S ρ [] s:=
 ⟨C.keep,fun i o h=>by simp at h,fun i h=>absurd h (nNz i),fun i j h _ _=>absurd h (nNz i),C.gens,C.os,fun b h=>⟨⟨(C.fz b h).1.1,fun i hi=>absurd hi (nNz i)⟩,(C.fz b h).2⟩,C.tab⟩
noncomputable def Pl.back(ρ ρ':Pl):Pl:=⟨ρ.pl,ρ'.fz⟩
theorem RelV.up(r:RelV ρ' 0 h v x):RelV (ρ.back ρ') n h v x:=
 RelV.move (ρ:=ρ') (ρ':=ρ.back ρ') ⟨fun _ _ h=>h,fun i hi=>absurd hi (nNz i),nZl _,fun _ h=>h,fun _ _ _ e=>e⟩ r
theorem CorrH.frame(C:CorrH S ρ hp s)(T:ah [] ρ [] s ρ' [] s')(C':CorrH S ρ' [] s'):CorrH S (ρ.back ρ') hp s'∧ah [] ρ hp s (ρ.back ρ') hp s':=by
 have hk:∀b o,(∀t∈eV,b≠t.1)→s.heap.get? b=some o→s'.heap.get? b=some o:=fun b o hb e=>T.frame b o e (by simp) ⟨hb,fun i hi=>absurd hi (nNz i)⟩
 haveI M:cL ρ (ρ.back ρ') hp.length hp.length s.heap s'.heap:=⟨fun a xs ⟨k,e⟩=>⟨k,hk a _ (C.noTab e (.inl (by simp))) e⟩,fun _ _=>rfl,nRe _,T.fzk,fun b o hz e=>hk b o (C.fz b hz).1.1 e⟩;haveI nt:∀i o,hp[i]?=some o→(∀t∈eV,(ρ.pl i).1≠t.1)∧∀t∈eV,(ρ.pl i).2≠t.1:=fun i o h=>by
  haveI n1:=((C.objs i o h).noTab).1;haveI n2:=((C.objs i o h).noTab).2;refine⟨fun t ht e=>?_,fun t ht e=>?_⟩
  ·obtain⟨ps,e1,_⟩:=C.tab t ht;rw[←e]at e1;exact n1 ps e1
  ·obtain⟨ps,e1,_⟩:=C.tab t ht;rw[←e]at e1;exact n2 ps e1
 refine⟨⟨C'.keep,fun i o h=>(C.objs i o h).move M (fun ob e=>hk _ ob (nt i o h).1 e) (fun ob e=>hk _ ob (nt i o h).2 e),C.fresh,C.inj,C'.gens,C'.os,fun b hz=>⟨?_,(C'.fz b hz).2⟩,C'.tab⟩,
  fun _ _=>rfl,nRe _,T.live,fun b o e _ hf=>hk b o hf.1 e,fun i h1 h2=>absurd h2 (Nat.not_lt.mpr h1),T.fzk,T.fzn⟩
 rcases T.fzn b hz with h|h
 ·exact(C.fz b h).1
 ·exact C.free_of h
noncomputable def Pl.froze(ρ:Pl)(n:Nat):Pl:=⟨ρ.pl,fun b=>ρ.fz b∨∃i,i<n∧(b=(ρ.pl i).1∨b=(ρ.pl i).2)⟩
theorem CorrH.seal(C:CorrH S ρ' hp' s')(T:ah [] ρ [] s ρ' hp' s'):CorrH S (ρ'.froze hp'.length) [] s'∧ah [] ρ [] s (ρ'.froze hp'.length) [] s':=by
 refine⟨⟨C.keep,fun i o h=>by simp at h,fun i h=>absurd h (nNz i),fun i j h _ _=>absurd h (nNz i),C.gens,C.os,fun b h=>⟨⟨?_,fun i hi=>absurd hi (nNz i)⟩,?_⟩,fun t ht=>(C.tab t ht).move (fun _ e=>e) fun c hc=>⟨.inl hc,fun _ e=>e⟩⟩,
  fun i h=>absurd h (nNz i),nRe _,T.live,T.frame,fun i _ h=>absurd h (nNz i),fun b h=> .inl (T.fzk b h),fun b h=>?_⟩
 ·rcases h with h|⟨i,hi,h⟩
  ·exact(C.fz b h).1.1
  ·intro t ht e;obtain⟨ps,e1,_⟩:=C.tab t ht;haveI n1:=((C.objs i _ (lGe hi)).noTab).1;haveI n2:=((C.objs i _ (lGe hi)).noTab).2;rw[←e]at e1;rcases h with h|h
   ·rw[h]at e1;exact n1 ps e1
   ·rw[h]at e1;exact n2 ps e1
 ·rcases h with h|⟨i,hi,h⟩
  ·exact(C.fz b h).2
  ·obtain⟨⟨o,e⟩,o',e'⟩:=C.place_get hi;rcases h with rfl|rfl
   ·rw[e];rfl
   ·rw[e'];rfl
 ·rcases h with h|⟨i,hi,h⟩
  ·exact T.fzn b h
  ·haveI n1:=(T.news i (nZl _) hi).1;haveI n2:=(T.news i (nZl _) hi).2;rcases h with rfl|rfl
   ·exact .inr n1
   ·exact .inr n2
mutual
inductive mR(hp:List ai):V→V→Prop
 |nob {v:V} (h:v.nob=true):mR hp v v
 |tup {vs ws:List V} (h:gJ hp vs ws):mR hp (.tup vs) (.tup ws)
 |list {i:Nat} {vs ws:List V} (e:hp[i]?=some (.list vs)) (h:gJ hp vs ws):mR hp (.obj i) (.list ws)
 |inst {i:Nat} {C:Addr} {fs gs:List (Str×V)} (e:hp[i]?=some (.inst C fs)) (hn:(fs.map (·.1)).Nodup) (h:mn hp fs gs):mR hp (.obj i) (.inst C gs)
inductive gJ(hp:List ai):List V→List V→Prop
 |nil:gJ hp [] []
 |cons {v w:V} {vs ws:List V} (a:mR hp v w) (b:gJ hp vs ws):gJ hp (v::vs) (w::ws)
inductive mn(hp:List ai):List (Str×V)→List (Str×V)→Prop
 |nil:mn hp [] []
 |cons {k:Str} {v w:V} {vs ws:List (Str×V)} (a:mR hp v w) (b:mn hp vs ws):mn hp ((k,v)::vs) ((k,w)::ws)
end
theorem gJ.nobs:∀{vs:List V},nobs vs=true→gJ hp vs vs
 |[],_=> .nil
 |v::r,e=>by rw[Az.nobs,Bool.and_eq_true]at e;exact .cons (.nob e.1) (gJ.nobs e.2)
theorem mn.nobf:∀{vs:List (Str×V)},nobf vs=true→mn hp vs vs
 |[],_=> .nil
 |(k,v)::r,e=>by rw[Az.nobf,Bool.and_eq_true]at e;exact .cons (.nob e.1) (mn.nobf e.2)
theorem zC:cL ρ (ρ.froze n) 0 0 h h:=⟨fun _ _ h=>h,fun _ _=>rfl,nRe _,fun _ h=> .inl h,fun _ _ _ e=>e⟩
theorem EJ:∀{fs:List (Str×V)},(∀x,gr ρ n h (look fs x) (m x))→∃fs':List (Str×Value),(fs'.map (·.1)=fs.map (·.1))∧(∀p∈fs',m p.1=some p.2)∧m=fun x=>fs'.lookup x:=by
 intro fs hr;haveI key:∀gs:List (Str×V),(∀p∈gs,∃v,look fs p.1=some v)→∃fs':List (Str×Value),fs'.map (·.1)=gs.map (·.1)∧∀p∈fs',m p.1=some p.2:=by
  intro gs hg
  induction gs with
  |nil=>exact⟨[],rfl,fun p hp=>by cases hp⟩
  |cons g r ih=>
   obtain⟨fs',h1,h2⟩:=ih fun p hp=>hg p (.tail _ hp)
   obtain⟨v,hv⟩:=hg g (.head _);have:=hr g.1;rw[hv]at this;cases hm:m g.1 with
   |none=>rw[hm]at this;exact this.elim
   |some x=>
    refine⟨(g.1,x)::fs',by simp[h1],fun p hp=>?_⟩;cases hp with
    |head=>exact hm
    |tail _ q=>exact h2 p q
 haveI inl:∀gs:List (Str×V),∀p∈gs,∃v,look gs p.1=some v:=by
  intro gs
  induction gs with
  |nil=>intro p hp;cases hp
  |cons g r ih=>
   intro p hp;obtain⟨k,v⟩:=g;show∃w,List.lookup p.1 ((k,v)::r)=some w;rw[lLc]
   by_cases q:(p.1==k)=true
   ·rw[q];exact⟨v,rfl⟩
   ·rw[Bool.not_eq_true]at q;rw[q];cases hp with
    |head=>simp at q
    |tail _ hp=>exact ih p hp
 obtain⟨fs',h1,h2⟩:=key fs (inl fs);refine⟨fs',h1,h2,?_⟩
 funext x
 show m x=fs'.lookup x;haveI gen:∀(gs:List (Str×V)) (gs':List (Str×Value)),gs'.map (·.1)=gs.map (·.1)→(∀p∈gs',m p.1=some p.2)→(look gs x=none→m x=none)→m x=gs'.lookup x:=by
  intro gs
  induction gs with
  |nil=>intro gs' e _ hn;cases gs' with|nil=>exact hn rfl|cons _ _=>cases e
  |cons g r ih=>
   intro gs' e hm hn;cases gs' with
   |nil=>cases e
   |cons g' r'=>
    obtain⟨k,v⟩:=g;obtain⟨k',v'⟩:=g';simp only[List.map_cons,List.cons.injEq]at e;obtain⟨e1,e2⟩:=e;subst e1;rw[lLc]
    by_cases q:x=k'
    ·subst q;simp only[beq_self_eq_true];exact hm _ (.head _)
    ·haveI q':(x==k')=false:=beq_eq_false_iff_ne.mpr q;rw[q'];refine ih r' e2 (fun p hp=>hm p (.tail _ hp)) fun hl=>hn ?_
     show List.lookup x ((k',v)::r)=none;rw[lLc,q'];exact hl
 refine gen fs fs' h1 h2 fun hl=>?_
 have:=hr x;rw[hl]at this;cases hm:m x with
 |none=>rfl
 |some y=>rw[hm]at this;exact this.elim
theorem tA:∀{fs:List (Str×V)} {j:Nat},(fs.map (·.1)).Nodup→fs[j]?=some (k,v)→look fs k=some v
 |(k',v')::r,0,_,e=>by
  simp at e;obtain⟨rfl,rfl⟩:=e;show List.lookup _ _=_;rw[lLc,beq_self_eq_true]
 |(k',v')::r,j+1,hn,e=>by
  haveI e':r[j]?=some (k,v):=e;simp only[List.map_cons,List.nodup_cons]at hn;have:k≠k':=fun q=>hn.1 (q▸List.mem_map.mpr ⟨(k,v),List.mem_of_getElem? e',rfl⟩)
  show List.lookup _ _=_;rw[lLc,beq_eq_false_iff_ne.mpr this];exact tA hn.2 e'
 |[],_,_,e=>by simp at e
theorem RelV.seal(C:CorrH S ρ hp s)(hs:mR hp v w):∀{x:Value},RelV ρ hp.length s.heap v x→RelV (ρ.froze hp.length) 0 s.heap w x:=by
 refine mR.rec (motive_1:=fun v w _=>∀{x:Value},RelV ρ hp.length s.heap v x→RelV (ρ.froze hp.length) 0 s.heap w x)
  (motive_2:=fun vs ws _=>∀{xs:List Value},aj ρ hp.length s.heap vs xs→aj (ρ.froze hp.length) 0 s.heap ws xs)
  (motive_3:=fun vs ws _=>∀{xs:List (Str×Value)},(xs.map (·.1)=vs.map (·.1))→(∀i:Nat,∀k v,vs[i]?=some (k,v)→∃x,xs[i]?=some (k,x)∧RelV ρ hp.length s.heap v x)→bq (ρ.froze hp.length) 0 s.heap ws xs) ?_ ?_ ?_ ?_ ?_ ?_ ?_ ?_ hs
 ·intro v hn x r;exact(r.closed hn).move zC
 ·intro vs ws _ ih x r;cases r with
  |tup ha hx=>exact .tup ha (ih hx)
 ·intro i vs ws e _ ih x r;cases r with
  |obj hi=>
   obtain⟨_,xs,h1,h2⟩:=C.objs i _ e;exact .list (.inr ⟨i,hi,.inl rfl⟩) h1 (ih h2)
 ·intro i D fs gs e hnd _ ih x r;cases r with
  |obj hi=>
   obtain⟨h1,_,m,h2,h3⟩:=C.objs i _ e;obtain⟨fs',q1,q2,rfl⟩:=EJ h3;refine .inst (.inr ⟨i,hi,.inl rfl⟩) (.inr ⟨i,hi,.inr rfl⟩) h1 h2.ns (ih q1 ?_);intro j k v hj;haveI hl:look fs k=some v:=tA hnd hj;have h4:=h3 k;rw[hl]at h4;replace h4:gr ρ hp.length s.heap (some v) (fs'.lookup k):=h4;cases hm:fs'.lookup k with
   |none=>rw[hm]at h4;exact h4.elim
   |some y=>
    rw[hm]at h4;obtain⟨y',hy⟩:∃y',fs'[j]?=some (k,y'):=by
     have hlen:fs'.length=fs.length:=by have:=congrArg List.length q1;simpa using this
     have hj':j<fs'.length:=by rw[hlen];exact(lSi hj).1
     have:(fs'.map (·.1))[j]?=(fs.map (·.1))[j]?:=by rw[q1]
     rw[List.getElem?_map,List.getElem?_map,hj,lGe hj']at this;simp at this;exact⟨(fs'[j]).2,by rw[lGe hj',←this]⟩
    have:=q2 (k,y') (List.mem_of_getElem? hy);dsimp only at this;rw[hm]at this;cases this;exact⟨y,hy,h4⟩
 ·intro xs r;cases r;exact .nil
 ·intro v w vs ws _ _ a b xs r;cases r with
  |cons r1 r2=>exact .cons (a r1) (b r2)
 ·intro xs e _;cases xs with|nil=>exact .nil|cons _ _=>cases e
 ·intro k v w vs ws _ _ a b xs e r;cases xs with
  |nil=>cases e
  |cons x xs=>
   obtain⟨k',x⟩:=x;simp only[List.map_cons,List.cons.injEq]at e;obtain⟨e1,e2⟩:=e;subst e1;obtain⟨y,h1,h2⟩:=r 0 _ _ rfl;simp at h1;subst h1;exact .cons (a h2) (b e2 fun i k v h=>r (i+1) k v h)
end
noncomputable def kY(l:List (Str×V))(x:Str)(v:V):List (Str×V):=match l with
 |[]=>[(x,v)]
 |(y,u)::r=>if y==x then(y,v)::r else(y,u)::kY r x v
theorem EK(l:List (Str×V))(x:Str)(v:V)(y:Str):look (kY l x v) y=if y=x then some v else look l y:=by
 induction l with
 |nil=>
  show List.lookup y [(x,v)]=if y=x then some v else List.lookup y []
  rw[lLc]
  by_cases h:y=x
  ·subst h;simp
  ·rw[if_neg h,beq_eq_false_iff_ne.mpr h]
 |cons p r ih=>
  obtain⟨z,u⟩:=p;show look (if z==x then(z,v)::r else(z,u)::kY r x v) y=_
  by_cases hz:z=x
  ·subst hz;rw[if_pos (beq_self_eq_true _)];unfold look;rw[lLc,lLc]
   by_cases h:y=z
   ·subst h;simp
   ·rw[if_neg h,beq_eq_false_iff_ne.mpr h]
  ·rw[if_neg (by simpa using hz)];unfold look at ih⊢;rw[lLc,lLc]
   by_cases h:y=z
   ·subst h;simp[hz]
   ·rw[beq_eq_false_iff_ne.mpr h];exact ih
section
variable {S:Sta} {c:FC} {cl:List (Str×Addr)} {L a:Addr} {ρ ρ':Pl} {σ σ':St} {hp':List ai} {s s':Shared} {d:Nat} {A:Around}
theorem aG.nsAll(C:aG S c cl L ρ σ s):kl ρ [L] s.heap:=fun b hb=>by
 cases hb with
 |head=>obtain⟨m,⟨o,es,ep,h1,h2,_⟩,_⟩:=C.ns;exact⟨⟨o,h1,fun xs k _ hd=>by rw[h2]at hd;cases hd⟩,C.nfz⟩
 |tail _ h=>cases h
theorem aG.hmove(C:aG S c cl L ρ σ s)(T:ah [] ρ σ.hp s ρ' hp' s')(C':CorrH S ρ' hp' s'):aG S c cl L ρ' ⟨σ.loc,hp'⟩ s':=by
 obtain⟨m,hm,hr⟩:=C.ns;obtain⟨oL,hL⟩:∃o,s.heap.get? L=some o:=let⟨o,_,_,h1,_⟩:=hm;⟨o,h1⟩;refine⟨C',⟨m,Ns.at hm fun o e=>T.frame L o e (by simp) C.free,fun x=>(hr x).step C.toCorrH gH T⟩,C.above,⟨C.free.1,fun i hi=>?_⟩,fun q=>(T.fzn L q).elim C.nfz fun q=>by(rw[hL]at q;cases q),fun x i h=>?_,C.cst⟩
 ·by_cases q:i<σ.hp.length
  ·rw[T.ext i q];exact C.free.2 i q
  ·haveI n1:=(T.news i (nNl q) hi).1;haveI n2:=(T.news i (nNl q) hi).2;exact⟨bF hL n1,bF hL n2⟩
 ·haveI h1:=(C.cel x i h).1;haveI h2:=(C.cel x i h).2;exact⟨nLl h1 T.len,by rw[T.ext i h1];exact h2⟩
theorem ah.wide(T:ah [] ρ σ.hp s ρ' hp' s'):ah [L] ρ σ.hp s ρ' hp' s':=T.weak fun b hb=>by cases hb
theorem aG.store(C:aG S c cl L ρ σ s)(hx:idx c x=some i)(hi:i<σ.loc.length)(hv:RelV ρ σ.hp.length s.heap v v')(hm:s.heap.Ns L m)
  (hn:h'.Ns L (fun y=>if y=x then some v' else m y))(hs:Heap.SameBut L s.heap h'):aG S c cl L ρ ⟨σ.loc.set i (some v),σ.hp⟩ {s with heap:=h',toks:=tk}∧ah [L] ρ σ.hp s ρ σ.hp {s with heap:=h',toks:=tk}:=by
 obtain⟨CH,T⟩:=C.toCorrH.moves (s':={s with heap:=h',toks:=tk}) C.nsAll (fun b hb=>by
  cases hb with
  |head=>exact⟨C.free,C.above⟩
  |tail _ h=>cases h) (mQ (fun b o hb e=>(hs.2 b hb).trans e) (let⟨o,_,_,h1,_⟩:=hn;by show(h'.get? L).isSome=true;rw[h1];rfl)) (fun b o e hb=>(hs.2 b fun q=>hb (by rw[q];exact .head _)).trans e) C.gens rfl
 obtain⟨m',hm',hr⟩:=C.ns;haveI em:m'=m:=hm'.eq_nsMap.trans hm.eq_nsMap.symm;subst em;refine⟨⟨CH,⟨_,hn,fun y=>?_⟩,C.above,C.free,C.nfz,C.cel,C.cst⟩,T⟩;show gr ρ σ.hp.length h' (slot c (σ.loc.set i (some v)) y) (if y=x then some v' else m' y);rw[slot_set hx hi]
 by_cases q:y=x
 ·rw[if_pos q,if_pos q];exact RelV.step C.toCorrH C.nsAll T hv
 ·rw[if_neg q,if_neg q];exact(hr y).step C.toCorrH C.nsAll T
noncomputable def gk(S:Sta)(L:Addr)(ρ:Pl)(hp:List ai)(s:Shared)(X:PX)(E:PS):Prop:=
 ∀v v' hp' ρ' s',X v hp'→ah [L] ρ hp s ρ' hp' s'→CorrH S ρ' hp' s'→RelV ρ' hp'.length s'.heap v v'→E v' s'
noncomputable def OkQ(S:Sta)(c:FC)(cl:List (Str×Addr))(L:Addr)(R:Pl→Nat→Heap→β→α→Prop)(P:β→St→Prop)(ρ:Pl)(σ:St)(s:Shared)(Q:α→Shared→Prop):Prop:=
 ∀v v' σ' ρ' s',P v σ'→ah [L] ρ σ.hp s ρ' σ'.hp s'→aG S c cl L ρ' σ' s'→R ρ' σ'.hp.length s'.heap v v'→Q v' s'
noncomputable def OkU(S:Sta)(c:FC)(cl:List (Str×Addr))(L:Addr)(R:Pl→Nat→Heap→β→α→Prop)(P:β→St→Prop)(ρ₀:Pl)(hp₀:List ai)(s₀:Shared)(ρ:Pl)(σ:St)(s:Shared)(Q:α→Shared→Prop):Prop:=
 ∀v v' σ' ρ' s',P v σ'→ah [L] ρ₀ hp₀ s₀ ρ' σ'.hp s'→ah [L] ρ σ.hp s ρ' σ'.hp s'→aG S c cl L ρ' σ' s'→R ρ' σ'.hp.length s'.heap v v'→Q v' s'
noncomputable def WT(S:Sta)(d:Nat)(c:FC)(t:Env→Sem α)(R:Pl→Nat→Heap→β→α→Prop)(P:β→St→Prop)(X:PX)(σ:St):Prop:=
 ∀A cl L a ρ s,AOk A d→aG S c cl L ρ σ s→∀(Q:α→Shared→Prop) (E:PS),
  OkQ S c cl L R P ρ σ s Q→
  gk S L ρ σ.hp s X E→wpAny S.M A (t (c.env cl L a)) Q E s
noncomputable def eqR(_:Pl)(_:Nat)(_:Heap)(v v':β):Prop:=v'=v
theorem WT.use(h:WT S d c t R P X σ)(hA:AOk A d)(C:aG S c cl L ρ σ s)(T₀:ah [L] ρ₀ hp₀ s₀ ρ σ.hp s)(hE:gk S L ρ₀ hp₀ s₀ X E)
  (hQ:OkU S c cl L R P ρ₀ hp₀ s₀ ρ σ s Q):wpAny S.M A (t (c.env cl L a)) Q E s:=
 h A cl L a ρ s hA C Q E (fun v v' σ' ρ' s' p T C' r=>hQ v v' σ' ρ' s' p (T₀.trans T) T C' r) (fun v v' hp' ρ' s' x T C' r=>hE v v' hp' ρ' s' x (T₀.trans T) C' r)
noncomputable abbrev WEx(S:Sta)(d:Nat)(c:FC)(e:Ex)(P:PV)(X:PX)(σ:St):Prop:=WT S d c (fun env=>eval e env) RelV P X σ
noncomputable abbrev WB(S:Sta)(d:Nat)(c:FC)(e:Ex)(P:Bool→St→Prop)(X:PX)(σ:St):Prop:=WT S d c (fun env=>isTrue e env (eval e env)) eqR P X σ
noncomputable abbrev W1(S:Sta)(d:Nat)(c:FC)(st:Stmt)(P:Out→St→Prop)(X:PX)(σ:St):Prop:=WT S d c (fun env=>exec st env) GX P X σ
noncomputable abbrev WL(S:Sta)(d:Nat)(c:FC)(b:List Stmt)(P:Out→St→Prop)(X:PX)(σ:St):Prop:=WT S d c (fun env=>execs b env) GX P X σ
noncomputable def WO1(S:Sta)(d:Nat)(c:FC)(f:Value→Sem α)(x:V)(R:Pl→Nat→Heap→β→α→Prop)(P:β→St→Prop)(X:PX)(σ:St):Prop:=
 ∀A cl L ρ s,AOk A d→aG S c cl L ρ σ s→∀x',RelV ρ σ.hp.length s.heap x x'→∀(Q:α→Shared→Prop) (E:PS),
  OkQ S c cl L R P ρ σ s Q→
  gk S L ρ σ.hp s X E→wpAny S.M A (f x') Q E s
noncomputable def WO2(S:Sta)(d:Nat)(c:FC)(f:Value→Value→Sem α)(x y:V)(R:Pl→Nat→Heap→β→α→Prop)(P:β→St→Prop)(X:PX)(σ:St):Prop:=
 ∀A cl L ρ s,AOk A d→aG S c cl L ρ σ s→∀x' y',RelV ρ σ.hp.length s.heap x x'→RelV ρ σ.hp.length s.heap y y'→∀(Q:α→Shared→Prop) (E:PS),
  OkQ S c cl L R P ρ σ s Q→
  gk S L ρ σ.hp s X E→wpAny S.M A (f x' y') Q E s
theorem WO1.use(h:WO1 S d c f x R P X σ)(hA:AOk A d)(C:aG S c cl L ρ σ s)(hx:RelV ρ σ.hp.length s.heap x x')(T₀:ah [L] ρ₀ hp₀ s₀ ρ σ.hp s)(hE:gk S L ρ₀ hp₀ s₀ X E)
  (hQ:OkU S c cl L R P ρ₀ hp₀ s₀ ρ σ s Q):wpAny S.M A (f x') Q E s:=
 h A cl L ρ s hA C x' hx Q E (fun v v' σ' ρ' s' p T C' r=>hQ v v' σ' ρ' s' p (T₀.trans T) T C' r) (fun v v' hp' ρ' s' x T C' r=>hE v v' hp' ρ' s' x (T₀.trans T) C' r)
theorem WO2.use(h:WO2 S d c f x y R P X σ)(hA:AOk A d)(C:aG S c cl L ρ σ s)(hx:RelV ρ σ.hp.length s.heap x x')(hy:RelV ρ σ.hp.length s.heap y y')(T₀:ah [L] ρ₀ hp₀ s₀ ρ σ.hp s)(hE:gk S L ρ₀ hp₀ s₀ X E)
  (hQ:OkU S c cl L R P ρ₀ hp₀ s₀ ρ σ s Q):wpAny S.M A (f x' y') Q E s:=
 h A cl L ρ s hA C x' y' hx hy Q E (fun v v' σ' ρ' s' p T C' r=>hQ v v' σ' ρ' s' p (T₀.trans T) T C' r) (fun v v' hp' ρ' s' x T C' r=>hE v v' hp' ρ' s' x (T₀.trans T) C' r)
theorem aG.toks(C:aG S c cl L ρ σ s)(tk:Nat):aG S c cl L ρ σ {s with toks:=tk}∧ah [L] ρ σ.hp s ρ σ.hp {s with toks:=tk}:=by
 obtain⟨CH,T⟩:=C.toCorrH.moves (l:=[]) (s':={s with toks:=tk}) gH (fun b hb=>by cases hb) (fun _ h=>h) (fun b o e _=>e) C.gens rfl;exact⟨C.hmove T CH,T.wide⟩
theorem aG.push(C:aG S c cl L ρ σ s)(o:Obj)(tk:Nat):aG S c cl L ρ σ {s with heap:=s.heap.push o,toks:=tk}∧ah [L] ρ σ.hp s ρ σ.hp {s with heap:=s.heap.push o,toks:=tk}:=by
 obtain⟨CH,T⟩:=C.toCorrH.push o tk;exact⟨C.hmove T CH,T.wide⟩
theorem aG.grows(C:aG S c cl L ρ σ s)(tk:Nat)(hk:∀b o,s.heap.get? b=some o→h'.get? b=some o):aG S c cl L ρ σ {s with heap:=h',toks:=tk}∧ah [L] ρ σ.hp s ρ σ.hp {s with heap:=h',toks:=tk}:=by
 obtain⟨CH,T⟩:=C.toCorrH.moves (l:=[]) (s':={s with heap:=h',toks:=tk}) gH (fun b hb=>by cases hb) (g7 hk) (fun b o e _=>hk b o e) C.gens rfl;exact⟨C.hmove T CH,T.wide⟩
end
noncomputable def kUn(S:Sta)(d:Nat)(c:FC)(op:UnaryOp)(P:PV)(X:PX)(x:V)(σ:St):Prop:=WO1 S d c (unaryOp op) x RelV P X σ
noncomputable def kTr(S:Sta)(d:Nat)(c:FC)(P:Bool→St→Prop)(X:PX)(x:V)(σ:St):Prop:=WO1 S d c truthy x eqR P X σ
noncomputable def Pu(S:Sta)(d:Nat)(c:FC)(op:Operator)(P:PV)(X:PX)(x y:V)(σ:St):Prop:=WO2 S d c (binaryOp op) x y RelV P X σ
noncomputable def Tf(S:Sta)(d:Nat)(c:FC)(op:Operator)(r:Ex)(P:PV)(X:PX)(x:V)(σ:St):Prop:=WEx S d c r (Pu S d c op P X x) X σ
noncomputable def Pw(S:Sta)(d:Nat)(c:FC)(op:CmpOp)(P:PV)(X:PX)(x y:V)(σ:St):Prop:=WO2 S d c (compareOp op) x y RelV P X σ
noncomputable def JB(S:Sta)(d:Nat)(c:FC)(op:CmpOp)(r:Ex)(P:PV)(X:PX)(x:V)(σ:St):Prop:=WEx S d c r (Pw S d c op P X x) X σ
noncomputable def kB(P:Bool→St→Prop)(v:V)(σ:St):Prop:=∃b,v= .bool b∧P b σ
theorem kb(h:P b σ):kB P (.bool b) σ:=⟨b,rfl,h⟩
noncomputable def Vm(P:Bool→St→Prop)(b:Bool)(σ:St):Prop:=P (!b) σ
section
variable {S:Sta} {d:Nat} {c:FC} {P:PV} {X:PX} {σ:St}
theorem af(h:P (.int i) σ):WEx S d c (.Constant (.int i) k p) P X σ:=fun A cl L a ρ s hA C Q E hQ hE=>by
 obtain⟨C',T⟩:=C.toks (s.toks+1);exact wpAny_Constant_int (hQ _ _ σ ρ _ h T C' (.int i _))
theorem iC(h:P (.str x) σ):WEx S d c (.Constant (.str x) k p) P X σ:=fun A cl L a ρ s hA C Q E hQ hE=>by
 obtain⟨C',T⟩:=C.toks (s.toks+1);exact wpAny_Constant_str (hQ _ _ σ ρ _ h T C' (.str x _))
theorem bh(h:P .none σ):WEx S d c (.Constant .none k p) P X σ:=fun A cl L a ρ s hA C Q E hQ hE=>
 wpAny_Constant_none (hQ _ _ σ ρ _ h (.refl ..) C .none)
theorem gr.some_left(r:gr ρ n h (some v) x):∃x',x=some x'∧RelV ρ n h v x':=by
 cases x with
 |none=>exact r.elim
 |some x=>exact⟨x,rfl,r⟩
theorem A7(hx:idx c x=some i)(hv:loc[i]?=some (some v)):slot c loc x=some v:=by unfold slot;rw[hx];dsimp only;rw[hv];rfl
theorem aa(n:ac c x i .local)(hv:σ.loc[i]?=some (some v))(h:P v σ)(hk:c.scope.kind= .function:=by rfl):WEx S d c (.Name x p) P X σ:=fun A cl L a ρ s hA C Q E hQ hE=>by
 obtain⟨m,hm,hr⟩:=C.ns;have:=hr x;rw[A7 n.ix hv]at this;obtain⟨x',e,r⟩:=this.some_left;exact wpAny_Name (wpAny_loadName_local hk n.kind hm e (hQ _ _ σ ρ _ h (.refl ..) C r)) n.nd
theorem A8(C:aG S c cl L ρ σ s)(hc:c.cel.lookup x=some i)(ho:σ.hp[i]?=some (.cell (some v))):
  ∃x',cl.lookup x=some (ρ.pl i).1∧s.heap.IsCell (ρ.pl i).1 (some x')∧RelV ρ σ.hp.length s.heap v x':=by
 haveI hi:=(C.cel x i hc).1;haveI e:=(C.cel x i hc).2;obtain⟨_,y,h1,r⟩:=C.objs i _ ho;obtain⟨x',rfl,r⟩:=r.some_left;exact⟨x',e,h1,r⟩
theorem cM(n:ac c x j .cell)(hc:c.cel.lookup x=some i)(ho:σ.hp[i]?=some (.cell (some v)))(h:P v σ)(hk:c.scope.kind= .function:=by rfl):WEx S d c (.Name x p) P X σ:=fun A cl L a ρ s hA C Q E hQ hE=>by
 obtain⟨x',e,h1,r⟩:=A8 C hc ho;exact wpAny_Name (wpAny_loadName_cell hk n.kind e h1 (hQ _ _ σ ρ _ h (.refl ..) C r)) n.nd
structure bP(S:Sta)(x:Str)(w:V):Prop where
 ex:∃v,S.mg x=some v∧∀ρ n h,RelV ρ n h w v
theorem bP.top(e:nsIn S.K 3 x=some (some v)):bP S x (.top v):=⟨v,mg_of S.X S.g e,fun _ _ _=> .top v⟩
theorem bP.int(e:nsIn S.K 3 x=some (some (.int k t))):bP S x (.int k):=⟨_,mg_of S.X S.g e,fun _ _ _=> .int k t⟩
structure eW(S:Sta)(x:Str)(v:Value):Prop where
 g:S.mg x=none
 b:S.mb x=some v
theorem eW.of(e:nsIn S.K 3 x=some none)(hb:bootBuiltins x=some v)(hn:x≠("__name__":Str)):eW S x v:=⟨mg_none_of S.X S.g e,(S.blt x hn).trans hb⟩
theorem au(n:ac c x i .globalImplicit)(g:bP S x w)(h:P w σ)(hk:c.scope.kind= .function:=by rfl):WEx S d c (.Name x p) P X σ:=fun A cl L a ρ s hA C Q E hQ hE=>by
 obtain⟨v,hv,hr⟩:=g.ex;exact Name_function_global hk n.kind (loadGlobal_global (S.g.keeps C.keep) hv (hQ _ _ σ ρ _ h (.refl ..) C (hr _ _ _))) n.nd
theorem gK(n:ac c x i .globalImplicit)(g:eW S x v)(h:P (.top v) σ)(hk:c.scope.kind= .function:=by rfl):WEx S d c (.Name x p) P X σ:=fun A cl L a ρ s hA C Q E hQ hE=>
 Name_function_global hk n.kind (loadGlobal_builtin (S.g.keeps C.keep) g.g (S.b.keeps C.keep) g.b (hQ _ _ σ ρ _ h (.refl ..) C (.top v))) n.nd
theorem am(h:WEx S d c l (Tf S d c op r P X) X σ):WEx S d c (.BinOp l op r p) P X σ:=fun A cl L a ρ s hA C Q E hQ hE=>by
 refine wpAny_BinOp (h.use hA C (.refl ..) hE fun x x' σ1 ρ1 s1 h1 T1 _ C1 r1=>?_);refine h1.use hA C1 T1 hE fun y y' σ2 ρ2 s2 h2 T2 U2 C2 r2=>?_
 exact h2.use hA C2 (r1.step C1.toCorrH C1.nsAll U2) r2 T2 hE fun v v' σ3 ρ3 s3 h3 T3 _ C3 r3=>hQ v v' σ3 ρ3 s3 h3 T3 C3 r3
theorem RelV.int_inv(r:RelV ρ n h (.int k) x):∃t,x= .int k t:=by cases r;exact⟨_,rfl⟩
theorem RelV.bool_inv(r:RelV ρ n h (.bool k) x):x= .bool k:=by cases r;rfl
theorem RelV.none_inv(r:RelV ρ n h .none x):x= .none:=by cases r;rfl
theorem RelV.top_inv(r:RelV ρ n h (.top v) x):x=v:=by cases r;rfl
theorem RelV.obj_inv(r:RelV ρ n h (.obj i) x):i<n∧x= .ref (ρ.pl i).1:=by cases r;exact⟨‹_›,rfl⟩
theorem RelV.tup_inv(r:RelV ρ n h (.tup vs) x):∃a xs,x= .ref a∧TupAt h a xs∧aj ρ n h vs xs.toList:=by cases r;exact⟨_,_,rfl,‹_›,‹_›⟩
theorem fR(hf:∀(A:Around) (s:Shared) (t u:Tok) (Q:PS) (E:PS),Q (.int k s.toks) {s with toks:=s.toks+1}→wpAny S.M A (f (.int x t) (.int y u)) Q E s)
  (h:P (.int k) σ):WO2 S d c f (.int x) (.int y) RelV P X σ:=fun A cl L ρ s hA C x' y' hx hy Q E hQ hE=>by
 obtain⟨t,rfl⟩:=hx.int_inv;obtain⟨u,rfl⟩:=hy.int_inv;obtain⟨C',T⟩:=C.toks (s.toks+1);exact hf A s t u Q E (hQ _ _ σ ρ _ h T C' (.int k _))
theorem dQ(h:P (.int (x+y)) σ):WO2 S d c (binaryOp .Add) (.int x) (.int y) RelV P X σ:=fR (fun _ _ _ _ _ _ h=>add_int h) h
theorem bu(h:P (.int (x-y)) σ):WO2 S d c (binaryOp .Sub) (.int x) (.int y) RelV P X σ:=fR (fun _ _ _ _ _ _ h=>sub_int h) h
theorem mo(hm:IntMulOk x y)(h:P (.int (x*y)) σ):WO2 S d c (binaryOp .Mult) (.int x) (.int y) RelV P X σ:=fR (fun _ _ _ _ _ _ h=>mul_int h hm) h
theorem lq(hb:y≠0)(hp:Builtin.divisionGoesByPylong x y=false)(h:P (.int (x.fdiv y)) σ):WO2 S d c (binaryOp .FloorDiv) (.int x) (.int y) RelV P X σ:=fR (fun _ _ _ _ _ _ h=>floordiv_int hb h (.inl hp)) h
theorem iD(hb:y≠0)(h:P (.int (x.fmod y)) σ):WO2 S d c (binaryOp .Mod) (.int x) (.int y) RelV P X σ:=fR (fun _ _ _ _ _ _ h=>mod_int' hb h) h
theorem j1(hn:0≤y)(hn2:y≤1000000)(ha:x.natAbs<2^64)(h:P (.int (x*2^y.toNat)) σ):WO2 S d c (binaryOp .LShift) (.int x) (.int y) RelV P X σ:=fR (fun _ _ _ _ _ _ h=>lshift_int_small hn hn2 ha h) h
theorem j2(hn:0≤y)(h:P (.int (x.fdiv (2^y.toNat))) σ):WO2 S d c (binaryOp .RShift) (.int x) (.int y) RelV P X σ:=fR (fun _ _ _ _ _ _ h=>rshift_int hn h) h
theorem mq(hn:0≤y)(hn2:y≤1000000)(ha:x.natAbs<2^64)(h:P (.int (x^y.toNat)) σ):WO2 S d c (binaryOp .Pow) (.int x) (.int y) RelV P X σ:=fR (fun _ _ _ _ _ _ h=>pow_int_small hn hn2 ha h) h
theorem cU(h:P (.int (Builtin.bitAnd x y)) σ):WO2 S d c (binaryOp .BitAnd) (.int x) (.int y) RelV P X σ:=fR (fun _ _ _ _ _ _ h=>and_int h) h
theorem lQ(h:P (.int (Builtin.bitOr x y)) σ):WO2 S d c (binaryOp .BitOr) (.int x) (.int y) RelV P X σ:=fR (fun _ _ _ _ _ _ h=>or_int h) h
theorem JC(h:P (.int (Builtin.bitXor x y)) σ):WO2 S d c (binaryOp .BitXor) (.int x) (.int y) RelV P X σ:=fR (fun _ _ _ _ _ _ h=>xor_int h) h
theorem lR(h:P (.int (x+y)) σ):WO2 S d c (inplaceOp .Add) (.int x) (.int y) RelV P X σ:=fR (fun _ _ _ _ _ _ h=>iadd_int h) h
theorem tB(h:P (.int (x-y)) σ):WO2 S d c (inplaceOp .Sub) (.int x) (.int y) RelV P X σ:=fR (fun _ _ _ _ _ _ h=>isub_int h) h
theorem qU(hf:∀(A:Around) (s:Shared) (t u:Tok) (Q:PS) (E:PS),Q (.bool k) s→wpAny S.M A (f (.int x t) (.int y u)) Q E s)
  (h:P (.bool k) σ):WO2 S d c f (.int x) (.int y) RelV P X σ:=fun A cl L ρ s hA C x' y' hx hy Q E hQ hE=>by
 obtain⟨t,rfl⟩:=hx.int_inv;obtain⟨u,rfl⟩:=hy.int_inv;exact hf A s t u Q E (hQ _ _ σ ρ _ h (.refl ..) C (.bool k))
theorem el(h:P (.bool (x==y)) σ):WO2 S d c (compareOp .Eq) (.int x) (.int y) RelV P X σ:=qU (fun _ _ _ _ _ _ h=>eq_int h) h
theorem sg(h:P (.bool (x !=y)) σ):WO2 S d c (compareOp .NotEq) (.int x) (.int y) RelV P X σ:=qU (fun _ _ _ _ _ _ h=>ne_int h) h
theorem uH(h:P (.bool (decide (x<y))) σ):WO2 S d c (compareOp .Lt) (.int x) (.int y) RelV P X σ:=qU (fun _ _ _ _ _ _ h=>lt_int h) h
theorem hY(h:P (.bool (decide (x≤y))) σ):WO2 S d c (compareOp .LtE) (.int x) (.int y) RelV P X σ:=qU (fun _ _ _ _ _ _ h=>le_int h) h
theorem lS(h:P (.bool (decide (x>y))) σ):WO2 S d c (compareOp .Gt) (.int x) (.int y) RelV P X σ:=qU (fun _ _ _ _ _ _ h=>gt_int h) h
theorem uI(h:P (.bool (decide (x≥y))) σ):WO2 S d c (compareOp .GtE) (.int x) (.int y) RelV P X σ:=qU (fun _ _ _ _ _ _ h=>ge_int h) h
theorem hZ(h:WEx S d c e (kUn S d c op P X) X σ):WEx S d c (.UnaryOp op e p) P X σ:=fun A cl L a ρ s hA C Q E hQ hE=>by
 refine wpAny_UnaryOp (h.use hA C (.refl ..) hE fun x x' σ1 ρ1 s1 h1 T1 _ C1 r1=>?_);exact h1.use hA C1 r1 T1 hE fun v v' σ3 ρ3 s3 h3 T3 _ C3 r3=>hQ v v' σ3 ρ3 s3 h3 T3 C3 r3
theorem mr(h:P (.int (-x)) σ):WO1 S d c (unaryOp .USub) (.int x) RelV P X σ:=fun A cl L ρ s hA C x' hx Q E hQ hE=>by
 obtain⟨t,rfl⟩:=hx.int_inv;obtain⟨C',T⟩:=C.toks (s.toks+1);exact neg_int (hQ _ _ σ ρ _ h T C' (.int _ _))
theorem Cg(h:WEx S d c l (JB S d c op r P X) X σ)(hm:behindInMarks op r=false:=by with_unfolding_all rfl):WEx S d c (.Compare l [op] [r] p) P X σ:=fun A cl L a ρ s hA C Q E hQ hE=>by
 refine wpAny_Compare1 (h.use hA C (.refl ..) hE fun x x' σ1 ρ1 s1 h1 T1 _ C1 r1=>?_) hm;refine h1.use hA C1 T1 hE fun y y' σ2 ρ2 s2 h2 T2 U2 C2 r2=>?_
 exact h2.use hA C2 (r1.step C1.toCorrH C1.nsAll U2) r2 T2 hE fun v v' σ3 ρ3 s3 h3 T3 _ C3 r3=>hQ v v' σ3 ρ3 s3 h3 T3 C3 r3
end
section
variable {S:Sta} {d:Nat} {c:FC} {P:Bool→St→Prop} {X:PX} {σ:St}
theorem aK(h:P b σ):WO1 S d c truthy (.bool b) eqR P X σ:=fun A cl L ρ s hA C x' hx Q E hQ hE=>by
 obtain rfl:=hx.bool_inv;exact wpAny_truthy_bool (hQ _ _ σ ρ _ h (.refl ..) C rfl)
theorem dB(h:P (k !=0) σ):WO1 S d c truthy (.int k) eqR P X σ:=fun A cl L ρ s hA C x' hx Q E hQ hE=>by
 obtain⟨t,rfl⟩:=hx.int_inv;exact truthy_int (hQ _ _ σ ρ _ h (.refl ..) C rfl)
theorem al(h:WEx S d c e (kTr S d c P X) X σ)(he:∀env,isTrue e env (eval e env)=(do let v←eval e env;standAt e.pos;holding [v] (truthy v)):=by intro _;rfl):WB S d c e P X σ:=fun A cl L a ρ s hA C Q E hQ hE=>by
 refine isTrue_plain (h.use hA C (.refl ..) hE fun x x' σ1 ρ1 s1 h1 T1 _ C1 r1=>?_) (he _);exact h1.use hA C1 r1 T1 hE fun v v' σ3 ρ3 s3 h3 T3 _ C3 r3=>hQ v v' σ3 ρ3 s3 h3 T3 C3 r3
theorem bz(h:WEx S d c l (JB S d c op r (kB P) X) X σ)(hm:behindInMarks op r=false:=by with_unfolding_all rfl):WB S d c (.Compare l [op] [r] p) P X σ:=fun A cl L a ρ s hA C Q E hQ hE=>by
 refine wpAny_isTrue_Compare1 (h.use hA C (.refl ..) hE fun x x' σ1 ρ1 s1 h1 T1 _ C1 r1=>?_) hm;refine h1.use hA C1 T1 hE fun y y' σ2 ρ2 s2 h2 T2 U2 C2 r2=>?_
 refine h2.use hA C2 (r1.step C1.toCorrH C1.nsAll U2) r2 T2 hE fun v v' σ3 ρ3 s3 h3 T3 _ C3 r3=>?_
 obtain⟨b,rfl,hb⟩:=h3;obtain rfl:=r3.bool_inv;exact wpAny_truthy_bool (hQ _ _ σ3 ρ3 s3 hb T3 C3 rfl)
theorem lr(h:WB S d c e (Vm P) X σ):WB S d c (.UnaryOp .Not e p) P X σ:=fun A cl L a ρ s hA C Q E hQ hE=>by
 refine isTrue_not (h.use hA C (.refl ..) hE fun b b' σ1 ρ1 s1 h1 T1 _ C1 r1=>?_);cases r1;exact hQ _ _ σ1 ρ1 s1 h1 T1 C1 rfl
end
section
variable {S:Sta} {d:Nat} {c:FC} {X:PX} {σ:St}
noncomputable def mS(c:FC)(x:Str)(v:V)(P:St→Prop)(σ:St):Prop:=
 (∃i,ac c x i .local∧i<σ.loc.length∧P ⟨σ.loc.set i (some v),σ.hp⟩)∨
 (∃i j v₀,ac c x j .cell∧c.cel.lookup x=some i∧σ.hp[i]?=some (.cell v₀)∧P ⟨σ.loc,σ.hp.set i (.cell (some v))⟩)
theorem Px(n:ac c x i .local)(hs:aT (some v) i σ.loc loc')(h:P ⟨loc',σ.hp⟩):mS c x v P σ:=
 .inl ⟨i,n,hs.eq.2,by rw[←hs.eq.1];exact h⟩
theorem ag {lo:List (Option V)}{hp:List ai}{x:Str}{v:V}{i:Nat}{loc':List (Option V)}{P:St→Prop}(n:ac c x i .local)(hs:aT (some v) i lo loc')(h:P ⟨loc',hp⟩):mS c x v P ⟨lo,hp⟩:=Px (σ:=⟨lo,hp⟩) n hs h
theorem Ke(n:ac c x j .cell)(hc:c.cel.lookup x=some i)(ho:σ.hp[i]?=some (.cell v₀))(hs:aT (.cell (some v)) i σ.hp hp')(h:P ⟨σ.loc,hp'⟩):mS c x v P σ:=
 .inr ⟨i,j,v₀,n,hc,ho,by rw[←hs.eq.1];exact h⟩
theorem qg {lo:List (Option V)}{hp:List ai}{x:Str}{v:V}{v₀:Option V}{i j:Nat}{hp':List ai}{P:St→Prop}(n:ac c x j .cell)(hc:c.cel.lookup x=some i)(ho:hp[i]?=some (.cell v₀))(hs:aT (.cell (some v)) i hp hp')(h:P ⟨lo,hp'⟩):mS c x v P ⟨lo,hp⟩:=Ke (σ:=⟨lo,hp⟩) n hc ho hs h
theorem kA(hk:c.scope.kind= .function)(h:mS c x v P σ)(C:aG S c cl L ρ σ s)(hv:RelV ρ σ.hp.length s.heap v v')(T₀:ah [L] ρ₀ hp₀ s₀ ρ σ.hp s)
  (hQ:∀σ' s',P σ'→ah [L] ρ₀ hp₀ s₀ ρ σ'.hp s'→ah [L] ρ σ.hp s ρ σ'.hp s'→aG S c cl L ρ σ' s'→Q () s'):wpAny S.M A (storeName (c.env cl L a) x v') Q E s:=by
 rcases h with ⟨i,n,hi,h⟩|⟨i,j,v₀,n,hc,ho,h⟩
 ·obtain⟨m,hm,hr⟩:=C.ns;refine wpAny_storeName_local n.kind hm (fun h' hn hs=>?_) (by show(c.scope.kind== .class||(c.scope.kind== .module&&_))=false;rw[hk];rfl);haveI C':=(C.store (tk:=s.toks+1) n.ix hi hv hm hn hs).1;haveI T:=(C.store (tk:=s.toks+1) n.ix hi hv hm hn hs).2;exact hQ _ _ h (T₀.trans T) T C'
 ·haveI hi:=(C.cel x i hc).1;haveI e:=(C.cel x i hc).2;obtain⟨ep,y,h1,r⟩:=C.objs i _ ho;refine wpAny_storeName_cell hk n.kind e h1 (fun h' hv' hs=>?_);obtain⟨CH,T⟩:=C.toCorrH.set (s':={s with heap:=h'}) (o:= .cell (some v)) hi (ρ.pl i).1 (.inl rfl) (fun b ob hb e=>(hs.2 b hb).trans e) (let⟨o,h1,_⟩:=hv';by show(h'.get? (ρ.pl i).1).isSome=true;rw[h1];rfl) C.gens rfl
   (fun ht=>⟨ep,some v',hv',hv.move ht⟩)
  exact hQ _ _ h (T₀.trans T.wide) T.wide (C.hmove T CH)
noncomputable def lT(S:Sta)(d:Nat)(c:FC)(rest:List Stmt)(P:Out→St→Prop)(X:PX)(o:Out)(σ:St):Prop:=match o with| .next=>WL S d c rest P X σ|o=>P o σ
noncomputable def Ch(c:FC)(x:Str)(P:Out→St→Prop)(v:V)(σ:St):Prop:=mS c x v (P .next) σ
noncomputable def kNx(P:Out→St→Prop)(_:V)(σ:St):Prop:=P .next σ
noncomputable def kRt(P:Out→St→Prop)(v:V)(σ:St):Prop:=P (.ret v) σ
noncomputable def kIf(S:Sta)(d:Nat)(c:FC)(b1 b2:List Stmt)(P:Out→St→Prop)(X:PX)(b:Bool)(σ:St):Prop:=(b=true→WL S d c b1 P X σ)∧(b=false→WL S d c b2 P X σ)
noncomputable def Py(S:Sta)(d:Nat)(c:FC)(op:Operator)(old:V)(x:Str)(P:Out→St→Prop)(X:PX)(v:V)(σ:St):Prop:=WO2 S d c (inplaceOp op) old v RelV (Ch c x P) X σ
theorem dt(hb:b=true)(h:WL S d c b1 P X σ):kIf S d c b1 b2 P X b σ:=⟨fun _=>h,fun e=>Bool.noConfusion (hb.symm.trans e)⟩
theorem aC(hb:b=false)(h:WL S d c b2 P X σ):kIf S d c b1 b2 P X b σ:=⟨fun e=>Bool.noConfusion (hb.symm.trans e),fun _=>h⟩
theorem jd(h1:b=true→WL S d c b1 P X σ)(h2:b=false→WL S d c b2 P X σ):kIf S d c b1 b2 P X b σ:=⟨h1,h2⟩
theorem ae(h:P .next σ):WL S d c [] P X σ:=fun A cl L a ρ s hA C Q E hQ hE=>wpAny_execs_nil (hQ .next .next σ ρ s h (.refl ..) C trivial)
theorem ay {st:Stmt}{rest:List Stmt}{P:Out→St→Prop}(h:W1 S d c st (lT S d c rest P X) X σ):WL S d c (st::rest) P X σ:=fun A cl L a ρ s hA C Q E hQ hE=>by
 refine wpAny_execs_cons (h.use hA C (.refl ..) hE fun o f σ1 ρ1 s1 h1 T1 _ C1 r1=>?_);cases o with
 |next=>cases f<;>first|exact r1.elim|exact h1.use hA C1 T1 hE fun v v' σ3 ρ3 s3 h3 T3 _ C3 r3=>hQ v v' σ3 ρ3 s3 h3 T3 C3 r3
 |brk=>cases f<;>first|exact r1.elim|exact hQ _ _ σ1 ρ1 s1 h1 T1 C1 r1
 |cont=>cases f<;>first|exact r1.elim|exact hQ _ _ σ1 ρ1 s1 h1 T1 C1 r1
 |ret v=>cases f<;>first|exact r1.elim|exact hQ _ _ σ1 ρ1 s1 h1 T1 C1 r1
theorem GZ(h:WEx S d c e (Ch c x P) X σ)(hk:c.scope.kind= .function:=by rfl)
  (hs:∀env,swapsWith e (some (.Name x p1)) p.line env=pure false:=by intro _;rfl):W1 S d c (.Assign [.Name x p1] e p) P X σ:=fun A cl L a ρ s hA C Q E hQ hE=>by
 refine wpAny_Assign_Name (h.use hA C (.refl ..) hE fun v v' σ1 ρ1 s1 h1 T1 _ C1 r1=>?_) (hs _);exact kA hk h1 C1 r1 T1 fun σ2 s2 h2 T2 _ C2=>hQ .next .next σ2 ρ1 s2 h2 T2 C2 trivial
theorem Pz(h:WEx S d c e (kNx P) X σ)(hi:∀cl L a,interactive (c.env cl L a)=false:=by intro _ _ _;rfl)
  (hs:∀env,swapsWith e none p.line env=pure false:=by intro _;rfl):W1 S d c (.Expr e p) P X σ:=fun A cl L a ρ s hA C Q E hQ hE=>
 wpAny_Expr_any (h.use hA C (.refl ..) hE fun v v' σ1 ρ1 s1 h1 T1 _ C1 r1=>hQ .next .next σ1 ρ1 s1 h1 T1 C1 trivial) (hi ..) (hs _)
theorem JD(h:WEx S d c e (kRt P) X σ):W1 S d c (.Return (some e) p) P X σ:=fun A cl L a ρ s hA C Q E hQ hE=>
 wpAny_Return_some (h.use hA C (.refl ..) hE fun v v' σ1 ρ1 s1 h1 T1 _ C1 r1=>hQ (.ret v) (.ret v') σ1 ρ1 s1 h1 T1 C1 r1)
theorem Vn(h:WB S d c e (kIf S d c b1 b2 P X) X σ):W1 S d c (.If e b1 b2 p) P X σ:=fun A cl L a ρ s hA C Q E hQ hE=>by
 refine wpAny_If (h.use hA C (.refl ..) hE fun b b' σ1 ρ1 s1 h1 T1 _ C1 r1=>?_);cases r1;cases b with
 |true=>exact(h1.1 rfl).use hA C1 T1 hE fun v v' σ3 ρ3 s3 h3 T3 _ C3 r3=>hQ v v' σ3 ρ3 s3 h3 T3 C3 r3
 |false=>exact(h1.2 rfl).use hA C1 T1 hE fun v v' σ3 ρ3 s3 h3 T3 _ C3 r3=>hQ v v' σ3 ρ3 s3 h3 T3 C3 r3
theorem qV(h:P .brk σ):W1 S d c (.Break p) P X σ:=fun A cl L a ρ s hA C Q E hQ hE=>wpAny_Break (hQ .brk .brk σ ρ s h (.refl ..) C trivial)
theorem iE(n:ac c x i .local)(hx:σ.loc[i]?=some (some old))
  (h:WEx S d c e (Py S d c op old x P X) X σ)(hk:c.scope.kind= .function:=by rfl):W1 S d c (.AugAssign (.Name x p1) op e p) P X σ:=fun A cl L a ρ s hA C Q E hQ hE=>by
 obtain⟨m,hm,hr⟩:=C.ns;have:=hr x;rw[A7 n.ix hx]at this;obtain⟨x',e',r⟩:=this.some_left;refine wpAny_AugAssign_Name (wpAny_loadName_local hk n.kind hm e' ?_);refine h.use hA C (.refl ..) hE fun v v' σ1 ρ1 s1 h1 T1 U1 C1 r1=>?_
 refine h1.use hA C1 (r.step C.toCorrH C.nsAll U1) r1 T1 hE fun y y' σ2 ρ2 s2 h2 T2 _ C2 r2=>?_
 exact kA hk h2 C2 r2 T2 fun σ3 s3 h3 T3 _ C3=>hQ .next .next σ3 ρ2 s3 h3 T3 C3 trivial
theorem PA(n:ac c x j .cell)(hc:c.cel.lookup x=some i)(ho:σ.hp[i]?=some (.cell (some old)))
  (h:WEx S d c e (Py S d c op old x P X) X σ)(hk:c.scope.kind= .function:=by rfl):W1 S d c (.AugAssign (.Name x p1) op e p) P X σ:=fun A cl L a ρ s hA C Q E hQ hE=>by
 obtain⟨x',e',h1,r⟩:=A8 C hc ho;refine wpAny_AugAssign_Name (wpAny_loadName_cell hk n.kind e' h1 ?_);refine h.use hA C (.refl ..) hE fun v v' σ1 ρ1 s1 h1 T1 U1 C1 r1=>?_
 refine h1.use hA C1 (r.step C.toCorrH C.nsAll U1) r1 T1 hE fun y y' σ2 ρ2 s2 h2 T2 _ C2 r2=>?_
 exact kA hk h2 C2 r2 T2 fun σ3 s3 h3 T3 _ C3=>hQ .next .next σ3 ρ2 s3 h3 T3 C3 trivial
noncomputable def kWh(I:Nat→St→Prop)(n:Nat)(P:Out→St→Prop)(o:Out)(σ:St):Prop:=match o with| .next| .cont=>∃m,m<n∧I m σ| .brk=>P .next σ| .ret v=>P (.ret v) σ
noncomputable def kWt(S:Sta)(d:Nat)(c:FC)(I:Nat→St→Prop)(n:Nat)(b els:List Stmt)(P:Out→St→Prop)(t:Bool)(σ:St):Prop:=(t=true→WL S d c b (kWh I n P) (fun _ _=>False) σ)∧(t=false→WL S d c els P (fun _ _=>False) σ)
theorem Ha(hb:t=true)(h:WL S d c b (kWh I n P) (fun _ _=>False) σ):kWt S d c I n b els P t σ:=⟨fun _=>h,fun e=>Bool.noConfusion (hb.symm.trans e)⟩
theorem PB(hb:t=false)(h:WL S d c els P (fun _ _=>False) σ):kWt S d c I n b els P t σ:=⟨fun e=>Bool.noConfusion (hb.symm.trans e),fun _=>h⟩
theorem PC(h1:t=true→WL S d c b (kWh I n P) (fun _ _=>False) σ)(h2:t=false→WL S d c els P (fun _ _=>False) σ):kWt S d c I n b els P t σ:=⟨h1,h2⟩
theorem nv(I:Nat→St→Prop)(n:Nat)(h0:I n σ)
  (turn:∀n σ,I n σ→WB S d c e (kWt S d c I n b els P) (fun _ _=>False) σ):
  W1 S d c (.While e b els p) P X σ:=fun A cl L a ρ s hA C Q E hQ hE=>by
 refine wpAny_While ?_;refine codeAny_whileLoop (fun n s'=>∃σ' ρ',I n σ'∧ah [L] ρ σ.hp s ρ' σ'.hp s'∧aG S c cl L ρ' σ' s') ?_ n ⟨σ,ρ,h0,.refl ..,C⟩
 rintro n s1 ⟨σ1,ρ1,hI,T1,C1⟩
 refine(turn n σ1 hI).use hA C1 T1 (fun _ _ _ _ _ x=>x.elim) fun t t' σ2 ρ2 s2 h2 T2 _ C2 r2=>?_
 cases r2;cases t with
 |true=>
  refine(h2.1 rfl).use hA C2 T2 (fun _ _ _ _ _ x=>x.elim) fun o f σ3 ρ3 s3 h3 T3 _ C3 r3=>?_
  cases o<;>cases f<;>first|exact r3.elim|skip
  ·obtain⟨m,hm,hI'⟩:=h3;exact⟨m,hm,σ3,ρ3,hI',T3,C3⟩
  ·exact hQ .next .next σ3 ρ3 s3 h3 T3 C3 trivial
  ·obtain⟨m,hm,hI'⟩:=h3;exact⟨m,hm,σ3,ρ3,hI',T3,C3⟩
  ·exact hQ (.ret _) (.ret _) σ3 ρ3 s3 h3 T3 C3 r3
 |false=>exact(h2.2 rfl).use hA C2 T2 (fun _ _ _ _ _ x=>x.elim) fun o f σ3 ρ3 s3 h3 T3 _ C3 r3=>hQ o f σ3 ρ3 s3 h3 T3 C3 r3
end
section
variable {S:Sta} {d:Nat} {c:FC} {X:PX} {σ:St}
noncomputable def WV(S:Sta)(d:Nat)(c:FC)(f:Env→Value→Sem α)(x:V)(R:Pl→Nat→Heap→β→α→Prop)(P:β→St→Prop)(X:PX)(σ:St):Prop:=
 ∀A cl L a ρ s,AOk A d→aG S c cl L ρ σ s→∀x',RelV ρ σ.hp.length s.heap x x'→∀(Q:α→Shared→Prop) (E:PS),
  OkQ S c cl L R P ρ σ s Q→
  gk S L ρ σ.hp s X E→wpAny S.M A (f (c.env cl L a) x') Q E s
theorem WV.use(h:WV S d c f x R P X σ)(hA:AOk A d)(C:aG S c cl L ρ σ s)(hx:RelV ρ σ.hp.length s.heap x x')(T₀:ah [L] ρ₀ hp₀ s₀ ρ σ.hp s)(hE:gk S L ρ₀ hp₀ s₀ X E)
  (hQ:OkU S c cl L R P ρ₀ hp₀ s₀ ρ σ s Q):wpAny S.M A (f (c.env cl L a) x') Q E s:=
 h A cl L a ρ s hA C x' hx Q E (fun v v' σ' ρ' s' p T C' r=>hQ v v' σ' ρ' s' p (T₀.trans T) T C' r) (fun v v' hp' ρ' s' x T C' r=>hE v v' hp' ρ' s' x (T₀.trans T) C' r)
noncomputable abbrev WA(S:Sta)(d:Nat)(c:FC)(target:Ex)(v:V)(P:St→Prop)(X:PX)(σ:St):Prop:=
 WV S d c (fun env x=>assign target env x) v (eqR (β:=Unit)) (fun _=>P) X σ
theorem qh(h:mS c x v P σ)(hk:c.scope.kind= .function:=by rfl):WA S d c (.Name x p) v P X σ:=fun A cl L a ρ s hA C x' hx Q E hQ hE=>
 wpAny_assign_Name (kA hk h C hx (.refl ..) fun σ' s' h' T _ C'=>hQ () () σ' ρ s' h' T C' rfl)
theorem ah.behind(T:ah l ρ hp s ρ' hp' s')(hb:s.heap.get? b=none)
  (hk:∀c o,c≠b→s'.heap.get? c=some o→s''.heap.get? c=some o):ah l ρ hp s ρ' hp' s'':=
 ⟨T.ext,T.len,fun c e=>by
  have h1:=T.live c e;obtain⟨o,ho⟩:=oSm h1;have:c≠b:=fun q=>by rw[q,hb]at e;cases e
  rw[hk c o this ho];rfl,fun c o e hl hf=>hk c o (fun q=>by rw[q,hb]at e;cases e) (T.frame c o e hl hf),T.news,T.fzk,T.fzn⟩
structure Own(S:Sta)(L:Addr)(ρ:Pl)(n:Nat)(h:Heap)(b:Addr):Prop where
 obj:∃o,h.get? b=some o∧g8 o
 free:iN ρ n b
 above:S.H.get? b=none
 loc:L≠b
 nfz:¬ρ.fz b
theorem Own.moves {L:Addr}{ρ:Pl}{hp:List ai}{s s':Shared}{b:Addr}(O:Own S L ρ hp.length s.heap b)(C:CorrH S ρ hp s)(hk:∀c o,c≠b→s.heap.get? c=some o→s'.heap.get? c=some o):cL ρ ρ hp.length hp.length s.heap s'.heap:=by
 refine⟨fun a xs ht=>?_,fun _ _=>rfl,nRe _,fun _ h=>h,fun c o hz e=>hk c o (fun q=>O.nfz (q▸hz)) e⟩;obtain⟨k,h1⟩:=ht;refine⟨k,hk a _ (fun q=>?_) h1⟩;obtain⟨o',e',n'⟩:=O.obj;rw[q,e']at h1;cases h1;exact n' xs k rfl rfl
theorem Own.step(O:Own S L ρ hp.length s.heap b)(T:ah l ρ hp s ρ' hp' s')(hl:b∉l):Own S L ρ' hp'.length s'.heap b∧∀o,s.heap.get? b=some o→s'.heap.get? b=some o:=by
 obtain⟨o,e,n⟩:=O.obj;refine⟨⟨⟨o,T.frame b o e hl O.free,n⟩,⟨O.free.1,fun i hi=>?_⟩,O.above,O.loc,fun q=>(T.fzn b q).elim O.nfz fun q=>by(rw[e]at q;cases q)⟩,fun o' e'=>T.frame b o' e' hl O.free⟩
 by_cases q:i<hp.length
 ·rw[T.ext i q];exact O.free.2 i q
 ·haveI n1:=(T.news i (nNl q) hi).1;haveI n2:=(T.news i (nNl q) hi).2;exact⟨bF e n1,bF e n2⟩
theorem Own.at(O:Own S L ρ n h b)(hb:∃o,h'.get? b=some o∧g8 o):Own S L ρ n h' b:=⟨hb,O.free,O.above,O.loc,O.nfz⟩
theorem aG.behind(C:aG S c cl L ρ σ s)(O:Own S L ρ σ.hp.length s.heap b)
  (hk:∀c o,c≠b→s.heap.get? c=some o→s'.heap.get? c=some o)(hg:AllBare s'.gens)(ho:s'.os=s.os):aG S c cl L ρ σ s':=by
 haveI M:=O.moves C.toCorrH hk;obtain⟨m,hm,hr⟩:=C.ns;refine⟨⟨fun x o h=>hk x o (fun q=>by rw[q,O.above]at h;cases h) (C.keep x o h),fun i o h=>?_,C.fresh,C.inj,hg,ho.trans C.os,fun x hz=>⟨(C.fz x hz).1,?_⟩,fun t ht=>(C.tab t ht).move (fun o e=>hk _ o (fun q=>O.free.1 t ht q.symm) e) fun c hc=>⟨hc,fun o e=>hk _ o (fun q=>O.nfz (q▸hc)) e⟩⟩,⟨m,Ns.at hm fun o e=>hk L o O.loc e,fun x=>(hr x).move M⟩,C.above,C.free,C.nfz,C.cel,C.cst⟩
 ·haveI hi:i<σ.hp.length:=(lSi h).1;exact(C.objs i o h).move M (fun ob e=>hk _ ob (fun q=>(O.free.2 i hi).1 q.symm) e) (fun ob e=>hk _ ob (fun q=>(O.free.2 i hi).2 q.symm) e)
 ·by_cases q:x=b
  ·exact absurd (q▸hz) O.nfz
  ·obtain⟨o,ho⟩:=oSm (C.fz x hz).2;rw[hk x o q ho];rfl
theorem Own.push(C:aG S c cl L ρ σ s)(hf:o.isFreed=false)(ht:g8 o):Own S L ρ σ.hp.length (s.heap.push o) s.heap.objs.size:=by
 have hnone:s.heap.get? s.heap.objs.size=none:=aq _ (nRe _);obtain⟨m,⟨oL,_,_,eL,_⟩,_⟩:=C.ns;exact⟨⟨o,Heap.get?_push_size _ hf,ht⟩,C.toCorrH.free_of hnone,C.toCorrH.fresh_of hnone,bF eL hnone,C.toCorrH.nfz_of hnone⟩
structure si(S:Sta)(it:Addr)(vs:List V)(G:List ai→Prop)(At:Nat→Pl→Nat→Heap→Prop):Prop where
 obj:∀k ρ n h,At k ρ n h→∃o,h.get? it=some o∧g8 o
 stay:∀k ρ ρ' n n' h h',At k ρ n h→cL ρ ρ' n n' h h'→(∀o,h.get? it=some o→h'.get? it=some o)→At k ρ' n' h'
 next:∀k hp ρ s A v,A.handled=none→G hp→CorrH S ρ hp s→At k ρ hp.length s.heap→(∀h',(∀b o,b≠it→s.heap.get? b=some o→h'.get? b=some o)→cL ρ ρ hp.length hp.length s.heap h')→vs[k]?=some v→∀(Q:Option Value→Shared→Prop) (E:PS),
  (∀v' h' tk,RelV ρ hp.length s.heap v v'→(∀b o,b≠it→s.heap.get? b=some o→h'.get? b=some o)→At (k+1) ρ hp.length h'→Q (some v') {s with heap:=h',toks:=tk})→wpAny S.M A (pyNext (.ref it)) Q E s
 stop:∀hp ρ s A,A.handled=none→G hp→CorrH S ρ hp s→At vs.length ρ hp.length s.heap→∀(Q:Option Value→Shared→Prop) (E:PS),
  (∀h' tk,(∀b o,b≠it→s.heap.get? b=some o→h'.get? b=some o)→Q none {s with heap:=h',toks:=tk})→wpAny S.M A (pyNext (.ref it)) Q E s
noncomputable def no:V→List ai→Prop:=fun _ _=>False
noncomputable def Tg(G:List ai→Prop)(J:St→Prop)(P:Out→St→Prop)(o:Out)(σ:St):Prop:=match o with| .next| .cont=>G σ.hp∧J σ| .brk=>P .next σ| .ret w=>P (.ret w) σ
noncomputable def wS(S:Sta)(d:Nat)(c:FC)(body:List Stmt)(G:List ai→Prop)(J:St→Prop)(P:Out→St→Prop)(σ:St):Prop:=WL S d c body (Tg G J P) no σ
noncomputable def lU(S:Sta)(d:Nat)(c:FC)(target:Ex)(body els:List Stmt)(G:List ai→Prop)(P:Out→St→Prop):List V→St→Prop
 |[],σ=>WL S d c els P no σ
 |v::vs,σ=>WA S d c target v (wS S d c body G (fun σ2=>lU S d c target body els G P vs σ2) P) no σ
inductive Vo(S:Sta)(d:Nat)(c:FC)(target:Ex)(body els:List Stmt)(G:List ai→Prop)(P:Out→St→Prop)(At:Nat→Pl→Nat→Heap→Prop)(L:Addr)(cl:List (Str×Addr))(it:Addr)(ρ₀:Pl)(hp₀:List ai)(s₀:Shared)(vs:List V)(n:Nat)(s':Shared):Prop
 |mk (k:Nat) (σ':St) (ρ':Pl) (h0:n+k=vs.length) (h1:lU S d c target body els G P (vs.drop k) σ') (h2:G σ'.hp) (h3:At k ρ' σ'.hp.length s'.heap) (h4:ah [L] ρ₀ hp₀ s₀ ρ' σ'.hp s') (h5:aG S c cl L ρ' σ' s') (h6:Own S L ρ' σ'.hp.length s'.heap it)
theorem sj
  (hA:AOk A d)(J:si S it vs G At)(hit:s₀.heap.get? it=none)(T₀:ah [L] ρ₀ hp₀ s₀ ρ σ.hp s)(C:aG S c cl L ρ σ s)(O:Own S L ρ σ.hp.length s.heap it)(hG:G σ.hp)(hAt:At 0 ρ σ.hp.length s.heap)
  (h:lU S d c target body els G P vs σ)
  (hR:∀o f σ' ρ' s',P o σ'→ah [L] ρ₀ hp₀ s₀ ρ' σ'.hp s'→aG S c cl L ρ' σ' s'→GX ρ' σ'.hp.length s'.heap o f→R (.ok f) s')
  (ht:∀v,letOwnedTupleGo target (.ref it) v=pure ():=by intro _;rfl):
  codeAny S.M A (.forLoop target (.ref it) body els (c.env cl L a)) R s:=by
 suffices key:∀I:Nat→Shared→Prop,(∀n s',I n s'↔Vo S d c target body els G P At L cl it ρ₀ hp₀ s₀ vs n s')→codeAny S.M A (.forLoop target (.ref it) body els (c.env cl L a)) R s from key _ fun _ _=>Iff.rfl
 intro I hI;refine codeAny_forLoop I ?_ vs.length ((hI _ _).mpr ⟨0,σ,ρ,rfl,h,hG,hAt,T₀,C,O⟩) ht;intro n s1 hh;obtain⟨k,σ1,ρ1,hn,hW,hg,hat,T1,C1,O1⟩:=(hI _ _).mp hh;haveI hmv:∀h',(∀b o,b≠it→s1.heap.get? b=some o→h'.get? b=some o)→cL ρ1 ρ1 σ1.hp.length σ1.hp.length s1.heap h':=fun h' hk=>O1.moves (s':={s1 with heap:=h'}) C1.toCorrH hk
 by_cases hk:k<vs.length
 ·haveI hv:vs[k]?=some vs[k]:=lGe hk;rw[List.drop_eq_getElem_cons hk]at hW;refine J.next k σ1.hp ρ1 s1 A _ hA.handled hg C1.toCorrH hat hmv hv _ _ fun v' h' tk hr hkp hat'=>?_
  haveI ob':=J.obj _ _ _ _ hat';have C2:aG S c cl L ρ1 σ1 {s1 with heap:=h',toks:=tk}:=C1.behind (s':={s1 with heap:=h',toks:=tk}) O1 (fun b o hb e=>hkp b o hb e) C1.gens rfl;have T2:ah [L] ρ₀ hp₀ s₀ ρ1 σ1.hp {s1 with heap:=h',toks:=tk}:=T1.behind hit (fun b o hb e=>hkp b o hb e);haveI O2:Own S L ρ1 σ1.hp.length h' it:=O1.at ob';haveI hr2:RelV ρ1 σ1.hp.length h' vs[k] v':=hr.move (hmv h' hkp);refine WV.use hW hA C2 hr2 T2 (fun _ _ _ _ _ x=>x.elim) fun _ _ σ3 ρ3 s3 h3 T3 U3 C3 _=>?_
  refine WT.use h3 hA C3 T3 (fun _ _ _ _ _ x=>x.elim) fun o f σ4 ρ4 s4 h4 T4 U4 C4 r4=>?_
  haveI U:=U3.trans U4;haveI nin:it∉[L]:=fun q=>by cases q with|head=>exact O1.loc rfl|tail _ q=>cases q
  haveI O4:=(Own.step (s:={s1 with heap:=h',toks:=tk}) O2 U nin).1;haveI k4:=(Own.step (s:={s1 with heap:=h',toks:=tk}) O2 U nin).2;haveI A4:=J.stay _ _ _ _ _ _ _ hat' (U.moves C2.toCorrH C2.nsAll) k4;cases o<;>cases f<;>first|exact r4.elim|skip
  ·exact⟨n-1,fj2 (Y1 X0 X1) [Y2 (.i X0) X1] rfl (sac n 1 (fj3 (Y0 (.k 1) X0) [Y2 X1 (.a X0 X2),Y1 X2 X1] rfl hn.symm hk)),(hI _ _).mpr ⟨k+1,σ4,ρ4,nAs (fj4 (Y0 (.a X0 (.i X1)) X2) [Y2 (.a X3 X1) X2,Y2 (.i X0) X3] rfl hn (sac n 1 (fj3 (Y0 (.k 1) X0) [Y2 X1 (.a X0 X2),Y1 X2 X1] rfl hn.symm hk))) (fj4 (Y0 X0 (.a X1 (.i X2))) [Y2 X0 (.a X3 X2),Y0 X3 (.i X1)] rfl hn.symm (lsa n 1)),h4.2,h4.1,A4,T4,C4,O4⟩⟩
  ·exact hR .next .next σ4 ρ4 s4 h4 T4 C4 trivial
  ·exact⟨n-1,fj2 (Y1 X0 X1) [Y2 (.i X0) X1] rfl (sac n 1 (fj3 (Y0 (.k 1) X0) [Y2 X1 (.a X0 X2),Y1 X2 X1] rfl hn.symm hk)),(hI _ _).mpr ⟨k+1,σ4,ρ4,nAs (fj4 (Y0 (.a X0 (.i X1)) X2) [Y2 (.a X3 X1) X2,Y2 (.i X0) X3] rfl hn (sac n 1 (fj3 (Y0 (.k 1) X0) [Y2 X1 (.a X0 X2),Y1 X2 X1] rfl hn.symm hk))) (fj4 (Y0 X0 (.a X1 (.i X2))) [Y2 X0 (.a X3 X2),Y0 X3 (.i X1)] rfl hn.symm (lsa n 1)),h4.2,h4.1,A4,T4,C4,O4⟩⟩
  ·exact hR (.ret _) (.ret _) σ4 ρ4 s4 h4 T4 C4 r4
 ·haveI hkl:k=vs.length:=nAs (fj3 (Y0 X0 X1) [Y2 (.a X2 X0) X1] rfl hn) ((nNl hk));subst hkl;rw[List.drop_length]at hW;refine J.stop σ1.hp ρ1 s1 A hA.handled hg C1.toCorrH hat _ _ fun h' tk hkp=>?_
  haveI C2:aG S c cl L ρ1 σ1 {s1 with heap:=h',toks:=tk}:=C1.behind (s':={s1 with heap:=h',toks:=tk}) O1 (fun b o hb e=>hkp b o hb e) C1.gens rfl;haveI T2:ah [L] ρ₀ hp₀ s₀ ρ1 σ1.hp {s1 with heap:=h',toks:=tk}:=T1.behind hit (fun b o hb e=>hkp b o hb e);exact WT.use hW hA C2 T2 (fun _ _ _ _ _ x=>x.elim) fun o f σ4 ρ4 s4 h4 T4 U4 C4 r4=>hR o f σ4 ρ4 s4 h4 T4 C4 r4
end
noncomputable def dJ:Ex→Bool
 | .Starred _ _=>false
 |_=>true
theorem cH:∀{es:List Ex},es.all dJ=true→starEach es env=es.map fun e=>(false,eval e env)
 |[],_=>rfl
 |e::r,h=>by
  rw[List.all_cons,Bool.and_eq_true]at h;have:starEach (e::r) env=(false,eval e env)::starEach r env:=by
   cases e<;>first|rfl|exact ff h.1
  rw[this,cH h.2];rfl
theorem gt(hp:args.all (fun x=> !x.1)=true)(hall:kws.all (·.1.isSome)=true)
  (h:wpAny M A (spliced args) (fun vs s₁=>wpAny M A (evalAll (kws.map (·.2))) (fun ks s₂=>Q ⟨vs,(kws.filterMap (·.1)).zip ks⟩ s₂) E s₁) E s):wpAny M A (evalArgs f true args kws) Q E s:=by
 unfold evalArgs;have body:wpAny M A (spliced args>>=fun pos=>holding (pos++([]:List Value)) (do
   if kws.all (·.1.isSome)then
    let kw:=(kws.filterMap (·.1)).zip (←evalAll (kws.map (·.2)))
    return ⟨←pure pos,kw⟩
   let d←mergedKeywords f kws;let pos←pure pos
   return ⟨pos,←holding (.ref d::pos) (keywordsIn f d)⟩)) Q E s:=by
  refine wpAny_bind (wpAny_mono h (fun vs s₁ h₁=>?_) fun _ _ x=>x);refine wpAny_holding ?_;simp only[hall,if_true];exact wpAny_bind (wpAny_mono h₁ (fun ks s₂ h₂=>wpAny_bind (wpAny_pure (wpAny_pure h₂))) fun _ _ x=>x)
 cases args with
 |nil=>
  refine wpAny_bind (wpAny_mono (Q:=fun pos s'=>wpAny M A (holding (pos++([]:List Value)) _) Q E s') ?_ (fun _ _ x=>wpAny_bind (wpAny_pure x)) fun _ _ x=>x);exact wpAny_mono h (fun vs s₁ h₁=>by
   refine wpAny_holding ?_;simp only[hall,if_true];exact wpAny_bind (wpAny_mono h₁ (fun ks s₂ h₂=>wpAny_bind (wpAny_pure (wpAny_pure h₂))) fun _ _ x=>x)) fun _ _ x=>x
 |cons x r=>
  obtain⟨b,x⟩:=x;rw[List.all_cons,Bool.and_eq_true]at hp;obtain rfl:b=false:=by simpa using hp.1
  show wpAny M A (spliced ((false,x)::r)>>=_) Q E s;refine wpAny_bind (wpAny_mono h (fun vs s₁ h₁=>?_) fun _ _ x=>x);refine wpAny_bind (wpAny_pure (wpAny_holding ?_));simp only[hall,if_true];exact wpAny_bind (wpAny_mono h₁ (fun ks s₂ h₂=>wpAny_bind (wpAny_pure (wpAny_pure h₂))) fun _ _ x=>x)
section
variable {S:Sta} {d:Nat} {c:FC} {X:PX} {σ:St} {cl:List (Str×Addr)} {L a:Addr} {ρ:Pl} {s:Shared} {A:Around}
noncomputable def WEs(S:Sta)(d:Nat)(c:FC)(X:PX):List Ex→(List V→St→Prop)→St→Prop
 |[],P,σ=>P [] σ
 |e::r,P,σ=>WEx S d c e (fun v σ1=>WEs S d c X r (fun vs σ2=>P (v::vs) σ2) σ1) X σ
noncomputable def WKs(S:Sta)(d:Nat)(c:FC)(X:PX):List Keyword→(List (Str×V)→St→Prop)→St→Prop
 |[],P,σ=>P [] σ
 |⟨some n,e,_⟩::r,P,σ=>WEx S d c e (fun v σ1=>WKs S d c X r (fun vs σ2=>P ((n,v)::vs) σ2) σ1) X σ
 |⟨none,_,_⟩::_,_,_=>False
theorem WEs.use(hA:AOk A d):∀{es:List Ex} {P:List V→St→Prop} {σ:St} {ρ:Pl} {s:Shared},es.all dJ=true→WEs S d c X es P σ→aG S c cl L ρ σ s→
  ∀{ρ₀:Pl} {hp₀:List ai} {s₀:Shared} (T₀:ah [L] ρ₀ hp₀ s₀ ρ σ.hp s) {Q:List Value→Shared→Prop} {E:PS} (hE:gk S L ρ₀ hp₀ s₀ X E)
  (hQ:∀vs vs' σ' ρ' s',vs.length=es.length→P vs σ'→ah [L] ρ₀ hp₀ s₀ ρ' σ'.hp s'→ah [L] ρ σ.hp s ρ' σ'.hp s'→aG S c cl L ρ' σ' s'→aj ρ' σ'.hp.length s'.heap vs vs'→Q vs' s'),wpAny S.M A (spliced (backTo pos (es.map fun e=>(false,eval e (c.env cl L a))))) Q E s
 |[],P,σ,ρ,s,_,h,C,ρ₀,hp₀,s₀,T₀,Q,E,hE,hQ=>spliced_nil (hQ [] [] σ ρ s rfl h T₀ (.refl ..) C .nil)
 |e::r,P,σ,ρ,s,hs,h,C,ρ₀,hp₀,s₀,T₀,Q,E,hE,hQ=>by
  rw[List.all_cons,Bool.and_eq_true]at hs;refine spliced_cons (WT.use h hA C T₀ hE fun v v' σ1 ρ1 s1 h1 T1 U1 C1 r1=>?_);refine WEs.use hA hs.2 h1 C1 T1 hE fun vs vs' σ2 ρ2 s2 hlen h2 T2 U2 C2 r2=>?_
  exact hQ _ _ σ2 ρ2 s2 (by rw[lCo,lCo,hlen]) h2 T2 (U1.trans U2) C2 (.cons (r1.step C1.toCorrH C1.nsAll U2) r2)
theorem sk {X:PX}{env:Env}{pos:Pos}:∀{ks:List Keyword},ks.all (·.arg.isSome)=true→(backToKw pos (keywordEach ks env)).all (·.1.isSome)=true
 |[],_=>rfl
 |⟨n,e,p⟩::r,h=>by
  rw[List.all_cons,Bool.and_eq_true]at h;show(n.isSome&&(backToKw pos (keywordEach r env)).all (·.1.isSome))=true;rw[sk (X:=X) h.2,Bool.and_true];exact h.1
theorem WKs.use(hA:AOk A d):∀{ks:List Keyword} {P:List (Str×V)→St→Prop} {σ:St} {ρ:Pl} {s:Shared},WKs S d c X ks P σ→aG S c cl L ρ σ s→
  ∀{ρ₀:Pl} {hp₀:List ai} {s₀:Shared} (T₀:ah [L] ρ₀ hp₀ s₀ ρ σ.hp s) {Q:List Value→Shared→Prop} {E:PS} (hE:gk S L ρ₀ hp₀ s₀ X E)
  (hQ:∀vs vs' σ' ρ' s',P vs σ'→ah [L] ρ₀ hp₀ s₀ ρ' σ'.hp s'→ah [L] ρ σ.hp s ρ' σ'.hp s'→aG S c cl L ρ' σ' s'→bq ρ' σ'.hp.length s'.heap vs (((backToKw pos (keywordEach ks (c.env cl L a))).filterMap (·.1)).zip vs')→Q vs' s'),
  wpAny S.M A (evalAll ((backToKw pos (keywordEach ks (c.env cl L a))).map (·.2))) Q E s
 |[],P,σ,ρ,s,h,C,ρ₀,hp₀,s₀,T₀,Q,E,hE,hQ=>kwAll_nil (hQ [] [] σ ρ s h T₀ (.refl ..) C .nil)
 |⟨some n,e,p⟩::r,P,σ,ρ,s,h,C,ρ₀,hp₀,s₀,T₀,Q,E,hE,hQ=>by
  refine kwAll_cons (WT.use h hA C T₀ hE fun v v' σ1 ρ1 s1 h1 T1 U1 C1 r1=>?_);refine WKs.use hA h1 C1 T1 hE fun vs vs' σ2 ρ2 s2 h2 T2 U2 C2 r2=>?_
  exact hQ _ _ σ2 ρ2 s2 h2 T2 (U1.trans U2) C2 (.cons (r1.step C1.toCorrH C1.nsAll U2) r2)
 |⟨none,_,_⟩::_,_,_,_,_,h,_,_,_,_,_,_,_,_,_=>h.elim
noncomputable def aI(S:Sta)(d:Nat)(c:FC)(f:V)(vs:List V)(ks:List (Str×V))(P:PV)(X:PX)(σ:St):Prop:=
 ∀A cl L ρ s,AOk A d→aG S c cl L ρ σ s→∀f' vs' ks',RelV ρ σ.hp.length s.heap f f'→aj ρ σ.hp.length s.heap vs vs'→bq ρ σ.hp.length s.heap ks ks'→∀(Q:PS) (E:PS),
  OkQ S c cl L RelV P ρ σ s Q→gk S L ρ σ.hp s X E→
  (∃k,(k=Keeper.frame∨k=Keeper.machine∨k=Keeper.boundFrame)∧Looks S.M s.heap (keeperOf f') k)∧wpAny S.M A (call f' vs' ks') Q E s
theorem aj.append(r:aj ρ n h vs xs)(q:aj ρ n h ws ys):aj ρ n h (vs++ws) (xs++ys):=r.indE q fun _ _ _ _ a _ ih=> .cons a ih
theorem mu {pos:Pos}{env:Env}{es:List Ex}:(backTo pos (es.map fun e=>(false,eval e env))).all (fun x=> !x.1)=true:=by
 rw[List.all_eq_true];intro x hx;simp only[backTo,List.map_map,List.mem_map,Function.comp]at hx;obtain⟨e,_,rfl⟩:=hx;rfl
theorem qi {pos:Pos}{args:List Ex}{kws:List Keyword}{f:V}{first:List V}{f':Value}{first':List Value}{P:PV}(hA:AOk A d)(hs:args.all dJ=true)(hk:kws.all (·.arg.isSome)=true)(C:aG S c cl L ρ σ s)
  (rf:RelV ρ σ.hp.length s.heap f f')(r1:aj ρ σ.hp.length s.heap first first')
  (h:WEs S d c X args (fun vs σ2=>WKs S d c X kws (fun ks σ3=>aI S d c f (first++vs) ks P X σ3) σ2) σ){ρ₀:Pl}{hp₀:List ai}{s₀:Shared}(T₀:ah [L] ρ₀ hp₀ s₀ ρ σ.hp s){Q:PS}{E:PS}(hE:gk S L ρ₀ hp₀ s₀ X E)
  (hQ:∀v v' σ' ρ' s',P v σ'→ah [L] ρ₀ hp₀ s₀ ρ' σ'.hp s'→aG S c cl L ρ' σ' s'→RelV ρ' σ'.hp.length s'.heap v v'→Q v' s'):
  wpAny S.M A (callWith pos f' first' (backTo pos (starEach args (c.env cl L a))) (backToKw pos (keywordEach kws (c.env cl L a)))) Q E s:=by
 haveI hkk:=sk (X:=X) (env:=c.env cl L a) (pos:=pos) hk;rw[cH hs];refine callWith_of (P:=fun h=>∃k,(k=Keeper.frame∨k=Keeper.machine∨k=Keeper.boundFrame)∧Looks S.M h (keeperOf f') k) ?_ (fun h x=>x) ?_
 ·rw[Bool.or_eq_false_iff];refine⟨?_,?_⟩
  ·rw[List.any_eq_false];intro x hx;have:=List.all_eq_true.mp (mu (pos:=pos) (env:=c.env cl L a) (es:=args)) x hx;simpa using this
  ·rw[List.any_eq_false];intro x hx;have:=List.all_eq_true.mp hkk x hx;simp only[Option.isNone_iff_eq_none];intro q;rw[q]at this;cases this
 ·refine gt mu hkk ?_;refine WEs.use hA hs h C T₀ hE fun vs vs' σ2 ρ2 s2 _ h2 T2 U2 C2 r2=>?_
  refine WKs.use hA h2 C2 T2 hE fun ks ks' σ3 ρ3 s3 h3 T3 U3 C3 r3=>?_
  exact h3 A cl L ρ3 s3 hA C3 f' _ _ (rf.step C.toCorrH C.nsAll (U2.trans U3)) (.append (r1.step C.toCorrH C.nsAll (U2.trans U3)) (r2.step C2.toCorrH C2.nsAll U3)) r3 Q E
   (fun v v' σ4 ρ4 s4 h4 T4 C4 r4=>hQ v v' σ4 ρ4 s4 h4 (T3.trans T4) C4 r4) (fun v v' hp' ρ' s' x T C' r=>hE v v' hp' ρ' s' x (T3.trans T) C' r)
noncomputable def JE(S:Sta)(d:Nat)(c:FC)(f:V)(vs:List V)(P:PV)(X:PX)(ks:List (Str×V))(σ:St):Prop:=aI S d c f vs ks P X σ
noncomputable def kKw(S:Sta)(d:Nat)(c:FC)(f:V)(first:List V)(kws:List Keyword)(P:PV)(X:PX)(vs:List V)(σ:St):Prop:=WKs S d c X kws (JE S d c f (first++vs) P X) σ
noncomputable def Hb(S:Sta)(d:Nat)(c:FC)(f:V)(kws:List Keyword)(P:PV)(X:PX)(vs:List V)(σ:St):Prop:=WKs S d c X kws (JE S d c f vs P X) σ
noncomputable def Vp(S:Sta)(d:Nat)(c:FC)(args:List Ex)(kws:List Keyword)(P:PV)(X:PX)(f:V)(σ:St):Prop:=WEs S d c X args (Hb S d c f kws P X) σ
theorem EL
  (h:WEx S d c func (Vp S d c args kws P X) X σ)
  (hs:args.all dJ=true:=by rfl)(hk:kws.all (·.arg.isSome)=true:=by rfl)
  (he:∀env,eval (.Call func args kws pos) env=(do callWith pos (←eval func env) [] (backTo pos (starEach args env)) (backToKw pos (keywordEach kws env))):=by intro _;rfl):
  WEx S d c (.Call func args kws pos) P X σ:=fun A cl L a ρ s hA C Q E hQ hE=>by
 show wpAny S.M A (eval (.Call func args kws pos) (c.env cl L a)) Q E s;rw[he];refine wpAny_bind (WT.use h hA C (.refl ..) hE fun f f' σ1 ρ1 s1 h1 T1 U1 C1 r1=>?_);exact qi (first:=[]) (first':=[]) hA hs hk C1 r1 .nil h1 T1 hE hQ
noncomputable def iO(S:Sta)(d:Nat)(c:FC)(v:V)(name:Str)(P:V→List V→St→Prop)(X:PX)(σ:St):Prop:=
 ∀A cl L ρ s,AOk A d→aG S c cl L ρ σ s→∀v',RelV ρ σ.hp.length s.heap v v'→∀(pl:Sem Bool) (Q:Value×List Value→Shared→Prop) (E:PS),
  (∀f first f' first' σ' ρ' s',P f first σ'→ah [L] ρ σ.hp s ρ' σ'.hp s'→aG S c cl L ρ' σ' s'→RelV ρ' σ'.hp.length s'.heap f f'→aj ρ' σ'.hp.length s'.heap first first'→Q (f',first') s')→gk S L ρ σ.hp s X E→
  wpAny S.M A (getMethod v' name pl) Q E s
noncomputable def kMt(S:Sta)(d:Nat)(c:FC)(args:List Ex)(kws:List Keyword)(P:PV)(X:PX)(f:V)(first:List V)(σ:St):Prop:=WEs S d c X args (kKw S d c f first kws P X) σ
noncomputable def Vq(S:Sta)(d:Nat)(c:FC)(name:Str)(args:List Ex)(kws:List Keyword)(P:PV)(X:PX)(v:V)(σ:St):Prop:=iO S d c v name (kMt S d c args kws P X) X σ
theorem qj {o:Ex}{name:Str}{apos pos:Pos}{args:List Ex}{kws:List Keyword}{P:PV}
  (h:WEx S d c o (Vq S d c name args kws P X) X σ)
  (hs:args.all dJ=true:=by rfl)(hk:kws.all (·.arg.isSome)=true:=by rfl)(hn:args.length+kws.length<29:=by decide)(hline:(apos.endLine==pos.line)=true:=by rfl)
  (hb:∀env,attributeBase o name env (eval o env)=eval o env:=by intro _;rfl):
  WEx S d c (.Call (.Attribute o name apos) args kws pos) P X σ:=fun A cl L a ρ s hA C Q E hQ hE=>by
 show wpAny S.M A (eval (.Call (.Attribute o name apos) args kws pos) (c.env cl L a)) Q E s;rw[arm_eval_Call,hb];refine wpAny_bind (WT.use h hA C (.refl ..) hE fun v v' σ1 ρ1 s1 h1 T1 U1 C1 r1=>?_);refine wpAny_bind (wpAny_standAt ?_);haveI hkk:=sk (X:=X) (env:=c.env cl L a) (pos:=pos) hk;haveI hform:methodCallForm (args.length+kws.length) (backTo pos (starEach args (c.env cl L a))) (backToKw pos (keywordEach kws (c.env cl L a)))=true:=by
  unfold methodCallForm;rw[cH hs,mu,hkk];simp only[Bool.true_and,decide_eq_true_eq];split<;>lia
 haveI hpos:methodCallPos true o (c.env cl L a) apos pos=pure pos:=by unfold methodCallPos;simp[hline]
 unfold methodCall;rw[hform];refine wpAny_bind (wpAny_holding (h1 A cl L ρ1 s1 hA C1 v' r1 _ _ _ (fun f first f' first' σ2 ρ2 s2 h2 T2 C2 rf rfs=>?_) fun v v' hp' ρ' s' x T C' r=>hE v v' hp' ρ' s' x (T1.trans T) C' r));exact wpAny_bind (wpAny_of_eq hpos (qi hA hs hk C2 rf rfs h2 (T1.trans T2) hE hQ))
end
section
variable {S:Sta} {d:Nat}
noncomputable def Th(S:Sta)(ρ:Pl)(hp:List ai)(s:Shared)(X:PX)(E:PS):Prop:=
 ∀v v' hp' ρ' s',X v hp'→ah [] ρ hp s ρ' hp' s'→CorrH S ρ' hp' s'→RelV ρ' hp'.length s'.heap v v'→E v' s'
noncomputable def OkR(S:Sta)(P:PX)(ρ:Pl)(hp:List ai)(s:Shared)(R:PR):Prop:=
 ∀v v' hp' ρ' s',P v hp'→ah [] ρ hp s ρ' hp' s'→CorrH S ρ' hp' s'→RelV ρ' hp'.length s'.heap v v'→R (.ok (.ret v')) s'
noncomputable def WFn(S:Sta)(d:Nat)(f:Value)(vs:List V)(ks:List (Str×V))(P:PX)(X:PX)(hp:List ai):Prop:=
 ∀A ρ s,AOk A d→CorrH S ρ hp s→∀vs' ks',aj ρ hp.length s.heap vs vs'→bq ρ hp.length s.heap ks ks'→∀(R:PR),
  OkR S P ρ hp s R→Th S ρ hp s X (fun e s'=>R (.error e) s')→
  codeAny S.M A (.call f ⟨vs',ks'⟩) R s
noncomputable def kFn(P:PV)(loc:List (Option V))(v:V)(hp':List ai):Prop:=P v ⟨loc,hp'⟩
theorem Ti(h:WFn S d f vs ks (kFn P σ.loc) X σ.hp)(hk:keepIn S.K f=true):aI S d c (.top f) vs ks P X σ:=
 fun A cl L ρ s hA C f' vs' ks' rf r1 r2 Q E hQ hE=>by
  obtain rfl:=rf.top_inv;refine⟨keeps_K hk s.heap (S.X.keeps C.keep),wpAny_call (h A ρ s hA C.toCorrH vs' ks' r1 r2 _ (fun v v' hp' ρ' s' p T C' r=>?_) fun v v' hp' ρ' s' x T C' r=>?_)⟩
  ·exact hQ v v' ⟨σ.loc,hp'⟩ ρ' s' p T.wide (C.hmove T C') r
  ·exact hE v v' hp' ρ' s' x T.wide C' r
theorem xt {lo:List (Option V)}{hp:List ai}{c:FC}{X:PX}{f:Value}{vs:List V}{ks:List (Str×V)}{P:PV}(h:WFn S d f vs ks (kFn P lo) X hp)(hk:keepIn S.K f=true):aI S d c (.top f) vs ks P X ⟨lo,hp⟩:=Ti (σ:=⟨lo,hp⟩) h hk
noncomputable def PFn(S:Sta)(d:Nat)(f:Value)(vs:List V)(ks:List (Str×V))(Φ:V→Prop):Prop:=WFn S d f vs ks (fun v hp'=>Φ v∧hp'=[]) no []
theorem PFn.frame(h:PFn S d f vs ks Φ)(h1:nobs vs=true)(h2:nobf ks=true)(hP:∀v,Φ v→P v hp):WFn S d f vs ks P X hp:=
 fun A ρ s hA C vs' ks' r1 r2 R hQ hE=>by
  refine h A ρ s hA C.forget vs' ks' (r1.closed h1) (r2.closed h2) R (fun v v' hp' ρ' s' p T C' r=>?_) fun _ _ _ _ _ x=>x.elim
  obtain⟨p,rfl⟩:=p;haveI C2:=(C.frame T C').1;haveI T2:=(C.frame T C').2;exact hQ v v' hp _ s' (hP v p) T2 C2 r.up
theorem PD(h:PFn S d f vs ks Φ)(hP:∀v,Φ v→P v σ)(hk:keepIn S.K f=true)(h1:nobs vs=true)(h2:nobf ks=true:=by rfl):aI S d c (.top f) vs ks P X σ:=
 xt (h.frame h1 h2 hP) hk
theorem ah.leave(T₀:ah [] ρ hp s ρ hp s₁)(hL:s.heap.get? L=none)(T:ah [L] ρ hp s₁ ρ' hp' s'):ah [] ρ hp s ρ' hp' s':=
 ⟨T.ext,T.len,fun b h=>T.live b (T₀.live b h),fun b o e _ hf=>T.frame b o (T₀.frame b o e (by simp) hf) (fun q=>by
  cases q with
  |head=>rw[hL]at e;cases e
  |tail _ q=>cases q) hf,fun i h1 h2=>let⟨a,b⟩:=T.news i h1 h2;⟨cV T₀.live a,cV T₀.live b⟩,T.fzk,fun b h=>(T.fzn b h).elim .inl fun q=> .inr (cV T₀.live q)⟩
theorem PFn.sealed(h:WFn S d f vs ks (fun v hp'=>∃w,mR hp' v w∧Φ w) no []):PFn S d f vs ks Φ:=
 fun A ρ s hA C vs' ks' r1 r2 R hQ hE=>by
  refine h A ρ s hA C vs' ks' r1 r2 R (fun v v' hp' ρ' s' p T C' r=>?_) fun _ _ _ _ _ x=>x.elim
  obtain⟨w,hw,p⟩:=p;obtain⟨C2,T2⟩:=C'.seal T;exact hQ w v' [] _ s' ⟨p,rfl⟩ T2 C2 (RelV.seal C' hw r)
noncomputable def Binds(S:Sta)(fd:FuncData)(vs:List V)(ks:List (Str×V))(bs:List (Str×V)):Prop:=
 ∀ρ n s vs' ks',S.K.In s.heap→aj ρ n s.heap vs vs'→bq ρ n s.heap ks ks'→∃bs',BindsTo s fd ⟨vs',ks'⟩ bs'∧bq ρ n s.heap bs bs'
theorem bq.reverse(r:bq ρ n h a b):bq ρ n h a.reverse b.reverse:=by
 have app:∀{a a2:List (Str×V)} {b b2:List (Str×Value)},bq ρ n h a b→bq ρ n h a2 b2→bq ρ n h (a++a2) (b++b2):=fun {a a2 b b2} r1 r2=>by
  induction a generalizing b with
  |nil=>cases r1;exact r2
  |cons x r ih=>cases r1 with|cons q1 q2=>exact .cons q1 (ih q2)
 induction a generalizing b with
 |nil=>cases r;exact .nil
 |cons x t ih=>
  cases r with
  |cons q1 q2=>
   rw[List.reverse_cons,List.reverse_cons];exact app (ih q2) (.cons q1 .nil)
theorem bq.look(r:bq ρ n h a b):gr ρ n h (look a x) (b.lookup x):=
 r.indE trivial fun k _ _ _ _ q1 _ ih=>by
  show gr _ _ _ (List.lookup x _) _;rw[lLc,lLc];cases x==k with
  |true=>exact q1
  |false=>exact ih
theorem bq.keys:∀{a:List (Str×V)} {b:List (Str×Value)},bq ρ n h a b→b.map (·.1)=a.map (·.1)
 |_,_,.nil=>rfl
 |_,_,.cons (k:=k) q1 q2=>by rw[List.map_cons,List.map_cons,q2.keys]
inductive br(c:FC):List (Str×V)→List (Option V)→Prop
 |nil {l:List (Option V)} (h:l=List.replicate c.scope.names.length none):br c [] l
 |cons {x:Str} {v:V} {r:List (Str×V)} {l l':List (Option V)} {i:Nat} (h:br c r l) (n:ac c x i .local) (hs:aT (some v) i l l'):br c ((x,v)::r) l'
theorem br.slot(h:br c bl loc)(x:Str):slot c loc x=look bl x:=by
 induction h with
 |nil h=>
  subst h;unfold Az.slot look;cases hx:idx c x with
  |none=>rfl
  |some i=>
   dsimp only;cases q:(List.replicate c.scope.names.length (none:Option V))[i]? with
   |none=>rfl
   |some y=>
    haveI h2:=(lSi q).2;rw[List.getElem_replicate]at h2;rw[←h2];rfl
 | @cons y v r _ _ _ h n hs ih=>
  haveI e:=(hs.eq).1;haveI hl:=(hs.eq).2;rw[e,slot_set n.ix hl,ih];show _=List.lookup x ((y,v)::r);rw[lLc]
  by_cases q:x=y
  ·subst q;rw[if_pos rfl,beq_self_eq_true]
  ·rw[if_neg q,beq_eq_false_iff_ne.mpr q];rfl
theorem br.kinds(h:br c bl loc):∀p∈bl,c.scope.names.lookup p.1=some .local:=by
 induction h with
 |nil=>exact fun _ q=>absurd q lNm
 |cons _ n _ ih=>exact fun p hp=>(List.mem_cons.mp hp).elim (fun e=>e▸n.kind) (ih p)
noncomputable def de:Out→V
 | .ret v=>v
 |_=> .none
noncomputable abbrev j3(fd:FuncData)(f:Addr):FC:={qual:=fd.qualname++".<locals>.",scope:=fd.scope,code:=fd.code,fn:=f,cst:=fd.closure}
theorem cW(hc:j3 fd f=c)
  (ho:S.K.lookup f=some ⟨oc,od,.func fd,osl⟩)(hcd:codeIn S.K fd.code fd.qualname=true)(hd:d<1000)(hbody:fd.body= .stmts body)(hb:Binds S fd vs ks bl.reverse)(hl:br c bl loc)
  (hcell:∀x∈fd.scope.names,x.2≠.cell)
  (h:WL S (d+1) c body (fun o σ'=>P (de o) σ'.hp) no ⟨loc,hp⟩)
  (hg:fd.globals=3:=by rfl)(hbl:fd.builtins=0:=by rfl)
  (hco:fd.scope.isCoroutine=false:=by rfl)(hgen:fd.scope.isGenerator=false:=by rfl)(hk:fd.scope.kind= .function:=by rfl):WFn S d (.ref f) vs ks P no hp:=
 fun A ρ s hA C vs' ks' r1 r2 R hQ hE=>by
  have X:=S.X.keeps C.keep;obtain⟨bs',hbs,hrel⟩:=hb ρ hp.length s vs' ks' X r1 r2;haveI hrev:=hrel.reverse;rw[List.reverse_reverse]at hrev;refine codeAny_call_def (fd:=fd) (body:=body) (binds:=bs') (Nat.lt_of_le_of_lt hA.depth hd) (X _ _ ho) rfl (S.lim.keeps C.keep) (codeRec_of X hcd) hbody hbs hcell (fun x hx=>?_) (fun h₁ hns hk₁=>?_) hco hgen hk
  ·haveI hm:x.1∈bs'.map (·.1):=List.mem_map_of_mem hx;rw[hrel.keys]at hm;obtain⟨y,hy,e⟩:=lMm hm;rw[←e];have:=hl.kinds y (List.mem_reverse.mp hy);rw[←hc]at this;exact this
  ·have hnone:s.heap.get? s.heap.objs.size=none:=aq _ (nRe _);obtain⟨C1,T1⟩:=C.grows (s':={s with heap:=h₁,toks:=s.toks+bs'.length}) (fun b o e=>hk₁ b o e) C.gens rfl;haveI env:callEnv fd s.heap.objs.size f=(j3 fd f).env fd.closure s.heap.objs.size f:=by
    unfold callEnv FC.env;rw[hg,hbl];rfl
   rw[hc]at env;haveI CC:aG S c fd.closure s.heap.objs.size ρ ⟨loc,hp⟩ {s with heap:=h₁,toks:=s.toks+bs'.length}:=
    ⟨C1,⟨_,hns,fun x=>by rw[hl.slot x];exact(hrev.move (T1.moves C gH)).look⟩,C.fresh_of hnone,C.free_of hnone,C.nfz_of hnone,fun x i e=>(by rw[←hc]at e;cases e),fun x a e=>(by rw[←hc]at e;exact e)⟩
   rw[env];refine h (A.deeper _) fd.closure s.heap.objs.size f ρ _ (hA.deeper _) CC _ _ (fun o fl σ' ρ' s' p T C' r=>?_) (fun _ _ _ _ _ x=>x.elim);refine hQ (de o) _ σ'.hp ρ' s' p (ah.leave T1 hnone T) C'.toCorrH ?_;cases o<;>cases fl<;>first|exact r.elim|exact .none|exact r
end
section
variable {S:Sta} {d:Nat}
theorem EM {h:Heap}{a:Addr}{m:Str→Option Value}{o:Obj}(hn:h.Ns a m)(ho:h.get? a=some o)(x:Str):lookIn x o=some (m x):=by
 obtain⟨o',es,ep,h1,h2,h3,h4⟩:=hn;rw[ho]at h1;cases h1;unfold lookIn;rw[h2];dsimp only;have q:=h4 x;unfold nsFind findBy at q;rw[←Array.find?_toList]at q;cases hf:es.toList.find? (fun e=>e.key.isStr x)with
 |some e=>rw[hf]at q;dsimp only;rw[←q];rfl
 |none=>
  rw[hf]at q;dsimp only;have:es.toList.any (·.refKey)=false:=by
   rw[List.any_eq_false];intro e he;obtain⟨n,t,hk⟩:=h3 e (Array.mem_toList_iff.mp he);simp[DictEntry.refKey,hk]
  rw[this,←q];rfl
structure xu(h:Heap)(a C:Addr)(m:Str→Option Value):Prop where
 ex:∃dx od,h.get? a=some (instObj C dx)∧h.get? dx=some od∧h.Ns dx m
theorem xu.at(I:xu h a C m):∃dx od,InstAt h a (instObj C dx) C (some od)∧(∀x,lookIn x od=some (m x)):=
 let⟨dx,od,h1,h2,h3⟩:=I.ex
 ⟨dx,od,⟨h1,rfl,rfl,h2⟩,EM h3 h2⟩
theorem uJ(hm:makesIn S.K C=true)(hi:findIn S.K (.ref C) "__init__" =some (some (.ref fI)))(hf:typeIn S.K (.ref fI)=some (.type "function"))
  (h:WFn S (d+1) (.ref fI) (.obj 0::vs) ks (fun v hp'=>v= .none∧∃fs gs,hp'[0]?=some (.inst C fs)∧(fs.map (·.1)).Nodup∧mn hp' fs gs∧Φ (.inst C gs)) no [.inst C []])(h1:nobs vs=true)(h2:nobf ks=true):PFn S d (.ref C) vs ks Φ:=
 fun A ρ s hA C0 vs' ks' r1 r2 R hQ hE=>by
  have X:=S.X.keeps C0.keep;obtain⟨hh,g,dr,t,os⟩:=s;refine make_core (makes_of X hm) (looks_findIn X hi) (fun self=>bind_fn X self hf) (.inl rfl) ?_;haveI hk:∀b o,hh.get? b=some o→((hh.push PySem.W.emptyDict).push (instObj C hh.objs.size)).get? b=some o:=fun b o e=>Heap.get?_push_of_some _ (Heap.get?_push_of_some _ e)
  haveI n1:hh.get? (hh.objs.size+1)=none:=aq hh (a:=(hh.objs.size+1:Nat)) (Nat.le_succ _);haveI n2:hh.get? hh.objs.size=none:=aq hh (nRe _);haveI gx:((hh.push PySem.W.emptyDict).push (instObj C hh.objs.size)).get? (hh.objs.size+1)=some (instObj C hh.objs.size):=by heap_get
  haveI nx:((hh.push PySem.W.emptyDict).push (instObj C hh.objs.size)).Ns1 hh.objs.size fun _=>none:= .of_empty ((Heap.Ns.new hh _).push _)
  obtain⟨C1,T1⟩:=C0.add (s':=⟨(hh.push PySem.W.emptyDict).push (instObj C hh.objs.size),g,dr,t,os⟩) (o:= .inst C []) (p:=(hh.objs.size+1,hh.objs.size)) hk n1 n2 C0.gens rfl
   (fun _=>⟨gx,(Nat.succ_ne_self _:hh.objs.size+1≠hh.objs.size),_,nx,fun x=>trivial⟩)
  haveI M1:=T1.moves C0 gH;refine h (A.under (.builtin "type.__call__" ⟨.ref C::vs',ks'⟩)) _ _ ⟨hA.handled,?_,?_⟩ C1 (.ref (hh.objs.size+1)::vs') ks' (.cons ?_ (r1.move M1)) (r2.move M1) _ (fun v v' hp' ρ' s' p T C' r=>?_) (fun _ _ _ _ _ x=>x.elim)
  ·have:=hA.depth;show A.depth+_≤d+1;have hw:Code.weight (.builtin "type.__call__" ⟨.ref C::vs',ks'⟩)=1:=rfl;rw[hw];exact fj2 (Y0 (.i X0) (.i X1)) [Y0 X0 X1] rfl this
  ·have:=hA.units;haveI hw:Code.cUnits (.builtin "type.__call__" ⟨.ref C::vs',ks'⟩)=1:=rfl;show A.units+_≤_;rw[hw];exact fj2 (Y0 (.i X0) (.m 8 (.i X1))) [Y0 X0 (.m 8 X1)] rfl this
  ·have:=RelV.obj (ρ:=jE ρ 0 (hh.objs.size+1,hh.objs.size)) (n:=1) (h:=(hh.push PySem.W.emptyDict).push (instObj C hh.objs.size)) (i:=0) (Nat.zero_lt_one);rw[grow_self]at this;exact this
  ·obtain⟨rfl,fs,gs,e0,hnd,hs,hΦ⟩:=p;obtain rfl:=r.none_inv;haveI C2:=(C'.seal (T1.trans T)).1;haveI T2:=(C'.seal (T1.trans T)).2;haveI hl:0<hp'.length:=(lSi e0).1;haveI r0:=RelV.seal C' (mR.inst e0 hnd hs) (RelV.obj hl);haveI e1:ρ'.pl 0=(hh.objs.size+1,hh.objs.size):=(T.ext 0 Nat.zero_lt_one).trans grow_self;rw[e1]at r0;exact⟨rfl,hQ _ _ [] _ s' ⟨hΦ,rfl⟩ T2 C2 r0⟩
theorem CorrH.inst(C:CorrH S ρ hp s)(e:hp[i]?=some (.inst D fs)):∃m,xu s.heap (ρ.pl i).1 D m∧∀x,gr ρ hp.length s.heap (look fs x) (m x):=by
 obtain⟨h1,h2,m,h3,h4⟩:=C.objs i _ e;have h3':=h3.ns;obtain⟨o,_,_,h5,_⟩:=h3;exact⟨m,⟨_,o,h1,h5,h3'⟩,h4⟩
open PySem (ks_wpAt_super_base)
theorem xw(hc:j3 fd f=c)
  (ho:S.K.lookup f=some ⟨oc,od,.func fd,osl⟩)(hcd:codeIn S.K fd.code fd.qualname=true)(hd:d<1000)(hbody:fd.body= .stmts (.Expr (.Call (.Attribute (.Call (.Name "super" p0) [] [] p1) "__init__" ap) [] [] p2) p3::rest))(hb:Binds S fd vs ks bl.reverse)(hl:br c bl loc)
  (hcell:∀x∈fd.scope.names,x.2≠.cell)
  (hcl:fd.closure=[(("__class__":Str),cc)])(hcv:S.K.lookup cc=some ⟨cl,cld,.cell (some (.ref D)),csl⟩)(hD:clsIn S.K D=some cdD)(hp0:(fd.params.posonlyargs++fd.params.args).head?=some ar)(hself:look bl ar.arg=some (.obj i))(hi:hp[i]?=some (.inst C fs))
  (hsub:mroIn S.K C (.ref D)=some true)(hsm:ks_superIn S.K C D "__init__" =some (some (.ref f2)))(ht2:typeIn S.K (.ref f2)=some (.type "function"))(hf2:fnIn S.K f2=true)
  (hcode:fd.code= .ref cda)(hcc:S.K.lookup cda=some ⟨ccl,cdd,.fields cvs,ccs⟩)(hvs:cvs[2]?=some (.str file tf))(hfile:((pw.main.file:Str)==file)=true)(htp:nsIn S.K cStatics "thirdparty.any" =some none)
  (hmg:S.mg "super" =none)(hmb:S.mb "super" =some (.type "super"))(hks:fd.scope.names.lookup ("super":Str)=some .globalImplicit)(hkc:fd.scope.names.lookup ("__class__":Str)=some .free)
  (hka:fd.scope.names.lookup ar.arg=some .local)(htop:(pw.main.scope.names.lookup ("super":Str)).isSome=false)
  (h:WFn S (d+1) (.ref f2) [.obj i] [] (fun v hp'=>WL S (d+1) c rest (fun o σ'=>P (de o) σ'.hp) no ⟨loc,hp'⟩) no hp)
  (he:∀L,eval (.Call (.Attribute (.Call (.Name "super" p0) [] [] p1) "__init__" ap) [] [] p2) ((j3 fd f).env fd.closure L f)=(do
   let ov←attributeBase (.Call (.Name "super" p0) [] [] p1) "__init__" ((j3 fd f).env fd.closure L f) (eval (.Call (.Name "super" p0) [] [] p1) ((j3 fd f).env fd.closure L f))
   standAt ap.atName
   let(g,first)←holding [ov] (getMethod ov "__init__" (pure false))
   callWith p2 g first (backTo p2 (starEach [] ((j3 fd f).env fd.closure L f))) []):=by intro _;rfl)
  (hint:∀L,interactive ((j3 fd f).env fd.closure L f)=false:=by intro _;rfl)
  (hg:fd.globals=3:=by rfl)(hbl:fd.builtins=0:=by rfl)
  (hco:fd.scope.isCoroutine=false:=by rfl)(hgen:fd.scope.isGenerator=false:=by rfl)(hk:fd.scope.kind= .function:=by rfl):WFn S d (.ref f) vs ks P no hp:=
 fun A ρ s hA CC vs' ks' r1 r2 R hQ hE=>by
  have X:=S.X.keeps CC.keep;obtain⟨bs',hbs,hrel⟩:=hb ρ hp.length s vs' ks' X r1 r2;have hrev:=hrel.reverse;rw[List.reverse_reverse]at hrev;refine ks_codeAny_call_defAt (fd:=fd) (body:=_) (binds:=bs') (Nat.lt_of_le_of_lt hA.depth hd) (X _ _ ho) rfl (S.lim.keeps CC.keep) (codeRec_of X hcd) hbody hbs hcell (fun x hx=>?_) (fun h₁ hns hk₁=>?_) hco hgen hk
  ·haveI hm:x.1∈bs'.map (·.1):=List.mem_map_of_mem hx;rw[hrel.keys]at hm;obtain⟨y,hy,e⟩:=lMm hm;rw[←e];have:=hl.kinds y (List.mem_reverse.mp hy);rw[←hc]at this;exact this
  ·have hnone:s.heap.get? s.heap.objs.size=none:=aq _ (nRe _);obtain⟨C1,T1⟩:=CC.grows (s':={s with heap:=h₁,toks:=s.toks+bs'.length}) (fun b o e=>hk₁ b o e) CC.gens rfl;haveI env:callEnv fd s.heap.objs.size f=(j3 fd f).env fd.closure s.heap.objs.size f:=by
    unfold callEnv FC.env;rw[hg,hbl];rfl
   subst hc;haveI Co:aG S (j3 fd f) fd.closure s.heap.objs.size ρ ⟨loc,hp⟩ {s with heap:=h₁,toks:=s.toks+bs'.length}:=
    ⟨C1,⟨_,hns,fun x=>by rw[hl.slot x];exact(hrev.move (T1.moves CC gH)).look⟩,CC.fresh_of hnone,CC.free_of hnone,CC.nfz_of hnone,fun x i e=>(by cases e),fun x a e=>e⟩
   rw[env];have X1:=S.X.keeps C1.keep;haveI hil:i<hp.length:=(lSi hi).1;obtain⟨mi,I0,_⟩:=C1.inst hi;obtain⟨dx,odx,I,_⟩:=I0.at;have hkind:∀(L:Addr),((j3 fd f).env fd.closure L f).scope.kind= .function:=fun _=>hk
   haveI hself':(fun x=>List.lookup x bs'.reverse) ar.arg=some (.ref (ρ.pl i).1):=by
    have:=(hrev.look (x:=ar.arg));rw[hself]at this;obtain⟨x',e,r⟩:=this.some_left;obtain⟨_,rfl⟩:=r.obj_inv;exact e
   obtain⟨oD,hD1,hD2⟩:∃oD,h₁.get? D=some oD∧oD.data= .cls cdD:=by
    unfold clsIn at hD;split at hD
    ·rename_i c d cd' sl ho';cases hD;exact⟨_,X1 _ _ ho',rfl⟩
    ·cases hD
   refine ks_wpAt_execs_cons (ks_wpAt_Expr_any (ks_wpAt_MethodCall (pl:=pure false) ?_ ?_) (hint _) rfl)
   ·refine PySem.ks_wpAt_super_base (env:=(j3 fd f).env fd.closure s.heap.objs.size f) hks hkc (by decide) rfl (X1 _ _ ho) rfl hp0 hcode (X1 _ _ hcc) rfl hvs hfile htop ?_;refine ks_loadName_global (hkind _) hks (loadGlobal_builtin (S.g.keeps C1.keep) hmg (S.b.keeps C1.keep) hmb ⟨rfl,?_⟩);refine wpAny_loadName_free (hkind _) hkc (by show List.lookup _ fd.closure=some cc;rw[hcl];rfl) ⟨_,X1 _ _ hcv,rfl⟩ ?_;refine wpAny_loadName_local (hkind _) hka hns hself' ?_;refine ks_wpAny_isType_cls hD1 hD2 ⟨rfl,?_⟩;refine ks_wpAny_call_super hD1 hD2 I.at_ I.cls (fun c e=>by cases e) (looks_mroIn X1 hsub) (fun h₂ e₂ k₂=>?_);obtain⟨C2,T2⟩:=Co.grows (s.toks+bs'.length) k₂;have X2:=S.X.keeps C2.keep;obtain⟨oF2,hF2,hF2c⟩:∃of,h₂.get? f2=some of∧of.cls= .type "function":=by
     have ht':(S.K.lookup f2).map (·.cls)=some (.type "function"):=ht2;cases z:S.K.lookup f2 with
     |none=>rw[z]at ht';cases ht'
     |some of=>rw[z]at ht';exact⟨of,X2 _ _ z,Option.some.inj ht'⟩
    cases hcC:clsIn S.K C with
    |none=>unfold ks_superIn at hsm;rw[hcC]at hsm;cases hsm
    |some cd=>
     unfold ks_superIn at hsm;rw[hcC]at hsm;refine ks_wpAny_getMethod_super e₂ (looks_opaque X2 htp) (l₀:=cd.mro) ?_ rfl X2 hsm hF2 hF2c (ks_ne X1 I hcC) (by decide) ?_
     ·exact fun A Q E s k q=>wpAny_bind ((looks_clsIn X2 hcC) A _ E s k (wpAny_pure q))
     ·obtain⟨C3,T3⟩:=C2.push (methodObj (.ref f2) (.ref (ρ.pl i).1)) (s.toks+bs'.length+1);haveI gm:(h₂.push (methodObj (.ref f2) (.ref (ρ.pl i).1))).get? h₂.objs.size=some (methodObj (.ref f2) (.ref (ρ.pl i).1)):=Heap.get?_push_size _ rfl;refine callWith_M0 (K:=S.K) (g:=f2) (self:= .ref (ρ.pl i).1) ⟨gm,S.X.keeps C3.keep⟩ hf2 ?_;refine wpAny_call (method_call gm ?_);refine h (A.deeper _) ρ _ (hA.deeper _) C3.toCorrH [.ref (ρ.pl i).1] [] (.cons (.obj hil) .nil) .nil _ (fun v v' hp' ρ' s' p T C' r=>?_) (fun _ _ _ _ _ x=>x.elim);haveI C4:=C3.hmove T C';haveI T4:=(T2.trans T3).trans T.wide;refine PySem.wpAt_of_wpAny ?_;refine p (A.deeper _) fd.closure s.heap.objs.size f ρ' s' (hA.deeper _) C4 _ _ (fun o fl σ' ρ'' s'' p' T' C'' r'=>?_) (fun _ _ _ _ _ x=>x.elim);refine hQ (de o) _ σ'.hp ρ'' s'' p' (ah.leave T1 hnone (T4.trans T')) C''.toCorrH ?_;cases o<;>cases fl<;>first|exact r'.elim|exact .none|exact r'
   ·exact he _
end
section
variable {S:Sta} {d:Nat} {c:FC} {X:PX} {σ:St}
noncomputable def ck(hp:List ai)(v:V)(C:Addr)(fs:List (Str×V)):Prop:=(∃i,v= .obj i∧hp[i]?=some (.inst C fs))∨v= .inst C fs
theorem CorrH.isInst(CC:CorrH S ρ hp s)(h:ck hp v C fs)(r:RelV ρ hp.length s.heap v v'):
  ∃a m,v'= .ref a∧xu s.heap a C m∧∀x,gr ρ hp.length s.heap (look fs x) (m x):=by
 rcases h with ⟨i,rfl,e⟩|rfl
 ·haveI rfl:=(r.obj_inv).2;obtain⟨m,I,hr⟩:=CC.inst e;exact⟨_,m,rfl,I,hr⟩
 ·cases r with
  |inst hz hd ha hn hf=>
   haveI hn':=hn;obtain⟨o,_,_,h5,_⟩:=hn;exact⟨_,_,rfl,⟨_,o,ha,h5,hn'⟩,fun x=>hf.look⟩
@[elab_as_elim] theorem CorrH.instE {ρ:Pl}{hp:List ai}{s:Shared}(CC:CorrH S ρ hp s){v:V}{C:Addr}{fs:List (Str×V)}{motive:Value→Prop}{v':Value}(h:ck hp v C fs)(r:RelV ρ hp.length s.heap v v')(k:∀a m,xu s.heap a C m→(∀x,gr ρ hp.length s.heap (look fs x) (m x))→RelV ρ hp.length s.heap v (.ref a)→motive (.ref a)):motive v':=by
 obtain⟨a,m,rfl,h1,h2⟩:=CC.isInst h r;exact k a m h1 h2 r
noncomputable def V.hand:V→Bool
 | .top v=>handedIn v
 | .any=>false
 |_=>true
theorem RelV.hand(r:RelV ρ n h w v)(hw:w.hand=true):handedIn v=true:=by
 cases r<;>first|rfl|exact hw|cases hw
noncomputable def WGA(S:Sta)(d:Nat)(c:FC)(v:V)(name:Str)(P:PV)(X:PX)(σ:St):Prop:=WO1 S d c (fun o=>getAttr o name true) v RelV P X σ
noncomputable def kGa(S:Sta)(d:Nat)(c:FC)(name:Str)(P:PV)(X:PX)(v:V)(σ:St):Prop:=WGA S d c v name P X σ
theorem cN(h:WEx S d c o (kGa S d c name P X) X σ)
  (hb:∀env,attributeBase o name env (eval o env)=eval o env:=by intro _;rfl):WEx S d c (.Attribute o name pos) P X σ:=fun A cl L a ρ s hA C Q E hQ hE=>by
 show wpAny S.M A (eval (.Attribute o name pos) (c.env cl L a)) Q E s;rw[arm_eval_Attribute,hb];refine wpAny_bind (WT.use h hA C (.refl ..) hE fun v v' σ1 ρ1 s1 h1 T1 U1 C1 r1=>?_);refine wpAny_bind (wpAny_standAt (wpAny_bind (wpAny_holding ?_)));exact h1.use hA C1 r1 T1 hE fun w w' σ2 ρ2 s2 h2 T2 U2 C2 r2=>wpAny_bind (wpAny_letTemporaryGo (wpAny_pure (hQ w w' σ2 ρ2 s2 h2 T2 C2 r2)))
theorem il {v:V}{C:Addr}{fs:List (Str×V)}{name:Str}{w:V}{P:PV}(hI:ck σ.hp v C fs)(hg:plainGet S.K C name=true)(hh:hasDictIn S.K C=true)(ha:findIn S.K (.ref C) name=some none)
  (hl:look fs name=some w)(hw:w.hand=true)(h:P w σ):WGA S d c v name P X σ:=fun A cl L ρ s hA CC x' hx Q E hQ hE=>by
 refine CC.toCorrH.instE hI hx fun a m I hr hx=>?_
 obtain⟨dx,od,I',hlk⟩:=I.at;have:=hr name;rw[hl]at this;obtain⟨y,e,ry⟩:=this.some_left;haveI C':=(CC.toks (s.toks+1)).1;haveI T:=(CC.toks (s.toks+1)).2;exact get_value (S.X.keeps CC.keep) I' (plainGet_of hg).1 (findObj_own hh ha rfl ((hlk name).trans (by rw[e]))) (ry.hand hw) (hQ w y σ ρ _ h T C' ry)
noncomputable abbrev km(P:PV)(lo:List (Option V))(w:V)(hp':List ai):Prop:=w.hand=true∧P w ⟨lo,hp'⟩
theorem jr {v:V}{C p fget:Addr}{fs:List (Str×V)}{name:Str}{rest:List Value}{P:PV}(hI:ck σ.hp v C fs)(hg:plainGet S.K C name=true)(hc:(clsIn S.K C).isSome=true)(ha:findIn S.K (.ref C) name=some (some (.ref p)))
  (hn:specialIn S.K (.ref p) "__get__" =some (some (.builtin "property.__get__")))(ht:takesIn S.K (.ref p)=some true)(hp:recIn S.K p "property" =some (.ref fget::rest))
  (h:WFn S (d+1) (.ref fget) [v] [] (km P σ.loc) no σ.hp):WGA S d c v name P X σ:=fun A cl L ρ s hA CC x' hx Q E hQ hE=>by
 refine CC.toCorrH.instE hI hx fun a m I hr hx=>?_
 obtain⟨dx,od,I',hlk⟩:=I.at;haveI C':=(CC.toks (s.toks+1)).1;haveI T:=(CC.toks (s.toks+1)).2;haveI X':=S.X.keeps CC.keep;refine get_bind X' I' (plainGet_of hg).1 (findObj_data hc ha hn ht) (plainGet_of hg).2 (wpAny_call (prop_get (s:={s with toks:=s.toks+1}) X' hp ?_));refine h A.in1 ρ _ hA.in1 C'.toCorrH [.ref a] [] (.cons hx .nil) .nil _ (fun w w' hp' ρ' s' p' T' C2 r=>?_) (fun _ _ _ _ _ x=>x.elim);show wpAny _ _ (handedOut w') _ _ _;rw[handedOut_of (r.hand p'.1)];exact wpAny_pure (hQ w w' ⟨σ.loc,hp'⟩ ρ' s' p'.2 (T.trans T'.wide) (C'.hmove T' C2) r)
noncomputable def oF(w:V)(v:Value):Prop:=∀ρ n h,RelV ρ n h w v
theorem oF.int:oF (.int k) (.int k t):=fun _ _ _=> .int k t
theorem js(h1:S.K.lookup a=some ⟨.ref C,some dx,.plain,sl⟩)(h2:S.K.lookup dx=some od)(hg:plainGet S.K C name=true)(hh:hasDictIn S.K C=true)(ha:findIn S.K (.ref C) name=some none)
  (hl:lookIn name od=some (some v'))(hw:handedIn v'=true)(ht:oF w v')(h:P w σ):WGA S d c (.top (.ref a)) name P X σ:=fun A cl L ρ s hA CC x' hx Q E hQ hE=>by
 obtain rfl:=hx.top_inv;haveI C':=(CC.toks (s.toks+1)).1;haveI T:=(CC.toks (s.toks+1)).2;haveI X':=S.X.keeps CC.keep;exact get_value X' (InstAt.of_K X' h1 h2) (plainGet_of hg).1 (findObj_own hh ha rfl hl) hw (hQ w v' σ ρ _ h T C' (ht _ _ _))
theorem xx {v:V}{C f:Addr}{fs:List (Str×V)}{name:Str}{P:V→List V→St→Prop}(hI:ck σ.hp v C fs)(hg:plainGet S.K C name=true)(hf:findIn S.K (.ref C) name=some (some (.ref f)))(ht:isFn S.K (.ref f)=true)(hl:look fs name=none)
  (h:P (.top (.ref f)) [v] σ):iO S d c v name P X σ:=fun A cl L ρ s hA CC x' hx pl Q E hQ hE=>by
 refine CC.toCorrH.instE hI hx fun a m I hr hx=>?_
 obtain⟨dx,od,I',hlk⟩:=I.at;have:=hr name;rw[hl]at this;have e:m name=none:=by
  cases q:m name with
  |none=>rfl
  |some y=>rw[q]at this;exact this.elim
 exact method_fn (S.X.keeps CC.keep) I' (plainGet_of hg).1 (plainGet_of hg).2 hf (beq_iff_eq.mp ht) (by show(lookIn name od).map _=_;rw[hlk name,e];rfl) (hQ _ _ _ _ σ ρ s h (.refl ..) CC (.top _) (.cons hx .nil))
theorem Hc(h1:S.K.lookup a=some ⟨.ref C,some dx,.plain,sl⟩)(h2:S.K.lookup dx=some od)(hg:plainGet S.K C name=true)(hf:findIn S.K (.ref C) name=some (some (.ref f)))(ht:isFn S.K (.ref f)=true)
  (hl:lookIn name od=some none)(h:P (.top (.ref f)) [.top (.ref a)] σ):iO S d c (.top (.ref a)) name P X σ:=fun A cl L ρ s hA CC x' hx pl Q E hQ hE=>by
 obtain rfl:=hx.top_inv;haveI X':=S.X.keeps CC.keep;exact method_fn X' (InstAt.of_K X' h1 h2) (plainGet_of hg).1 (plainGet_of hg).2 hf (beq_iff_eq.mp ht) (by show(lookIn name od).map _=_;rw[hl];rfl) (hQ _ _ _ _ σ ρ s h (.refl ..) CC (.top _) (.cons hx .nil))
theorem EN [BEq α][LawfulBEq α]:∀{l ks:List α},l.Pairwise (·≠·)→(∀x∈l,x∈ks)→l.length≤ks.length
 |[],_,_,_=>nZl _
 |x::r,ks,hp,hs=>by
  rw[List.pairwise_cons]at hp;haveI hx:x∈ks:=hs x (.head _);haveI h1:(ks.erase x).length=ks.length-1:=List.length_erase_of_mem hx;haveI h2:0<ks.length:=List.length_pos_of_mem hx;have:=EN (l:=r) (ks:=ks.erase x) hp.2 fun y hy=>(List.mem_erase_of_ne (fun q=>hp.1 y hy q.symm)).mpr (hs y (.tail _ hy))
  rw[lCo];exact fj4 (Y0 (.i X0) X1) [Y2 X2 X3,Y0 X0 X2,Y2 (.i X3) X1] rfl h1 this (sac ks.length 1 (fj1 (Y0 (.k 1) X0) [Y1 (.k 0) X0] rfl h2))
theorem xy {h:Heap}{a:Addr}{m:Str→Option Value}{ks:List Str}(hn:h.Ns1 a m)(hk:∀x,m x≠none→x∈ks):∃o es n,h.get? a=some o∧o.data= .dict es n∧es.size≤ks.length:=by
 obtain⟨o,es,n,h1,h2,h3,h4,h5⟩:=hn;refine⟨o,es,n,h1,h2,?_⟩;have key:∀l:List DictEntry,(∀e∈l,∃x t,e.key= .str x t)→l.Pairwise (fun a b=>∀n,a.key.isStr n=true→b.key.isStr n=true→False)→∃xs:List Str,xs.length=l.length∧xs.Pairwise (·≠·)∧∀x∈xs,∃e∈l,e.key.isStr x=true:=by
  intro l
  induction l with
  |nil=>exact fun _ _=>⟨[],rfl,.nil,fun x hx=>by cases hx⟩
  |cons e r ih=>
   intro hs hp;rw[List.pairwise_cons]at hp;obtain⟨xs,q1,q2,q3⟩:=ih (fun e he=>hs e (.tail _ he)) hp.2;obtain⟨x,t,hx⟩:=hs e (.head _);have hxe:e.key.isStr x=true:=by rw[hx];exact beq_self_eq_true _
   refine⟨x::xs,by simp[q1],.cons (fun y hy q=>?_) q2,fun y hy=>?_⟩
   ·obtain⟨e',he',hy'⟩:=q3 y hy;exact hp.1 e' he' x hxe (q▸hy')
   ·cases hy with
    |head=>exact⟨e,.head _,hxe⟩
    |tail _ hy=>obtain⟨e',he',hy'⟩:=q3 y hy;exact⟨e',.tail _ he',hy'⟩
 obtain⟨xs,q1,q2,q3⟩:=key es.toList (fun e he=>h3 e (Array.mem_toList_iff.mp he)) h4;have:=EN q2 fun x hx=>hk x fun hm=>by
  obtain⟨e,he,hs⟩:=q3 x hx;have hf:=h5 x;rw[hm]at hf;unfold nsFind findBy at hf;rw[Option.map_eq_none_iff,Array.find?_eq_none]at hf;exact absurd hs (hf e (Array.mem_toList_iff.mp he))
 rw[q1]at this;simpa using this
noncomputable def WSA(S:Sta)(d:Nat)(c:FC)(o:V)(name:Str)(w:V)(P:St→Prop)(X:PX)(σ:St):Prop:=WO2 S d c (fun o w=>setAttr o name w) o w (eqR (β:=Unit)) (fun _=>P) X σ
theorem xz(h:look fs x≠none):x∈fs.map (·.1):=by
 induction fs with
 |nil=>exact absurd rfl h
 |cons p r ih=>
  obtain⟨k,v⟩:=p
  by_cases q:x=k
  ·subst q;simp
  ·have:look ((k,v)::r) x=look r x:=by
    show List.lookup x ((k,v)::r)=_;rw[lLc,beq_eq_false_iff_ne.mpr q];rfl
   rw[this]at h;exact List.mem_cons_of_mem _ (ih h)
theorem sm {i:Nat}{C:Addr}{fs:List (Str×V)}{name:Str}{w:V}{P:St→Prop}(hi:σ.hp[i]?=some (.inst C fs))(hs:findIn S.K (.ref C) "__setattr__" =some (some (.builtin "object.__setattr__")))(hp:plainOver S.K C=true)(ht:takerIn S.K C name=some none)(hh:hasDictIn S.K C=true)
  (hz:fs.length<1000)(h:P ⟨σ.loc,σ.hp.set i (.inst C (kY fs name w))⟩):WSA S d c (.obj i) name w P X σ:=fun A cl L ρ s hA CC x' y' hx hy Q E hQ hE=>by
 obtain⟨hil,rfl⟩:=hx.obj_inv;obtain⟨h1,hne,m,h2,hr⟩:=CC.objs i _ hi;have X':=S.X.keeps CC.keep;obtain⟨oD,es,ep,e1,e2,e3⟩:=xy h2 (ks:=fs.map (·.1)) fun x hm=>xz fun q=>by
  have:=hr x;rw[q]at this;cases z:m x with
  |none=>exact hm z
  |some y=>rw[z]at this;exact this.elim
 haveI I:InstAt s.heap (ρ.pl i).1 (instObj C (ρ.pl i).2) C (some oD):=⟨h1,rfl,rfl,e1⟩;refine set_plain X' I hs (osa_open (s:={s with toks:=s.toks+1}) X' I hp ht fun b=>?_);obtain⟨cd,hc,hd'⟩:=any_some hh;refine wpAny_bind (wpAny_pure (wpAny_bind (wpAny_bind (wpAny_loadPart h1 (wpAny_bind (Looks.here (s:={s with toks:=s.toks+1}) (looks_clsIn X' hc) ?_))))));rw[hd'];refine wpAny_pure (a:=some (ρ.pl i).2) (wpAny_bind (wpAny_pure (wpAny_bind ?_)));refine wpAny_nsSet1 (s:={s with toks:=s.toks+1}) h2 fun h' hn' hs'=>?_
 obtain⟨CH,T⟩:=CC.toCorrH.set (s':={s with heap:=h',toks:=s.toks+1+1}) (o:= .inst C (kY fs name w)) hil (ρ.pl i).2 (.inr rfl) (fun b ob hb e=>(hs'.2 b hb).trans e) (let⟨o,_,_,q,_⟩:=hn';by show(h'.get? (ρ.pl i).2).isSome=true;rw[q];rfl) CC.gens rfl
  (fun M=>⟨(hs'.2 _ hne).trans h1,hne,_,hn',fun x=>by
   rw[EK]
   by_cases q:x=name
   ·rw[if_pos q,if_pos q];exact hy.move M
   ·rw[if_neg q,if_neg q];exact(hr x).move M⟩)
 haveI C2:=CC.hmove T CH;obtain⟨o2,es2,n2,f1,f2,f3⟩:=xy hn' (ks:=name::fs.map (·.1)) fun x hm=>by
  by_cases q:x=name
  ·exact q▸.head _
  ·rw[if_neg q]at hm;exact .tail _ (xz fun q'=>by
    have:=hr x;rw[q']at this;cases z:m x with
    |none=>exact hm z
    |some y=>rw[z]at this;exact this.elim)
 refine wpAny_bind (wpAny_lookBehind f1 (by rw[f2];exact pastItsLine_dict (by simp only[List.length_cons,List.length_map]at f3;rw[sizeLine_eq];exact fj2 (Y0 X0 (.i (.k 16777216))) [Y1 X1 (.k 1000),Y0 X0 (.i X1)] rfl hz f3)) ?_);exact wpAny_pure (hQ () () _ ρ _ h T.wide C2 rfl)
noncomputable def Vr(S:Sta)(d:Nat)(c:FC)(name:Str)(w:V)(P:Out→St→Prop)(X:PX)(v:V)(σ:St):Prop:=WSA S d c v name w (P .next) X σ
noncomputable def kSa(S:Sta)(d:Nat)(c:FC)(name:Str)(o:Ex)(P:Out→St→Prop)(X:PX)(w:V)(σ:St):Prop:=WEx S d c o (Vr S d c name w P X) X σ
theorem EO(h:WEx S d c e (kSa S d c name o P X) X σ)
  (hs:∀env,swapsWith e (some (.Attribute o name p1)) p.line env=pure false:=by intro _;rfl):W1 S d c (.Assign [.Attribute o name p1] e p) P X σ:=fun A cl L a ρ s hA C Q E hQ hE=>by
 refine plainObj_wpAny_Assign_Attribute ?_ (hs _);refine WT.use h hA C (.refl ..) hE fun w w' σ1 ρ1 s1 h1 T1 U1 C1 r1=>?_
 refine WT.use h1 hA C1 T1 hE fun v v' σ2 ρ2 s2 h2 T2 U2 C2 r2=>?_
 exact h2.use hA C2 r2 (r1.step C1.toCorrH C1.nsAll U2) T2 hE fun _ _ σ3 ρ3 s3 h3 T3 _ C3 _=>hQ .next .next σ3 ρ3 s3 h3 T3 C3 trivial
end
section
variable {S:Sta} {d:Nat} {c:FC} {X:PX} {σ:St}
theorem aj.length(r:aj ρ n h vs xs):xs.length=vs.length:=r.indE rfl fun _ _ _ _ _ _ ih=>congrArg (·+1) ih
theorem aj.get {n:Nat}{i:Nat}(r:aj ρ n h vs xs)(e:vs[i]?=some v):∃x,xs[i]?=some x∧RelV ρ n h v x:=by
 induction r using aj.indE generalizing i with
 |k0=>cases e
 |k1 a x vs xs q _ ih=>
  cases i with
  |zero=>cases e;exact⟨_,rfl,q⟩
  |succ i=>exact ih (i:=i) e
noncomputable def Pl.more(ρ:Pl)(Z:Addr→Prop):Pl:=⟨ρ.pl,fun b=>ρ.fz b∨Z b⟩
theorem gL(hk:∀b o,h.get? b=some o→h'.get? b=some o):cL ρ (ρ.more Z) n n h h':=
 ⟨fun a xs ⟨k,e⟩=>⟨k,hk a _ e⟩,fun _ _=>rfl,nRe _,fun _ h=> .inl h,fun b o _ e=>hk b o e⟩
theorem CorrH.freeze(C:CorrH S ρ hp s)(hk:∀b o,s.heap.get? b=some o→s'.heap.get? b=some o)(hg:AllBare s'.gens)(ho:s'.os=s.os)
  (Z:Addr→Prop)(hz:∀b,Z b→s.heap.get? b=none∧(s'.heap.get? b).isSome=true):CorrH S (ρ.more Z) hp s'∧ah [] ρ hp s (ρ.more Z) hp s':=by
 obtain⟨C1,T1⟩:=C.grows hk hg ho;refine⟨⟨C1.keep,fun i o e=>(C1.objs i o e).move (gL fun _ _ e=>e) (fun _ e=>e) (fun _ e=>e),C1.fresh,C1.inj,C1.gens,C1.os,fun b h=>?_,fun t ht=>(C1.tab t ht).move (fun _ e=>e) fun c hc=>⟨.inl hc,fun _ e=>e⟩⟩,
  fun _ _=>rfl,nRe _,T1.live,T1.frame,T1.news,fun _ h=> .inl h,fun b h=>h.imp id fun q=>(hz b q).1⟩
 rcases h with h|h
 ·exact C1.fz b h
 ·exact⟨C.free_of (hz b h).1,(hz b h).2⟩
theorem aG.freeze(C:aG S c cl L ρ σ s)(hk:∀b o,s.heap.get? b=some o→s'.heap.get? b=some o)(hg:AllBare s'.gens)(ho:s'.os=s.os)
  (Z:Addr→Prop)(hz:∀b,Z b→s.heap.get? b=none∧(s'.heap.get? b).isSome=true):aG S c cl L (ρ.more Z) σ s'∧ah [L] ρ σ.hp s (ρ.more Z) σ.hp s':=by
 obtain⟨C1,T1⟩:=C.toCorrH.freeze hk hg ho Z hz;exact⟨C.hmove T1 C1,T1.wide⟩
noncomputable def Vs(P:PV)(vs:List V)(σ:St):Prop:=P (.tup vs) σ
noncomputable def Vt(P:PV)(vs:List V)(σ:St):Prop:=P (.list vs) σ
theorem bc(h:WEs S d c X es (Vs P) σ)(hs:es.all dJ=true:=by rfl)(hz:es.length≤1000:=by decide):WEx S d c (.Tuple es k p) P X σ:=fun A cl L a ρ s hA C Q E hQ hE=>by
 refine wpAny_Tuple_spliced ?_;rw[cH hs];refine WEs.use hA hs h C (.refl ..) hE fun vs vs' σ1 ρ1 s1 hl h1 T1 U1 C1 r1=>?_
 haveI C2:=(C1.push {cls:= .type "tuple",data:= .seq vs'.toArray} s1.toks).1;haveI T2:=(C1.push {cls:= .type "tuple",data:= .seq vs'.toArray} s1.toks).2;refine⟨by rw[r1.length,hl];exact Nat.le_trans hz (by decide),hQ _ _ σ1 ρ1 _ h1 (T1.trans T2) C2 ?_⟩;refine .tup ⟨0,Heap.get?_push_size _ rfl⟩ ?_;exact r1.move (T2.moves C1.toCorrH C1.nsAll)
theorem fS(h:WEs S d c X es (Vt P) σ)(hs:es.all dJ=true:=by rfl)(hz:es.length≤1000:=by decide):WEx S d c (.List es p) P X σ:=fun A cl L a ρ s hA C Q E hQ hE=>by
 refine wpAny_List_spliced ?_;rw[cH hs];refine WEs.use hA hs h C (.refl ..) hE fun vs vs' σ1 ρ1 s1 hl h1 T1 U1 C1 r1=>?_
 haveI hk:∀b o,s1.heap.get? b=some o→(s1.heap.push {cls:= .type "list",data:= .seq vs'.toArray}).get? b=some o:=fun b o e=>Heap.get?_push_of_some _ e
 obtain⟨C2,T2⟩:=C1.freeze (s':={s1 with heap:=s1.heap.push {cls:= .type "list",data:= .seq vs'.toArray}}) hk C1.gens rfl (·=s1.heap.objs.size) fun b hb=>by
  subst hb;exact⟨aq _ (nRe _),by show((s1.heap.push _).get? _).isSome=true;rw[Heap.get?_push_size _ rfl];rfl⟩
 refine⟨by rw[r1.length,hl];exact Nat.le_trans hz (by decide),hQ _ _ σ1 _ _ h1 (T1.trans T2) C2 ?_⟩;refine .list (.inr rfl) ⟨0,Heap.get?_push_size _ rfl⟩ ?_;exact r1.move (gL hk)
noncomputable def JF(P:PV)(vs:List V)(σ:St):Prop:=P (.obj σ.hp.length) ⟨σ.loc,σ.hp++[.list vs]⟩
inductive qW(x:ai):Nat→List ai→List ai→Prop
 |nil:qW x 0 [] [x]
 |cons {n:Nat} {a:ai} {l l':List ai} (h:qW x n l l'):qW x (n+1) (a::l) (a::l')
theorem qW.eq(h:qW x n l l'):l.length=n∧l++[x]=l':=by
 induction h with
 |nil=>exact⟨rfl,rfl⟩
 |cons _ ih=>exact⟨congrArg (·+1) ih.1,congrArg (_::·) ih.2⟩
theorem lV {P:PV}{vs:List V}{lo:List (Option V)}{hp hp':List ai}{n:Nat}(e:qW (.list vs) n hp hp')(h:P (.obj n) ⟨lo,hp'⟩):JF P vs ⟨lo,hp⟩:=by
 obtain⟨rfl,rfl⟩:=e.eq;exact h
theorem gu(h:WEs S d c X es (JF P) σ)(hs:es.all dJ=true:=by rfl)(hz:es.length≤1000:=by decide):WEx S d c (.List es p) P X σ:=fun A cl L a ρ s hA C Q E hQ hE=>by
 refine wpAny_List_spliced ?_;rw[cH hs];refine WEs.use hA hs h C (.refl ..) hE fun vs vs' σ1 ρ1 s1 hl h1 T1 U1 C1 r1=>?_
 haveI hn:s1.heap.get? s1.heap.objs.size=none:=aq _ (nRe _);obtain⟨C2,T2⟩:=C1.toCorrH.add (s':={s1 with heap:=s1.heap.push {cls:= .type "list",data:= .seq vs'.toArray}}) (o:= .list vs) (p:=(s1.heap.objs.size,s1.heap.objs.size)) (fun b o e=>Heap.get?_push_of_some _ e) hn hn C1.gens rfl
  fun M=>⟨rfl,vs'.toArray,⟨0,Heap.get?_push_size _ rfl⟩,r1.move M⟩
 refine⟨by rw[r1.length,hl];exact Nat.le_trans hz (by decide),hQ _ _ ⟨σ1.loc,_⟩ _ _ h1 (T1.trans T2.wide) (C1.hmove T2 C2) ?_⟩;have:=RelV.obj (ρ:=jE ρ1 σ1.hp.length (s1.heap.objs.size,s1.heap.objs.size)) (n:=(σ1.hp++[ai.list vs]).length) (h:=s1.heap.push {cls:= .type "list",data:= .seq vs'.toArray}) (i:=σ1.hp.length) (by simp);rw[grow_self]at this;exact this
noncomputable def PE(S:Sta)(d:Nat)(c:FC)(a b:Ex)(P:PV)(X:PX)(k:Bool)(σ:St):Prop:=(k=true→WEx S d c a P X σ)∧(k=false→WEx S d c b P X σ)
noncomputable def Ci(S:Sta)(d:Nat)(c:FC)(r:List Ex)(p:Pos)(P:Bool→St→Prop)(X:PX)(k:Bool)(σ:St):Prop:=(k=true→WB S d c (.BoolOp .And r p) P X σ)∧(k=false→P false σ)
noncomputable def kOr(S:Sta)(d:Nat)(c:FC)(r:List Ex)(p:Pos)(P:Bool→St→Prop)(X:PX)(k:Bool)(σ:St):Prop:=(k=false→WB S d c (.BoolOp .Or r p) P X σ)∧(k=true→P true σ)
theorem JG(h1:k=true→WEx S d c a P X σ)(h2:k=false→WEx S d c b P X σ):PE S d c a b P X k σ:=⟨h1,h2⟩
theorem ls(hb:k=true)(h:WB S d c (.BoolOp .And r p) P X σ):Ci S d c r p P X k σ:=⟨fun _=>h,fun e=>Bool.noConfusion (hb.symm.trans e)⟩
theorem fD(hb:k=false)(h:P false σ):Ci S d c r p P X k σ:=⟨fun e=>Bool.noConfusion (hb.symm.trans e),fun _=>h⟩
theorem lu(h1:k=true→WB S d c (.BoolOp .And r p) P X σ)(h2:k=false→P false σ):Ci S d c r p P X k σ:=⟨h1,h2⟩
theorem Vu(hb:k=true)(h:P true σ):kOr S d c r p P X k σ:=⟨fun e=>Bool.noConfusion (hb.symm.trans e),fun _=>h⟩
theorem so(hb:k=false)(h:WB S d c (.BoolOp .Or r p) P X σ):kOr S d c r p P X k σ:=⟨fun _=>h,fun e=>Bool.noConfusion (hb.symm.trans e)⟩
theorem Vv(h1:k=false→WB S d c (.BoolOp .Or r p) P X σ)(h2:k=true→P true σ):kOr S d c r p P X k σ:=⟨h1,h2⟩
theorem jt(h:WB S d c t (PE S d c a b P X) X σ):WEx S d c (.IfExp t a b p) P X σ:=fun A cl L a ρ s hA C Q E hQ hE=>by
 refine wpAny_IfExp (WT.use h hA C (.refl ..) hE fun k k' σ1 ρ1 s1 h1 T1 _ C1 r1=>?_);cases r1;cases k with
 |true=>exact(h1.1 rfl).use hA C1 T1 hE fun v v' σ3 ρ3 s3 h3 T3 _ C3 r3=>hQ v v' σ3 ρ3 s3 h3 T3 C3 r3
 |false=>exact(h1.2 rfl).use hA C1 T1 hE fun v v' σ3 ρ3 s3 h3 T3 _ C3 r3=>hQ v v' σ3 ρ3 s3 h3 T3 C3 r3
theorem nw(h:P true σ):WB S d c (.BoolOp .And [] p) P X σ:=fun A cl L a ρ s hA C Q E hQ hE=>isTrue_and_nil (hQ _ _ σ ρ s h (.refl ..) C rfl)
theorem tC(h:P false σ):WB S d c (.BoolOp .Or [] p) P X σ:=fun A cl L a ρ s hA C Q E hQ hE=>isTrue_or_nil (hQ _ _ σ ρ s h (.refl ..) C rfl)
theorem bK(h:WB S d c x (Ci S d c r p P X) X σ):WB S d c (.BoolOp .And (x::r) p) P X σ:=fun A cl L a ρ s hA C Q E hQ hE=>by
 refine isTrue_and (WT.use h hA C (.refl ..) hE fun k k' σ1 ρ1 s1 h1 T1 _ C1 r1=>?_);cases r1;cases k with
 |true=>exact WT.use (h1.1 rfl) hA C1 T1 hE fun v v' σ3 ρ3 s3 h3 T3 _ C3 r3=>hQ v v' σ3 ρ3 s3 h3 T3 C3 r3
 |false=>exact hQ _ _ σ1 ρ1 s1 (h1.2 rfl) T1 C1 rfl
theorem uK(h:WB S d c x (kOr S d c r p P X) X σ):WB S d c (.BoolOp .Or (x::r) p) P X σ:=fun A cl L a ρ s hA C Q E hQ hE=>by
 refine isTrue_or (WT.use h hA C (.refl ..) hE fun k k' σ1 ρ1 s1 h1 T1 _ C1 r1=>?_);cases r1;cases k with
 |false=>exact WT.use (h1.1 rfl) hA C1 T1 hE fun v v' σ3 ρ3 s3 h3 T3 _ C3 r3=>hQ v v' σ3 ρ3 s3 h3 T3 C3 r3
 |true=>exact hQ _ _ σ1 ρ1 s1 (h1.2 rfl) T1 C1 rfl
theorem Vw(h:WEx S d c x (fun v σ1=>WO1 S d c truthy v eqR (fun k σ2=>(k=true→P v σ2)∧(k=false→WEx S d c (.BoolOp .Or (y::r) p) P X σ2)) X σ1) X σ):WEx S d c (.BoolOp .Or (x::y::r) p) P X σ:=fun A cl L a ρ s hA C Q E hQ hE=>by
 refine BoolOp_or (WT.use h hA C (.refl ..) hE fun v v' σ1 ρ1 s1 h1 T1 _ C1 r1=>?_);refine h1.use hA C1 r1 T1 hE fun k k' σ2 ρ2 s2 h2 T2 U2 C2 r2=>?_
 cases r2;cases k with
 |true=>exact hQ _ _ σ2 ρ2 s2 (h2.1 rfl) T2 C2 (r1.step C1.toCorrH C1.nsAll U2)
 |false=>exact WT.use (h2.2 rfl) hA C2 T2 hE fun v v' σ3 ρ3 s3 h3 T3 _ C3 r3=>hQ v v' σ3 ρ3 s3 h3 T3 C3 r3
theorem im(h:WEx S d c l (fun x σ1=>WEx S d c r1 (fun y σ2=>WO2 S d c (compareOp o1) x y RelV (fun v σ3=>∃b,v= .bool b∧(b=true→WEx S d c r2 (fun z σ4=>WO2 S d c (compareOp o2) y z RelV (fun w σ5=>∃b2,w= .bool b2∧P b2 σ5) X σ4) X σ3)∧(b=false→P false σ3)) X σ2) X σ1) X σ)
  (hm:lastMarks [o1,o2] [r1,r2]=false:=by with_unfolding_all rfl):WB S d c (.Compare l [o1,o2] [r1,r2] p) P X σ:=fun A cl L a ρ s hA C Q E hQ hE=>by
 refine isTrue_chain (WT.use h hA C (.refl ..) hE fun x x' σ1 ρ1 s1 h1 T1 _ C1 rx=>?_) hm;refine test_link (WT.use h1 hA C1 T1 hE fun y y' σ2 ρ2 s2 h2 T2 U2 C2 ry=>?_);refine h2.use hA C2 (rx.step C1.toCorrH C1.nsAll U2) ry T2 hE fun v v' σ3 ρ3 s3 h3 T3 U3 C3 r3=>?_
 obtain⟨b,rfl,ht,hf⟩:=h3;obtain rfl:=r3.bool_inv;refine wpAny_truthy_bool ?_;cases b with
 |false=>exact hQ _ _ σ3 ρ3 s3 (hf rfl) T3 C3 rfl
 |true=>
  refine test_last (WT.use (ht rfl) hA C3 T3 hE fun z z' σ4 ρ4 s4 h4 T4 U4 C4 rz=>?_);refine h4.use hA C4 (ry.step C2.toCorrH C2.nsAll (U3.trans U4)) rz T4 hE fun w w' σ5 ρ5 s5 h5 T5 _ C5 r5=>?_
  obtain⟨b2,rfl,hp⟩:=h5;obtain rfl:=r5.bool_inv;exact wpAny_truthy_bool (hQ _ _ σ5 ρ5 s5 hp T5 C5 rfl)
noncomputable def V.isNone:V→Option Bool
 | .none=>some true
 | .top (.ref _)=>some false
 | .top _=>Option.none
 | .any=>Option.none
 |_=>some false
theorem isN {b:Bool}{x:Value}(e:some false=some b)(h:x≠.none):(b=true→x= .none)∧(b=false→x≠.none):=by cases e;exact⟨fun q=>(nomatch q),fun _=>h⟩
theorem RelV.isNone {ρ:Pl}{n:Nat}{h:Heap}{v:V}{x:Value}{b:Bool}(r:RelV ρ n h v x)(e:v.isNone=some b):(b=true→x= .none)∧(b=false→x≠.none):=by
 refine byG fun G kG=>?_
 cases r
 case none=>cases e;exact kG ⟨fun _=>rfl,fun q=>(nomatch q)⟩
 case top=>cases x<;>first|exact kG (isN e (fun q=>(nomatch q)))|exact nn e
 all_goals first|exact kG (isN e (fun q=>(nomatch q)))|exact nn e
theorem ju(e:v.isNone=some b)(h:P (.bool b) σ):WO2 S d c (compareOp .Is) v .none RelV P X σ:=fun A cl L ρ s hA C x' y' hx hy Q E hQ hE=>by
 obtain rfl:=hy.none_inv;obtain⟨h1,h2⟩:=hx.isNone e;cases b with
 |true=>rw[h1 rfl];exact wpAny_is_self rfl (hQ _ _ σ ρ s h (.refl ..) C (.bool true))
 |false=>exact is_none_ne (h2 rfl) (hQ _ _ σ ρ s h (.refl ..) C (.bool false))
theorem er(e:v.isNone=some b)(h:P (.bool (!b)) σ):WO2 S d c (compareOp .IsNot) v .none RelV P X σ:=fun A cl L ρ s hA C x' y' hx hy Q E hQ hE=>by
 obtain rfl:=hy.none_inv;obtain⟨h1,h2⟩:=hx.isNone e;cases b with
 |true=>rw[h1 rfl];exact wpAny_isNot_self rfl (hQ _ _ σ ρ s h (.refl ..) C (.bool _))
 |false=>exact isnot_none_ne (h2 rfl) (hQ _ _ σ ρ s h (.refl ..) C (.bool _))
noncomputable def cO(hp:List ai)(v:V)(vs:List V):Prop:=(∃i,v= .obj i∧hp[i]?=some (.list vs))∨v= .list vs
theorem CorrH.isLst(C:CorrH S ρ hp s)(h:cO hp v vs)(r:RelV ρ hp.length s.heap v v'):
  ∃a xs,v'= .ref a∧s.heap.PlainList a xs∧aj ρ hp.length s.heap vs xs.toList∧xs.size=vs.length:=by
 rcases h with ⟨i,rfl,e⟩|rfl
 ·haveI rfl:=(r.obj_inv).2;obtain⟨_,xs,h1,h2⟩:=C.objs i _ e;exact⟨_,xs,rfl,h1,h2,h2.length⟩
 ·cases r with
  |list hz ha hx=>exact⟨_,_,rfl,ha,hx,hx.length⟩
@[elab_as_elim] theorem CorrH.lstE {ρ:Pl}{hp:List ai}{s:Shared}(C:CorrH S ρ hp s){v:V}{vs:List V}{motive:Value→Prop}{v':Value}(h:cO hp v vs)(r:RelV ρ hp.length s.heap v v')(k:∀a xs,s.heap.PlainList a xs→aj ρ hp.length s.heap vs xs.toList→xs.size=vs.length→RelV ρ hp.length s.heap v (.ref a)→motive (.ref a)):motive v':=by
 obtain⟨a,xs,rfl,h1,h2,h3⟩:=C.isLst h r;exact k a xs h1 h2 h3 r
end
section
variable {S:Sta} {d:Nat} {c:FC} {X:PX} {σ:St}
theorem szl:sizeLine=16777216:=by rw[sizeLine_eq]
theorem A9
  (hf:∀A ρ s x',A.handled=none→CorrH S ρ σ.hp s→RelV ρ σ.hp.length s.heap x x'→∀(Q:α→Shared→Prop) (E:PS),
   (∀b v' h' tk,(∀b o,s.heap.get? b=some o→h'.get? b=some o)→P b σ→R ρ σ.hp.length h' b v'→Q v' {s with heap:=h',toks:=tk})→wpAny S.M A (f x') Q E s):WO1 S d c f x R P X σ:=fun A cl L ρ s hA C x' hx Q E hQ hE=>
 hf A ρ s x' hA.handled C.toCorrH hx Q E fun b v' h' tk hk p r=>by
  obtain⟨C',T⟩:=C.grows tk hk;exact hQ b v' σ ρ _ p T C' r
theorem uL
  (hf:∀A ρ s x' y',A.handled=none→CorrH S ρ σ.hp s→RelV ρ σ.hp.length s.heap x x'→RelV ρ σ.hp.length s.heap y y'→∀(Q:α→Shared→Prop) (E:PS),
   (∀b v' h' tk,(∀b o,s.heap.get? b=some o→h'.get? b=some o)→P b σ→R ρ σ.hp.length h' b v'→Q v' {s with heap:=h',toks:=tk})→wpAny S.M A (f x' y') Q E s):WO2 S d c f x y R P X σ:=fun A cl L ρ s hA C x' y' hx hy Q E hQ hE=>
 hf A ρ s x' y' hA.handled C.toCorrH hx hy Q E fun b v' h' tk hk p r=>by
  obtain⟨C',T⟩:=C.grows tk hk;exact hQ b v' σ ρ _ p T C' r
theorem PF(p:P (.list vs) σ)
  (hf:∀A ρ s x' y',A.handled=none→CorrH S ρ σ.hp s→RelV ρ σ.hp.length s.heap x x'→RelV ρ σ.hp.length s.heap y y'→∀(Q:PS) (E:PS),
   (∀a xs h' tk,(∀b o,s.heap.get? b=some o→h'.get? b=some o)→s.heap.get? a=none→h'.PlainList a xs→(∀ρ' n',cL ρ ρ' σ.hp.length n' s.heap h'→aj ρ' n' h' vs xs.toList)→Q (.ref a) {s with heap:=h',toks:=tk})→wpAny S.M A (f x' y') Q E s):WO2 S d c f x y RelV P X σ:=fun A cl L ρ s hA C x' y' hx hy Q E hQ hE=>
 hf A ρ s x' y' hA.handled C.toCorrH hx hy Q E fun a xs h' tk hk hn hl hr=>by
  obtain⟨C',T⟩:=C.freeze (s':={s with heap:=h',toks:=tk}) hk C.gens rfl (·=a) fun b hb=>by
   subst hb;obtain⟨k,e⟩:=hl;exact⟨hn,by show(h'.get? b).isSome=true;rw[e];rfl⟩
  exact hQ _ _ σ _ _ p T C' (.list (.inr rfl) hl (hr _ _ (gL hk)))
theorem Cj(hv:cO σ.hp v vs)(hz:vs.length≤100000)(h:P (!vs.isEmpty) σ):WO1 S d c truthy v eqR P X σ:=A9 fun A ρ s x' hh C hx Q E hQ=>by
 refine C.lstE hv hx fun a xs hl hr hsz hx=>?_
 refine wpAny_truthy_list hl.isList (by rw[hsz];lia) (hQ _ _ s.heap _ (fun _ _ e=>e) h ?_);show(!xs.isEmpty)=(!vs.isEmpty)
 congr 1
 have:=hr.length;cases vs<;>cases hx:xs.toList<;>simp_all[Array.isEmpty]
theorem PG(h:P false σ):WO1 S d c truthy .none eqR P X σ:=A9 fun A ρ s x' hh C hx Q E hQ=>by
 obtain rfl:=hx.none_inv;exact wpAny_pure (hQ _ _ s.heap s.toks (fun _ _ e=>e) h rfl)
noncomputable def Vx(S:Sta)(d:Nat)(c:FC)(value slice:Ex)(P:PV)(X:PX)(v i:V)(σ:St):Prop:=WO2 S d c (subscriptTail value slice) v i RelV P X σ
noncomputable def JH(S:Sta)(d:Nat)(c:FC)(value slice:Ex)(P:PV)(X:PX)(v:V)(σ:St):Prop:=WEx S d c slice (Vx S d c value slice P X v) X σ
theorem ie(h:WEx S d c value (JH S d c value slice P X) X σ):WEx S d c (.Subscript value slice pos) P X σ:=fun A cl L a ρ s hA C Q E hQ hE=>by
 refine Subscript_ (WT.use h hA C (.refl ..) hE fun v v' σ1 ρ1 s1 h1 T1 U1 C1 r1=>?_);refine WT.use h1 hA C1 T1 hE fun i i' σ2 ρ2 s2 h2 T2 U2 C2 r2=>?_
 exact h2.use hA C2 (r1.step C1.toCorrH C1.nsAll U2) r2 T2 hE fun w w' σ3 ρ3 s3 h3 T3 _ C3 r3=>hQ w w' σ3 ρ3 s3 h3 T3 C3 r3
noncomputable abbrev sq(slice:Ex):Prop:=∀o i,subscripted slice false o i=operate [o,i] (getItem o i)
theorem dD(hv:cO σ.hp v vs)(h0:0≤k)(hx:vs[k.toNat]?=some w)(hz:vs.length≤100000)(h:P w σ)(hs:sq slice:=by intro _ _;rfl):WO2 S d c (subscriptTail value slice) v (.int k) RelV P X σ:=uL fun A ρ s x' y' hh C hx' hy Q E hQ=>by
 refine C.lstE hv hx' fun a xs hl hr hsz hx'=>?_
 obtain⟨t,rfl⟩:=hy.int_inv;obtain⟨w',hw,rw'⟩:=hr.get hx;haveI hlt:k.toNat<vs.length:=(lSi hx).1;exact tail_any hl.isList.typeIs slot_list_getitem.lookup (wpAny_getItem_list hl.isList h0 (by lia) (by rw[←Array.getElem?_toList];exact hw) (hQ _ _ s.heap s.toks (fun _ _ e=>e) h rw')) (hs _ _)
theorem Ba(hv:cO σ.hp v vs)(h0:k<0)(h1: -(vs.length:Int)≤k)(hx:vs[(k+vs.length).toNat]?=some w)(hz:vs.length≤100000)(h:P w σ)(hs:sq slice:=by intro _ _;rfl):WO2 S d c (subscriptTail value slice) v (.int k) RelV P X σ:=uL fun A ρ s x' y' hh C hx' hy Q E hQ=>by
 refine C.lstE hv hx' fun a xs hl hr hsz hx'=>?_
 obtain⟨t,rfl⟩:=hy.int_inv;obtain⟨w',hw,rw'⟩:=hr.get hx;exact tail_any hl.isList.typeIs slot_list_getitem.lookup (wpAny_getItem_list_neg hl.isList h0 (by rw[hsz];exact h1) (by lia) (by rw[←Array.getElem?_toList,hsz];exact hw) (hQ _ _ s.heap s.toks (fun _ _ e=>e) h rw')) (hs _ _)
theorem eX(h0:0≤k)(hx:vs[k.toNat]?=some w)(hz:vs.length≤100000)(h:P w σ)(hs:sq slice:=by intro _ _;rfl):WO2 S d c (subscriptTail value slice) (.tup vs) (.int k) RelV P X σ:=uL fun A ρ s x' y' hh C hx' hy Q E hQ=>by
 refine hx'.tupE fun a xs qq0 hr=>?_
 obtain⟨n,hl⟩:=qq0;obtain⟨t,rfl⟩:=hy.int_inv;obtain⟨w',hw,rw'⟩:=hr.get hx;haveI hlt:k.toNat<vs.length:=(lSi hx).1;haveI hsz:xs.size=vs.length:=hr.length;haveI ht:IsTup s.heap a xs:=⟨_,hl,rfl,n,rfl⟩;refine tail_any ht.typeIs slot_tuple_getitem.lookup (getItem_tuple (j:=k.toNat) ht (by lia) (by lia) ?_ (by rw[←Array.getElem?_toList];exact hw) (hQ _ _ s.heap s.toks (fun _ _ e=>e) h rw')) (hs _ _);unfold seqIndex?;rw[hsz,if_neg (show ¬k<0 by exact fun hz=>fi1 (0,3,.k 0,.k 0) [Y0 (.k 0) X0,Y1 X0 (.k 0)] rfl h0 hz)];rw[if_pos (by simp only[Bool.and_eq_true,decide_eq_true_eq];exact⟨h0,fi3 (Y1 X0 X1) [Y1 X2 X1,Y0 X0 X2] rfl (iOt hlt) (iSt k)⟩)]
noncomputable def gl(S:Sta)(d:Nat)(c:FC)(x:Option Ex)(P:PV)(X:PX)(σ:St):Prop:=match x with
 |none=>P .none σ
 |some e=>WEx S d c e P X σ
theorem gl.use(h:gl S d c x P X σ)(hA:AOk A d)(C:aG S c cl L ρ σ s)(T₀:ah [L] ρ₀ hp₀ s₀ ρ σ.hp s)(hE:gk S L ρ₀ hp₀ s₀ X E)
  (hQ:OkU S c cl L RelV P ρ₀ hp₀ s₀ ρ σ s Q):wpAny S.M A (evalPart x (c.env cl L a)) Q E s:=by
 cases x with
 |none=>exact wpAny_pure (hQ .none .none σ ρ s h T₀ (.refl ..) C .none)
 |some e=>exact WT.use h hA C T₀ hE hQ
inductive kn:V→Option Int→Prop
 |none:kn .none none
 |int (k:Int) (h0: -1000000≤k) (h1:k≤1000000):kn (.int k) (some k)
theorem kn.is(p:kn v k)(r:RelV ρ n h v x):IsPart x k:=by
 cases p with
 |none=>rw[r.none_inv];exact .none
 |int k h0 h1=>obtain⟨t,rfl⟩:=r.int_inv;exact .int _ _
noncomputable def eY(vs:List V)(lo hi st:Option Int):List V:=(sliceRange (sliceBounds lo hi st vs.length).1 (sliceBounds lo hi st vs.length).2.1 (sliceBounds lo hi st vs.length).2.2).filterMap (vs[·]?)
theorem aj.pick(r:aj ρ n h vs xs.toList)(lo hi st:Option Int):aj ρ n h (eY vs lo hi st) (slicePick xs lo hi st).toList:=by
 haveI hsz:xs.size=vs.length:=r.length;unfold eY slicePick;rw[hsz];generalize sliceRange _ _ _=idx;show aj ρ n h (idx.filterMap (vs[·]?)) (idx.filterMap (xs[·]?))
 induction idx with
 |nil=>exact .nil
 |cons i r' ih=>
  rw[List.filterMap_cons,List.filterMap_cons];cases hv:vs[i]? with
  |none=>
   have:xs[i]?=none:=by
    rw[←Array.getElem?_toList,List.getElem?_eq_none_iff];rw[r.length];exact List.getElem?_eq_none_iff.mp hv
   rw[this];exact ih
  |some v=>
   obtain⟨x,hx,rx⟩:=r.get hv;rw[Array.getElem?_toList]at hx;rw[hx];exact .cons rx ih
theorem qX {value:Ex}{lower upper step:Option Ex}{p pos:Pos}{P:PV}
  (h:WEx S d c value (fun v σ1=>gl S d c lower (fun l σ2=>gl S d c upper (fun u σ3=>gl S d c step (fun t σ4=>∃vs lo hi st,cO σ4.hp v vs∧vs.length≤100000∧kn l lo∧kn u hi∧kn t st∧st≠some 0∧P (.list (eY vs lo hi st)) σ4) X σ3) X σ2) X σ1) X σ)
  (hs:∀o i,subscripted (.Slice lower upper step p) false o i=operate [o,i] (getItem o i)∨subscripted (.Slice lower upper step p) false o i=operate [i,o] (getItem o i):=by intro _ _;first|exact .inl rfl|exact .inr rfl):WEx S d c (.Subscript value (.Slice lower upper step p) pos) P X σ:=fun A cl L a ρ s hA C Q E hQ hE=>by
 refine Subscript_ (WT.use h hA C (.refl ..) hE fun v v' σ1 ρ1 s1 h1 T1 U1 C1 r1=>?_);refine wpAny_Slice (gl.use h1 hA C1 T1 hE fun l l' σ2 ρ2 s2 h2 T2 U2 C2 r2=>?_);refine gl.use h2 hA C2 T2 hE fun u u' σ3 ρ3 s3 h3 T3 U3 C3 r3=>?_
 refine gl.use h3 hA C3 T3 hE fun t t' σ4 ρ4 s4 h4 T4 U4 C4 r4=>?_
 obtain⟨vs,lo,hi,st,hv,hz,pl,pu,ps,h0,hP⟩:=h4;haveI r1':=r1.step C1.toCorrH C1.nsAll (U2.trans (U3.trans U4));haveI r2':=r2.step C2.toCorrH C2.nsAll (U3.trans U4);haveI r3':=r3.step C3.toCorrH C3.nsAll U4;haveI C5:=(C4.push {cls:= .type "slice",data:= .fields #[l',u',t']} s4.toks).1;haveI T5:=(C4.push {cls:= .type "slice",data:= .fields #[l',u',t']} s4.toks).2;haveI M5:=T5.moves C4.toCorrH C4.nsAll;refine C5.toCorrH.lstE hv (r1'.move M5) fun b xs hl hr hsz _=>?_
 haveI hsl:=Heap.IsSliceOf.new s4.heap l' u' t';haveI hk:∀b o,(s4.heap.push {cls:= .type "slice",data:= .fields #[l',u',t']}).get? b=some o→((s4.heap.push {cls:= .type "slice",data:= .fields #[l',u',t']}).push {cls:= .type "list",data:= .seq (slicePick xs lo hi st)}).get? b=some o:=fun b o e=>Heap.get?_push_of_some _ e
 obtain⟨C6,T6⟩:=C5.freeze (s':={s4 with heap:=(s4.heap.push {cls:= .type "slice",data:= .fields #[l',u',t']}).push {cls:= .type "list",data:= .seq (slicePick xs lo hi st)}}) hk C5.gens rfl (·=(s4.heap.push {cls:= .type "slice",data:= .fields #[l',u',t']}).objs.size) fun b hb=>by
  subst hb;exact⟨aq _ (nRe _),by show(((s4.heap.push _).push _).get? _).isSome=true;rw[Heap.get?_push_size _ rfl];rfl⟩
 haveI fin:Q (.ref (s4.heap.push {cls:= .type "slice",data:= .fields #[l',u',t']}).objs.size) {s4 with heap:=(s4.heap.push {cls:= .type "slice",data:= .fields #[l',u',t']}).push {cls:= .type "list",data:= .seq (slicePick xs lo hi st)}}:=
  hQ _ _ σ4 _ _ hP (T4.trans (T5.trans T6)) C6 (.list (.inr rfl) ⟨0,Heap.get?_push_size _ rfl⟩ ((hr.move (gL hk)).pick lo hi st))
 haveI gi:=wpAny_getItem_list_slice (prog:=pw) (w:=S.w) (A:=A) (E:=E) (s:={s4 with heap:=s4.heap.push {cls:= .type "slice",data:= .fields #[l',u',t']}}) (Q:=Q) hl.isList hsl (pl.is r2') (pu.is r3') (ps.is r4) h0 fin (by rw[hsz,szl];exact fj1 (Y0 X0 (.k 16777216)) [Y0 X0 (.k 100000)] rfl hz);rcases hs (.ref b) (.ref s4.heap.objs.size)with e|e
 ·exact tail_any hl.isList.typeIs slot_list_getitem.lookup gi e
 ·exact tail_any hl.isList.typeIs slot_list_getitem.lookup gi e
theorem xA(hx:cO σ.hp x vs)(hy:cO σ.hp y ws)(hz:vs.length+ws.length≤100000)(p:P (.list (vs++ws)) σ):WO2 S d c (binaryOp .Add) x y RelV P X σ:=PF p fun A ρ s x' y' hh C rx ry Q E hQ=>by
 refine C.lstE hx rx fun a xs hl hr hsz rx=>?_
 refine C.lstE hy ry fun b ys hl2 hr2 hsz2 ry=>?_
 obtain⟨n,ho⟩:=hl;obtain⟨n2,ho2⟩:=hl2;refine concat_meets ⟨_,ho,rfl⟩ ⟨_,ho2,rfl⟩ noFill_list_add seq_list_add PySem.F.slot_list_add PySem.F.entry_list_add (PySem.F.args_list_add_2 _ _) (list_addW a b xs ys n n2 none none #[] #[] (by rw[hsz,hsz2,szl];exact fj2 (Y0 (.a X0 X1) (.k 16777216)) [Y0 (.a X0 X1) (.k 100000)] rfl hz)) ⟨ho,ho2,?_⟩;refine hQ _ (xs++ys) _ s.toks (fun _ _ e=>Heap.get?_push_of_some _ e) (aq _ (nRe _)) ⟨0,Heap.get?_push_size _ rfl⟩ fun ρ' n' M=>?_
 rw[Array.toList_append];exact(hr.move M).append (hr2.move M)
end
section
variable {S:Sta} {d:Nat} {c:FC} {X:PX} {σ:St}
noncomputable def du(hp:List ai):V→Option Value
 | .none=>some (.type "NoneType")
 | .bool _=>some (.type "bool")
 | .int _=>some (.type "int")
 | .str _=>some (.type "str")
 | .bytes _=>some (.type "bytes")
 | .tup _=>some (.type "tuple")
 | .list _=>some (.type "list")
 | .inst C _=>some (.ref C)
 | .obj i=>match hp[i]? with
  |some (.list _)=>some (.type "list")
  |some (.inst C _)=>some (.ref C)
  |_=>none
 |_=>none
inductive mT(hp:List ai):V→Value→Prop
 |int (k:Int):mT hp (.int k) (.type "int")
 |str (x:Str):mT hp (.str x) (.type "str")
 |bytes (b:Array UInt8):mT hp (.bytes b) (.type "bytes")
 |tup (vs:List V):mT hp (.tup vs) (.type "tuple")
 |lst {v:V} {vs:List V} (h:cO hp v vs):mT hp v (.type "list")
 |inst {v:V} {C:Addr} {fs:List (Str×V)} (h:ck hp v C fs):mT hp v (.ref C)
theorem mT.of(e:du hp v=some t)(hn:t≠.type "NoneType")(hb:t≠.type "bool"):mT hp v t:=by
 refine byG fun G kG=>?_
 cases v with
 |none=>exact absurd (Option.some.inj e.symm) hn
 |bool b=>exact absurd (Option.some.inj e.symm) hb
 |int k=>cases e;exact kG (.int k)
 |str x=>cases e;exact kG (.str x)
 |bytes b=>cases e;exact kG (.bytes b)
 |tup vs=>cases e;exact kG (.tup vs)
 |list vs=>cases e;exact kG (.lst (.inr rfl))
 |inst D fs=>cases e;exact kG (.inst (.inr rfl))
 |rng a b k=>exact nn e
 |obj i=>
  replace e:(match hp[i]? with|some (.list _)=>some (Value.type "list")|some (.inst C _)=>some (.ref C)|_=>none)=some t:=e;cases hi:hp[i]? with
  |none=>rw[hi]at e;exact nn e
  |some o=>
   rw[hi]at e;cases o with
   |list vs=>cases e;exact kG (.lst (.inl ⟨i,rfl,hi⟩))
   |inst D fs=>cases e;exact kG (.inst (.inl ⟨i,rfl,hi⟩))
   |cell w=>exact nn e
 |top v=>exact nn e
 |any=>exact nn e
theorem CorrH.typeIs(C:CorrH S ρ hp s)(e:du hp v=some (.type T))(r:RelV ρ hp.length s.heap v v')(hb:T≠"NoneType" ∧T≠"bool"):
  s.TypeIs v' T∧∀a,v'= .ref a→∃o,s.heap.get? a=some o∧o.dict=none:=by
 have z:=mT.of e (fun q=>hb.1 (Value.type.inj q)) (fun q=>hb.2 (Value.type.inj q));clear e;generalize ht:Value.type T=t at z;cases z with
 |int k=>cases ht;exact r.intE fun t=>⟨typeIs_int s k t,fun a h=>nomatch h⟩
 |str x=>cases ht;exact r.strE fun t=>⟨typeIs_str s x t,fun a h=>nomatch h⟩
 |bytes b=>cases ht;exact r.bytesE fun t=>⟨typeIs_bytes s _ _,fun a h=>nomatch h⟩
 |tup vs=>cases ht;exact r.tupE fun a xs ⟨n,hl⟩ _=>⟨⟨_,hl,rfl⟩,fun b h=>by cases h;exact⟨_,hl,rfl⟩⟩
 |lst h=>
  cases ht;refine C.lstE h r fun a xs qq0 _ _ r=>?_
  obtain⟨n,hl⟩:=qq0;exact⟨⟨_,hl,rfl⟩,fun b h=>by cases h;exact⟨_,hl,rfl⟩⟩
 |inst h=>cases ht
theorem lx {v:V}{T id:String}{name:Str}{P:V→List V→St→Prop}(e:du σ.hp v=some (.type T))(pa:PlainAttrs T)(slot:Slot T name id)(hty:typeOf (.builtin id)=pure (.type "method_descriptor"))(hb:T≠"NoneType" ∧T≠"bool")(h:P (.top (.builtin id)) [v] σ):iO S d c v name P X σ:=fun A cl L ρ s hA C v' hv pl Q E hQ hE=>by
 haveI h1:=(C.toCorrH.typeIs e hv hb).1;haveI h2:=(C.toCorrH.typeIs e hv hb).2;exact getMethod_builtin h1 pa slot hty h2 (hQ _ _ _ _ σ ρ s h (.refl ..) C (.top _) (.cons hv .nil))
theorem fm(hf:∀M h,Looks M h (keeperOf f) .machine)
  (h:∀A ρ s vs' ks',AOk A d→CorrH S ρ σ.hp s→aj ρ σ.hp.length s.heap vs vs'→bq ρ σ.hp.length s.heap ks ks'→∀(Q:PS) (E:PS),
   (∀v v' h' tk,(∀b o,s.heap.get? b=some o→h'.get? b=some o)→P v σ→RelV ρ σ.hp.length h' v v'→Q v' {s with heap:=h',toks:=tk})→wpAny S.M A (call f vs' ks') Q E s):aI S d c (.top f) vs ks P X σ:=fun A cl L ρ s hA C f' vs' ks' rf r1 r2 Q E hQ hE=>by
 obtain rfl:=rf.top_inv;refine⟨⟨.machine,.inr (.inl rfl),hf _ _⟩,h A ρ s vs' ks' hA C.toCorrH r1 r2 Q E fun v v' h' tk hk p r=>?_⟩;haveI C':=(C.grows tk hk).1;haveI T:=(C.grows tk hk).2;exact hQ v v' σ ρ _ p T C' r
theorem dT {id:String}(M:Model)(h:Heap):Looks M h (keeperOf (.builtin id)) .machine:=Looks.of_pure rfl
theorem ny(M:Model)(h:Heap):Looks M h (keeperOf (.type T)) .machine:=Looks.of_pure rfl
theorem JI(p:P (.list ws) σ)(hf:∀M h,Looks M h (keeperOf f) .machine)
  (h:∀A ρ s vs' ks',AOk A d→CorrH S ρ σ.hp s→aj ρ σ.hp.length s.heap vs vs'→bq ρ σ.hp.length s.heap ks ks'→∀(Q:PS) (E:PS),
   (∀a xs h' tk,(∀b o,s.heap.get? b=some o→h'.get? b=some o)→s.heap.get? a=none→h'.PlainList a xs→(∀ρ' n',cL ρ ρ' σ.hp.length n' s.heap h'→aj ρ' n' h' ws xs.toList)→Q (.ref a) {s with heap:=h',toks:=tk})→wpAny S.M A (call f vs' ks') Q E s):aI S d c (.top f) vs ks P X σ:=fun A cl L ρ s hA C f' vs' ks' rf r1 r2 Q E hQ hE=>by
 obtain rfl:=rf.top_inv;refine⟨⟨.machine,.inr (.inl rfl),hf _ _⟩,h A ρ s vs' ks' hA C.toCorrH r1 r2 Q E fun a xs h' tk hk hn hl hr=>?_⟩;obtain⟨C',T⟩:=C.freeze (s':={s with heap:=h',toks:=tk}) hk C.gens rfl (·=a) fun b hb=>by
  subst hb;obtain⟨k,e⟩:=hl;exact⟨hn,by show(h'.get? b).isSome=true;rw[e];rfl⟩
 exact hQ _ _ σ _ _ p T C' (.list (.inr rfl) hl (hr _ _ (gL hk)))
theorem wT(h:P (.int k) σ):aI S d c (.top (.type "int")) [.int k] [] P X σ:=fm ny fun A ρ s vs' ks' hA C r1 r2 Q E hQ=>by
 refine r2.nilE ?_;refine r1.oneE fun _ rv=>?_;refine rv.intE fun t=>?_;exact call_int_int (hQ _ _ s.heap s.toks (fun _ _ e=>e) h (.int k t))
theorem kC(hz:k.natAbs.log2<1920)(h:P (.str (toString k)) σ):aI S d c (.top (.type "str")) [.int k] [] P X σ:=fm ny fun A ρ s vs' ks' hA C r1 r2 Q E hQ=>by
 refine r2.nilE ?_;refine r1.oneE fun _ rv=>?_;refine rv.intE fun t=>?_;exact PySem.P.str_of_int hz (hQ _ _ s.heap _ (fun _ _ e=>e) h (.str _ _))
theorem wU(hv:cO σ.hp v vs)(hz:vs.length≤100000)(h:P (.int vs.length) σ):aI S d c (.top (.builtin "len")) [v] [] P X σ:=fm dT fun A ρ s vs' ks' hA C r1 r2 Q E hQ=>by
 refine r2.nilE ?_;refine r1.oneE fun _ rv=>?_
 refine C.lstE hv rv fun a xs hl hr hsz rv=>?_
 exact len_list hl.isList (by rw[hsz];lia) (hQ (.int vs.length) _ s.heap _ (fun _ _ e=>e) h (by rw[hsz];exact .int _ _))
theorem qk(hz:vs.length≤100000)(h:P (.int vs.length) σ):aI S d c (.top (.builtin "len")) [.tup vs] [] P X σ:=fm dT fun A ρ s vs' ks' hA C r1 r2 Q E hQ=>by
 refine r2.nilE ?_;refine r1.oneE fun _ rv=>?_
 refine rv.tupE fun a xs ht hr=>?_
 have hsz:xs.size=vs.length:=hr.length;exact PyProof.Rows.len_tuple (ht.is) (by rw[hsz];lia) (hQ (.int vs.length) _ s.heap _ (fun _ _ e=>e) h (by rw[hsz];exact .int _ _))
theorem Ck(h:P (.int (if b<a then b else a)) σ):aI S d c (.top (.builtin "min")) [.int a,.int b] [] P X σ:=fm dT fun A ρ s vs' ks' hA C r1 r2 Q E hQ=>by
 refine r2.nilE ?_;refine r1.twoE fun _ _ ra rb=>?_
 refine ra.intE fun t=>?_
 refine rb.intE fun u=>?_
 refine min_two_ints hA.handled fun h' tk hk=>hQ _ _ h' tk hk h ?_
 split<;>exact .int _ _
theorem tD(h:P (.int (Builtin.Int.intBits a)) σ):aI S d c (.top (.builtin "int.bit_length")) [.int a] [] P X σ:=fm dT fun A ρ s vs' ks' hA C r1 r2 Q E hQ=>by
 refine r2.nilE ?_;refine r1.oneE fun _ ra=>?_;refine ra.intE fun t=>?_;exact call_int_bit_length (hQ _ _ s.heap _ (fun _ _ e=>e) h (.int _ _))
theorem tF(h:P (.top (.builtin "int.bit_length")) [.int a] σ):iO S d c (.int a) "bit_length" P X σ:=lx rfl PySem.F.plainAttrs_int PySem.F.slot_int_bit_length PySem.F.type_int_bit_length (by decide) h
noncomputable def EP(K:Frag)(D:Addr):Bool:=plainGet K D "__class__" &&hasDictIn K D&&findIn K (.ref D) "__class__" ==some (some (.builtin "object.__class__"))&&specialIn K (.builtin "object.__class__") "__get__" ==some (some (.builtin "getset_descriptor.__get__"))&&takesIn K (.builtin "object.__class__")==some true&&mroIn K D (.type "object")==some true
noncomputable def oG(K:Frag):Value→Bool
 | .type T=>T=="int" ||T=="str" ||T=="list" ||T=="tuple"
 | .ref D=>EP K D
 |_=>false
theorem CorrH.kitx(C:CorrH S ρ hp s)(e:du hp v=some t)(r:RelV ρ hp.length s.heap v v')(ok:oG S.K t=true):
  ∃H:Heap→Prop,KitX S.K v' t H∧H s.heap∧v'≠.builtin "__main__.__loader__#opaque":=by
 have z:=mT.of e (fun q=>by subst q;cases ok) (fun q=>by subst q;cases ok);clear e;cases z with
 |int k=>exact r.intE fun t=>⟨_,kitx_int,trivial,fun q=>nomatch q⟩
 |str x=>exact r.strE fun t=>⟨_,kitx_str,trivial,fun q=>nomatch q⟩
 |bytes b=>cases ok
 |tup vs=>exact r.tupE fun a xs ⟨n,hl⟩ _=>⟨_,kitx_tuple,⟨_,hl,rfl⟩,fun q=>nomatch q⟩
 |lst h=>
  refine C.lstE h r fun a xs qq0 _ _ r=>?_
  obtain⟨n,hl⟩:=qq0;exact⟨_,kitx_list,⟨_,hl,rfl⟩,fun q=>nomatch q⟩
 |inst h=>
  refine C.instE h r fun a m I _ r=>?_
  obtain⟨dx,od,I',_⟩:=I.at;unfold oG EP at ok;simp only[Bool.and_eq_true,beq_iff_eq]at ok;obtain⟨⟨⟨⟨⟨k1,k2⟩,k3⟩,k4⟩,k5⟩,k6⟩:=ok;exact⟨_,kitx_own k1 k2 k3 k4 k5 k6,I',fun q=>nomatch q⟩
theorem gn(e:du σ.hp v=some t)(ok:oG S.K t=true)(hb:kitOne S.K t cls=some b)(h:P (.bool b) σ):aI S d c (.top (.builtin "isinstance")) [v,.top cls] [] P X σ:=fm dT fun A ρ s vs' ks' hA C r1 r2 Q E hQ=>by
 refine r2.nilE ?_;refine r1.twoE fun _ _ rv rc=>?_
 obtain rfl:=rc.top_inv;obtain⟨H,Z,p,hx⟩:=C.kitx e rv ok;exact kia_one Z (S.X.keeps C.keep) p hb hx fun tk=>hQ _ _ s.heap tk (fun _ _ e=>e) h (.bool b)
theorem ql(e:du σ.hp v=some t)(ok:oG S.K t=true)(hb:kitAny S.K t [c1,c2]=some b)(h:P (.bool b) σ):aI S d c (.top (.builtin "isinstance")) [v,.tup [.top c1,.top c2]] [] P X σ:=fm dT fun A ρ s vs' ks' hA C r1 r2 Q E hQ=>by
 refine r2.nilE ?_;refine r1.twoE fun _ _ rv rc=>?_
 refine rc.tupE fun a xs qq0 hr=>?_
 obtain⟨n,hl⟩:=qq0;obtain⟨xs⟩:=xs;cases hr with
 |cons q1 hr=>cases hr with
  |cons q2 hr=>
   cases hr;obtain rfl:=q1.top_inv;obtain rfl:=q2.top_inv;obtain⟨H,Z,p,hx⟩:=C.kitx e rv ok;exact kia_tup Z (S.X.keeps C.keep) p hl hb hx fun tk=>hQ _ _ s.heap tk (fun _ _ e=>e) h (.bool b)
theorem CorrH.listSet(C:CorrH S ρ hp s)(hi:hp[i]?=some (.list vs))(hs:Heap.SameBut (ρ.pl i).1 s.heap h')(hl:h'.PlainList (ρ.pl i).1 ys)
  (hr:cL ρ ρ hp.length hp.length s.heap h'→aj ρ hp.length h' ws ys.toList):CorrH S ρ (hp.set i (.list ws)) {s with heap:=h',toks:=tk}∧ah [] ρ hp s ρ (hp.set i (.list ws)) {s with heap:=h',toks:=tk}:=by
 have hil:=(lSi hi).1;haveI he:=(C.objs i _ hi).1;exact C.set (s':={s with heap:=h',toks:=tk}) hil (ρ.pl i).1 (.inl rfl) (fun b o hb e=>(hs.2 b hb).trans e) (let⟨n,e⟩:=hl;by show(h'.get? (ρ.pl i).1).isSome=true;rw[e];rfl) C.gens rfl fun M=>⟨he,ys,hl,hr M⟩
theorem xB {id:String}{i:Nat}{vs ws:List V}{rest:List V}{r:V}{P:PV}(hi:σ.hp[i]?=some (.list vs))(p:P r ⟨σ.loc,σ.hp.set i (.list ws)⟩)
  (h:∀A ρ s xs rest',AOk A d→CorrH S ρ σ.hp s→s.heap.PlainList (ρ.pl i).1 xs→aj ρ σ.hp.length s.heap vs xs.toList→aj ρ σ.hp.length s.heap rest rest'→∀(Q:PS) (E:PS),
   (∀r' ys h' tk,Heap.SameBut (ρ.pl i).1 s.heap h'→h'.PlainList (ρ.pl i).1 ys→(cL ρ ρ σ.hp.length σ.hp.length s.heap h'→aj ρ σ.hp.length h' ws ys.toList∧RelV ρ σ.hp.length h' r r')→Q r' {s with heap:=h',toks:=tk})→wpAny S.M A (call (.builtin id) (.ref (ρ.pl i).1::rest')) Q E s):
  aI S d c (.top (.builtin id)) (.obj i::rest) [] P X σ:=fun A cl L ρ s hA C f' vs' ks' rf r1 r2 Q E hQ hE=>by
 obtain rfl:=rf.top_inv;cases r2;cases r1 with
 |cons ro r1=>
  obtain⟨hil,rfl⟩:=ro.obj_inv;obtain⟨_,xs,hl,hr⟩:=C.objs i _ hi;refine⟨⟨.machine,.inr (.inl rfl),dT _ _⟩,h A ρ s xs _ hA C.toCorrH hl hr r1 Q E fun r' ys h' tk hs hl' hr'=>?_⟩;haveI CH:=(C.toCorrH.listSet (tk:=tk) hi hs hl' fun M=>(hr' M).1).1;haveI T:=(C.toCorrH.listSet (tk:=tk) hi hs hl' fun M=>(hr' M).1).2;refine hQ r r' _ ρ _ p T.wide (C.hmove T CH) ?_;haveI M:=T.moves C.toCorrH gH;rw[List.length_set]at M;have:=(hr' M).2;rw[List.length_set];exact this
theorem EQ {i:Nat}(hi:σ.hp[i]?=some (.list vs))(hz:vs.length≤100000)(p:P .none ⟨σ.loc,σ.hp.set i (.list (vs++[v]))⟩):aI S d c (.top (.builtin "list.append")) [.obj i,v] [] P X σ:=
 xB hi p fun A ρ s xs rest' hA C hl hr rr Q E hQ=>by
  cases rr with
  |cons rv rr=>
   cases rr;refine PySem.wpAny_list_append_plain hl (fun h' hl' hs=>hQ .none _ h' s.toks hs hl' fun M=>⟨?_,.none⟩) (by have:=hr.length;rw[←aTl,this,szl];exact fj1 (Y0 X0 (.k 16777216)) [Y0 X0 (.k 100000)] rfl hz);rw[Array.toList_push];exact(hr.move M).append (.cons (rv.move M) .nil)
theorem lW {lo:List (Option V)}{hp:List ai}{i:Nat}{vs:List V}{v:V}{P:PV}(hi:hp[i]?=some (.list vs))(hz:vs.length≤100000)(p:P .none ⟨lo,hp.set i (.list (vs++[v]))⟩):aI S d c (.top (.builtin "list.append")) [.obj i,v] [] P X ⟨lo,hp⟩:=EQ (σ:=⟨lo,hp⟩) hi hz p
theorem ER {i:Nat}(hi:σ.hp[i]?=some (.list vs))(hv:cO σ.hp v ws)(hz:vs.length+ws.length≤100000)(p:P .none ⟨σ.loc,σ.hp.set i (.list (vs++ws))⟩):aI S d c (.top (.builtin "list.extend")) [.obj i,v] [] P X σ:=
 xB hi p fun A ρ s xs rest' hA C hl hr rr Q E hQ=>by
  cases rr with
  |cons rv rr=>
   cases rr;obtain⟨n,ho⟩:=hl;refine C.lstE hv rv fun b ys qq0 hr2 hsz2 rv=>?_
   obtain⟨n2,ho2⟩:=qq0;haveI hsz:xs.size=vs.length:=hr.length;haveI hsz':xs.size+ys.size≤sizeLine:=by rw[hsz,hsz2,szl];exact fj2 (Y0 (.a X0 X1) (.k 16777216)) [Y0 (.a X0 X1) (.k 100000)] rfl hz
   refine call_meets PySem.F.slot_list_extend ⟨_,ho,rfl⟩ PySem.F.entry_list_extend (PySem.F.args_list_extend_2 _ _) (AutoSeq1.list_extend_list_list_0 _ xs n b ys n2 (extend_door hsz') (Nat.le_trans (Nat.le_add_right _ _) hsz')) ⟨ho,ho2,?_⟩;refine hQ .none (xs++ys) _ s.toks (Heap.SameBut.update ..) ⟨_,by rw[Heap.get?_update_self _ ho (by rw[mapSeq_app];rfl),mapSeq_app]⟩ fun M=>⟨?_,.none⟩
   rw[Array.toList_append];exact(hr.move M).append (hr2.move M)
theorem xC {lo:List (Option V)}{hp:List ai}{i:Nat}{vs ws:List V}{v:V}{P:PV}(hi:hp[i]?=some (.list vs))(hv:cO hp v ws)(hz:vs.length+ws.length≤100000)(p:P .none ⟨lo,hp.set i (.list (vs++ws))⟩):aI S d c (.top (.builtin "list.extend")) [.obj i,v] [] P X ⟨lo,hp⟩:=ER (σ:=⟨lo,hp⟩) hi hv hz p
theorem aj.dropLast(r:aj ρ n h vs xs):aj ρ n h vs.dropLast xs.dropLast:=by
 refine r.indE .nil fun v x vs xs a r ih=>?_
 cases vs with
 |nil=>exact r.nilE .nil
 |cons w vs=>revert ih;exact r.consE fun _ _ _ _ ih=> .cons a ih
theorem pF:∀{l:List α} {i:Nat},i+1=l.length→l.eraseIdx i=l.dropLast
 |[x],0,_=>rfl
 |x::y::r,0,h=>by simp at h
 |x::y::r,i+1,h=>by
  rw[List.eraseIdx_cons_succ,List.dropLast_cons_cons,pF (l:=y::r) (by simpa using h)]
theorem PH {i:Nat}(hi:σ.hp[i]?=some (.list vs))(hl:vs.getLast?=some v)(hz:vs.length≤100000)(p:P v ⟨σ.loc,σ.hp.set i (.list vs.dropLast)⟩):aI S d c (.top (.builtin "list.pop")) [.obj i] [] P X σ:=
 xB hi p fun A ρ s xs rest' hA C hl' hr rr Q E hQ=>by
  cases rr;obtain⟨n,ho⟩:=hl';have hsz:xs.size=vs.length:=hr.length;have hv:vs[vs.length-1]?=some v:=by rw[←List.getLast?_eq_getElem?];exact hl
  obtain⟨y,hy,ry⟩:=hr.get hv;have hy':xs[xs.size-1]?=some y:=by rw[hsz,←Array.getElem?_toList];exact hy
  refine call_meets PySem.F.slot_list_pop ⟨_,ho,rfl⟩ PySem.F.entry_list_pop (PySem.F.args_list_pop_1 _) (PySem.MeetsSeq.list_pop_last _ xs n y hy' (by rw[hsz,szl];exact fj1 (Y0 X0 (.k 16777216)) [Y0 X0 (.k 100000)] rfl hz)) ⟨ho,?_⟩;haveI q:=PySem.IsL.update (n:=n) ho (fun xs':Array Value=>xs'.eraseIdxIfInBounds (xs.size-1));refine hQ y _ _ s.toks (Heap.SameBut.update ..) ⟨_,q⟩ fun M=>⟨?_,ry.move M⟩
  haveI e:(xs.eraseIdxIfInBounds (xs.size-1)).toList=xs.toList.dropLast:=by
   haveI hlt:xs.size-1<xs.size:=(Array.getElem?_eq_some_iff.mp hy').1;unfold Array.eraseIdxIfInBounds;rw[dif_pos hlt];rw[Array.toList_eraseIdx,pF (by rw[aTl];exact nAs (fj2 (Y0 (.i X0) X1) [Y1 X0 X1] rfl hlt) ((lsa (xs.size) (1))))]
  rw[e];exact(hr.move M).dropLast
theorem Tj {lo:List (Option V)}{hp:List ai}{i:Nat}{vs:List V}{v:V}{P:PV}(hi:hp[i]?=some (.list vs))(hl:vs.getLast?=some v)(hz:vs.length≤100000)(p:P v ⟨lo,hp.set i (.list vs.dropLast)⟩):aI S d c (.top (.builtin "list.pop")) [.obj i] [] P X ⟨lo,hp⟩:=PH (σ:=⟨lo,hp⟩) hi hl hz p
end
section
variable {S:Sta} {d:Nat} {c:FC} {X:PX} {σ:St}
noncomputable def WUn(S:Sta)(d:Nat)(c:FC)(X:PX):List Ex→List V→(St→Prop)→St→Prop
 |t::ts,x::xs,P,σ=>WA S d c t x (fun σ1=>WUn S d c X ts xs P σ1) X σ
 |_,_,P,σ=>P σ
theorem gN:∀{es:List Ex},es.all dJ=true→assignEach es env=es.map fun e=>(false,assign e env)
 |[],_=>rfl
 |e::r,h=>by
  rw[List.all_cons,Bool.and_eq_true]at h;have:assignEach (e::r) env=(false,assign e env)::assignEach r env:=by
   cases e<;>first|rfl|(exact absurd h.1 (by simp[dJ]))
  rw[this,gN h.2];rfl
theorem WUn.use(hA:AOk A d):∀{ts:List Ex} {vs:List V} {xs:List Value} {P:St→Prop} {σ:St} {ρ:Pl} {s:Shared},WUn S d c X ts vs P σ→aG S c cl L ρ σ s→aj ρ σ.hp.length s.heap vs xs→
  ∀{ρ₀:Pl} {hp₀:List ai} {s₀:Shared} (T₀:ah [L] ρ₀ hp₀ s₀ ρ σ.hp s) {Q:Unit→Shared→Prop} {E:PS} (hE:gk S L ρ₀ hp₀ s₀ X E)
  (hQ:∀σ' ρ' s',P σ'→ah [L] ρ₀ hp₀ s₀ ρ' σ'.hp s'→aG S c cl L ρ' σ' s'→Q () s'),wpAny S.M A (assignInOrder (ts.map fun t=>assign t (c.env cl L a)) xs) Q E s
 |[],vs,xs,P,σ,ρ,s,h,C,r,ρ₀,hp₀,s₀,T₀,Q,E,hE,hQ=>by
  haveI h':P σ:=by cases vs<;>exact h
  exact wpAny_pure (hQ σ ρ s h' T₀ C)
 |t::ts,[],xs,P,σ,ρ,s,h,C,r,ρ₀,hp₀,s₀,T₀,Q,E,hE,hQ=>by cases r;exact wpAny_pure (hQ σ ρ s h T₀ C)
 |t::ts,v::vs,xs,P,σ,ρ,s,h,C,r,ρ₀,hp₀,s₀,T₀,Q,E,hE,hQ=>by
  cases r with
  |cons rv rs=>
   rename_i x xs;show wpAny S.M A (do holding xs (assign t (c.env cl L a) x);assignInOrder (ts.map fun t=>assign t (c.env cl L a)) xs) Q E s;refine wpAny_bind (wpAny_holding (WV.use h hA C rv T₀ hE fun _ _ σ1 ρ1 s1 h1 T1 U1 C1 _=>?_));exact WUn.use hA h1 C1 (rs.step C.toCorrH C.nsAll U1) T1 hE hQ
noncomputable def Tk(hp:List ai)(v:V)(vs:List V):Prop:=v= .tup vs∨cO hp v vs
theorem dh(hv:Tk σ.hp v vs)(hn:elts.length=vs.length)(h:WUn S d c X elts vs P σ)(hs:elts.all dJ=true:=by rfl):WA S d c (.Tuple elts k pos) v P X σ:=fun A cl L a ρ s hA C x' hx Q E hQ hE=>by
 haveI hstar:(assignEach elts (c.env cl L a)).findIdx? (·.1)=none:=by
  rw[gN hs,List.findIdx?_eq_none_iff];intro x hx;obtain⟨e,_,rfl⟩:=lMm hx;rfl
 haveI hmap:(assignEach elts (c.env cl L a)).map (·.2)=elts.map fun t=>assign t (c.env cl L a):=by rw[gN hs,List.map_map];rfl
 haveI hlen:(assignEach elts (c.env cl L a)).length=elts.length:=by rw[gN hs,lMa]
 haveI body:∀(xs:Array Value),aj ρ σ.hp.length s.heap vs xs.toList→∀h',Heap.ExtBut s.heap.objs.size s.heap h'→wpAny S.M A (assignInOrder ((assignEach elts (c.env cl L a)).map (·.2)) xs.toList) Q E {s with heap:=h'}:=fun xs hr h' he=>by
  rw[hmap];haveI C':=(C.grows (h':=h') s.toks fun b o e=>he b o (nNe (Heap.lt_size e)) e).1;haveI T:=(C.grows (h':=h') s.toks fun b o e=>he b o (nNe (Heap.lt_size e)) e).2;exact WUn.use hA h C' (hr.move (T.moves C.toCorrH C.nsAll)) T hE fun σ' ρ' s' p T' C2=>hQ () () σ' ρ' s' p T' C2 rfl
 rcases hv with rfl|hv
 ·refine hx.tupE fun t xs ht hr=>?_
  have hsz:xs.size=vs.length:=hr.length;exact wpAny_assign_Tuple hA.handled ht.is (by rw[hlen,hn,hsz]) hstar (body xs hr)
 ·refine C.toCorrH.lstE hv hx fun l xs hl hr hsz hx=>?_
  show wpAny S.M A (assign (.Tuple elts k pos) (c.env cl L a) (.ref l)) Q E s;rw[assign_Tuple];refine wpAny_bind (wpAny_standAt ?_);unfold unpack;rw[hlen,hn,←hsz,hstar];exact wpAny_bind (wpAny_holding (kun_itemsOf hA.handled hl.isList (body xs hr)))
noncomputable def Vy(S:Sta)(d:Nat)(c:FC)(elts:List Ex)(k:Nat)(tp:Pos)(P:Out→St→Prop)(X:PX)(v:V)(σ:St):Prop:=WA S d c (.Tuple elts k tp) v (P .next) X σ
theorem eH(h:WEx S d c e (Vy S d c elts k tp P X) X σ)
  (hs:∀env,swapsWithSole [.Tuple elts k tp] e p.line env=pure false:=by intro _;rfl)(hw:∀cl L a,swappedStores [.Tuple elts k tp] e (c.env cl L a)=pure none:=by intro _ _ _;rfl):W1 S d c (.Assign [.Tuple elts k tp] e p) P X σ:=fun A cl L a ρ s hA C Q E hQ hE=>by
 refine Assign_Tuple (WT.use h hA C (.refl ..) hE fun v v' σ1 ρ1 s1 h1 T1 U1 C1 r1=>?_) (hs _) (hw ..);exact WV.use h1 hA C1 r1 T1 hE fun _ _ σ2 ρ2 s2 h2 T2 _ C2 _=>hQ .next .next σ2 ρ2 s2 h2 T2 C2 trivial
theorem dg(h:o.cls= .type T)(hT:T≠"tuple"):g8 o:=fun xs k ht=>by rw[h]at ht;exact absurd (Value.type.inj ht) hT
noncomputable def wV(it:Addr)(v:V)(vs:List V)(k:Nat)(ρ:Pl)(n:Nat)(h:Heap):Prop:=
 (∃i,v= .obj i∧i<n∧h.IsListIter it (ρ.pl i).1 k)∨(v= .list vs∧∃a xs,ρ.fz a∧h.IsListIter it a k∧h.PlainList a xs∧aj ρ n h vs xs.toList)
noncomputable def Cl(v:V)(vs:List V)(hp:List ai):Prop:=cO hp v vs
theorem xD:si S it vs (Cl v vs) (wV it v vs):=by
 refine⟨?_,?_,?_,?_⟩
 ·rintro k ρ n h (⟨i,_,_,o,e,h1,_⟩|⟨_,a,xs,_,⟨o,e,h1,_⟩,_⟩)<;>exact⟨o,e,dg h1 (by decide)⟩
 ·rintro k ρ ρ' n n' h h' (⟨i,rfl,hi,o,e,r⟩|⟨rfl,a,xs,hz,⟨o,e,r⟩,hl,hr⟩) M hk
  ·exact .inl ⟨i,rfl,nLl hi M.len,by rw[M.ext i hi];exact⟨o,hk o e,r⟩⟩
  ·exact .inr ⟨rfl,a,xs,M.fzk _ hz,⟨o,hk o e,r⟩,hl.at fun o e=>M.fzh _ _ hz e,hr.move M⟩
 ·rintro k hp ρ s A w hh hG C hat hM hv Q E hQ
  rcases hat with ⟨i,rfl,hi,hat⟩|⟨rfl,a,xs,hz,hat,hl,hr⟩
  ·rcases hG with ⟨j,e,hG⟩|e
   ·cases e;obtain⟨_,xs,hl,hr⟩:=C.objs _ _ hG;obtain⟨x,hx,hr'⟩:=hr.get hv;refine wpAny_pyNext_list_item hat hl.isList (by rw[←Array.getElem?_toList];exact hx) fun h' h1 h2=>?_
    exact hQ x h' s.toks hr' (fun b o hb e=>(h2.2 b hb).trans e) (.inl ⟨_,rfl,hi,h1⟩)
   ·cases e
  ·obtain⟨x,hx,hr'⟩:=hr.get hv;refine wpAny_pyNext_list_item hat hl.isList (by rw[←Array.getElem?_toList];exact hx) fun h' h1 h2=>?_
   have hk:∀b o,b≠it→s.heap.get? b=some o→h'.get? b=some o:=fun b o hb e=>(h2.2 b hb).trans e
   have M:=hM h' hk;exact hQ x h' s.toks hr' hk (.inr ⟨rfl,a,xs,hz,h1,hl.at fun o e=>M.fzh _ _ hz e,hr.move M⟩)
 ·rintro hp ρ s A hh hG C hat Q E hQ
  rcases hat with ⟨i,rfl,hi,hat⟩|⟨rfl,a,xs,hz,hat,hl,hr⟩
  ·rcases hG with ⟨j,e,hG⟩|e
   ·cases e;obtain⟨_,xs,hl,hr⟩:=C.objs _ _ hG;have hsz:xs.size=vs.length:=hr.length;exact wpAny_pyNext_list_end hh hat hl.isList (Array.getElem?_eq_none (Nat.le_of_eq hsz)) fun h' h1=>hQ h' s.toks (fun b o hb e=>h1 b o hb e)
   ·cases e
  ·have hsz:xs.size=vs.length:=hr.length;exact wpAny_pyNext_list_end hh hat hl.isList (Array.getElem?_eq_none (Nat.le_of_eq hsz)) fun h' h1=>hQ h' s.toks (fun b o hb e=>h1 b o hb e)
noncomputable def JJ(it:Addr)(vs:List V)(k:Nat)(ρ:Pl)(n:Nat)(h:Heap):Prop:=∃t xs,h.IsTupleIter it t k∧TupAt h t xs∧aj ρ n h vs xs.toList
theorem xE:si S it vs (fun _=>True) (JJ it vs):=by
 refine⟨?_,?_,?_,?_⟩
 ·rintro k ρ n h ⟨t,xs,⟨o,e,h1,_⟩,_⟩;exact⟨o,e,dg h1 (by decide)⟩
 ·rintro k ρ ρ' n n' h h' ⟨t,xs,⟨o,e,r⟩,ht,hr⟩ M hk
  exact⟨t,xs,⟨o,hk o e,r⟩,M.tup _ _ ht,hr.move M⟩
 ·rintro k hp ρ s A w hh hG C ⟨t,xs,hat,ht,hr⟩ hM hv Q E hQ
  obtain⟨x,hx,hr'⟩:=hr.get hv;refine wpAny_pyNext_tuple_item hat ht.is (by rw[←Array.getElem?_toList];exact hx) fun h' h1 h2=>?_
  haveI hk:∀b o,b≠it→s.heap.get? b=some o→h'.get? b=some o:=fun b o hb e=>(h2.2 b hb).trans e
  haveI M:=hM h' hk;exact hQ x h' s.toks hr' hk ⟨t,xs,h1,M.tup _ _ ht,hr.move M⟩
 ·rintro hp ρ s A hh hG C ⟨t,xs,hat,ht,hr⟩ Q E hQ
  haveI hsz:xs.size=vs.length:=hr.length;exact wpAny_pyNext_tuple_end hh hat ht.is (Array.getElem?_eq_none (Nat.le_of_eq hsz)) fun h' h1=>hQ h' s.toks (fun b o hb e=>h1 b o hb e)
noncomputable def jv(a st:Int)(n:Nat):List V:=(List.range n).map fun(k:Nat)=>V.int (a+(k:Int)*st)
theorem nA(a st:Int)(n:Nat):(jv a st n).length=n:=by simp[jv]
theorem Cm {a st:Int}{n:Nat}:si S it (jv a st n) (fun _=>True) (fun k _ _ h=>IsRangeIter h it (a+(k:Int)*st) ((n:Int)-k) st):=by
 refine⟨fun k ρ m h e=>⟨_,e,dg rfl (by decide)⟩,fun k ρ ρ' m m' h h' e M hk=>hk _ e,?_,?_⟩
 ·intro k hp ρ s A v hh hG C hat hM hv Q E hQ;haveI hk:k<n:=by have:=(lSi hv).1;rwa[nA]at this
  haveI hv':v= .int (a+(k:Int)*st):=by
   have e:(jv a st n)[k]?=some (.int (a+(k:Int)*st)):=by unfold jv;rw[List.getElem?_map,List.getElem?_range hk];rfl
   rw[e]at hv;exact(Option.some.inj hv).symm
  subst hv';refine wpAny_pyNext_range_item hat (fi2 (Y1 (.k 0) (.s X0 X1)) [Y1 X1 X0] rfl (iOt hk)) fun h' h1 hs=>?_
  refine hQ _ h' (s.toks+1) (.int _ _) (fun b o hb e=>(hs.2 b hb).trans e) ?_;haveI e1:a+(k:Int)*st+st=a+((k+1:Nat):Int)*st:=by rw[Int.natCast_add,Int.add_mul];simp[Int.add_assoc]
  haveI e2:(n:Int)-(k:Int)-1=(n:Int)-((k+1:Nat):Int):=iAs (fi2 (Y0 (.s (.s X0 X1) (.k 1)) (.s X0 (.i X1))) [] rfl) (fi2 (Y0 (.s X0 (.i X1)) (.s (.s X0 X1) (.k 1))) [] rfl);rw[←e1,←e2];exact h1
 ·intro hp ρ s A hh hG C hat Q E hQ;rw[nA]at hat;exact wpAny_pyNext_range_end hh hat (fi1 (Y0 (.s X0 X0) (.k 0)) [] rfl) fun h' h1=>hQ h' s.toks (fun b o hb e=>h1 b o hb e)
theorem tG
  (h:WEx S d c iter (fun v σ1=>∃vs,cO σ1.hp v vs∧lU S d c target body els (Cl v vs) P vs σ1) X σ)
  (hs:∀env x,foldedSetIterable iter env x=pure x:=by intro _ _;rfl)(ht:∀it v,letOwnedTupleGo target it v=pure ():=by intro _ _;rfl):W1 S d c (.For target iter body els p) P X σ:=fun A cl L a ρ s hA C Q E hQ hE=>by
 refine wpAny_For (WT.use h hA C (.refl ..) hE fun v v' σ1 ρ1 s1 h1 T1 _ C1 r1=>?_) (hs _);obtain⟨vs,hv,J⟩:=h1;have hl:∃l xs,v'= .ref l∧s1.heap.PlainList l xs∧∀it,(s1.heap.push {cls:= .type "list_iterator",data:= .fields #[.ref l,.int 0 0]}).IsListIter it l 0→wV it v vs 0 ρ1 σ1.hp.length (s1.heap.push {cls:= .type "list_iterator",data:= .fields #[.ref l,.int 0 0]}):=by
  haveI M:=fun(l:Addr)=>(C1.push {cls:= .type "list_iterator",data:= .fields #[.ref l,.int 0 0]} s1.toks).2.moves C1.toCorrH C1.nsAll
  rcases hv with ⟨i,rfl,e⟩|rfl
  ·obtain⟨hi,rfl⟩:=r1.obj_inv;obtain⟨_,xs,hl,hr⟩:=C1.objs i _ e;exact⟨_,xs,rfl,hl,fun it hit=> .inl ⟨i,rfl,hi,hit⟩⟩
  ·cases r1 with
   |list hz ha hx=>exact⟨_,_,rfl,ha,fun it hit=> .inr ⟨rfl,_,_,hz,hit,ha.at fun o e=>Heap.get?_push_of_some _ e,hx.move (M _)⟩⟩
 obtain⟨l,xs,rfl,hpl,hAt⟩:=hl;refine wpAny_pyIter_list hpl.isList ?_;haveI C2:=(C1.push {cls:= .type "list_iterator",data:= .fields #[.ref l,.int 0 0]} s1.toks).1;haveI T2:=(C1.push {cls:= .type "list_iterator",data:= .fields #[.ref l,.int 0 0]} s1.toks).2;haveI O:=Own.push (o:={cls:= .type "list_iterator",data:= .fields #[.ref l,.int 0 0]}) C1 rfl (dg rfl (by decide));haveI hit:(s1.heap.push {cls:= .type "list_iterator",data:= .fields #[.ref l,.int 0 0]}).IsListIter s1.heap.objs.size l 0:=⟨_,Heap.get?_push_size _ rfl,rfl,rfl⟩;exact sj hA xD (cV T1.live (aq _ (nRe _))) (T1.trans T2) C2 O hv (hAt _ hit) J (fun o f σ' ρ' s' h' T' C' r'=>hQ o f σ' ρ' s' h' T' C' r') (ht _)
theorem ES
  (h:WEx S d c iter (fun v σ1=>∃vs,v= .tup vs∧lU S d c target body els (fun _=>True) P vs σ1) X σ)
  (hs:∀env x,foldedSetIterable iter env x=pure x:=by intro _ _;rfl)(ht:∀it v,letOwnedTupleGo target it v=pure ():=by intro _ _;rfl):W1 S d c (.For target iter body els p) P X σ:=fun A cl L a ρ s hA C Q E hQ hE=>by
 refine wpAny_For (WT.use h hA C (.refl ..) hE fun v v' σ1 ρ1 s1 h1 T1 _ C1 r1=>?_) (hs _);obtain⟨vs,rfl,J⟩:=h1;refine r1.tupE fun t xs ht' hr=>?_
 refine wpAny_pyIter_tuple ht'.is ?_;haveI C2:=(C1.push {cls:= .type "tuple_iterator",data:= .fields #[.ref t,.int 0 0]} s1.toks).1;haveI T2:=(C1.push {cls:= .type "tuple_iterator",data:= .fields #[.ref t,.int 0 0]} s1.toks).2;haveI M:=T2.moves C1.toCorrH C1.nsAll;haveI O:=Own.push (o:={cls:= .type "tuple_iterator",data:= .fields #[.ref t,.int 0 0]}) C1 rfl (dg rfl (by decide));haveI hit:(s1.heap.push {cls:= .type "tuple_iterator",data:= .fields #[.ref t,.int 0 0]}).IsTupleIter s1.heap.objs.size t 0:=⟨_,Heap.get?_push_size _ rfl,rfl,rfl⟩;exact sj hA xE (cV T1.live (aq _ (nRe _))) (T1.trans T2) C2 O trivial ⟨t,xs,hit,M.tup _ _ ht',hr.move M⟩ J (fun o f σ' ρ' s' h' T' C' r'=>hQ o f σ' ρ' s' h' T' C' r') (ht _)
inductive Tl(S:Sta)(d:Nat)(c:FC)(target:Ex)(body els:List Stmt)(P:Out→St→Prop)(v:V)(σ1:St):Prop
 |mk (x y z:Int) (n:Nat) (h1:v= .rng x y z) (h2:Builtin.Range.small x y z=true) (h3:Builtin.Range.rangeSize x y z=(n:Nat)) (hW:lU S d c target body els (fun _=>True) P (jv x z n) σ1)
theorem ET
  (h:WEx S d c iter (Tl S d c target body els P) X σ)
  (hs:∀env x,foldedSetIterable iter env x=pure x:=by intro _ _;rfl)(ht:∀it v,letOwnedTupleGo target it v=pure ():=by intro _ _;rfl):W1 S d c (.For target iter body els p) P X σ:=fun A cl L a ρ s hA C Q E hQ hE=>by
 refine wpAny_For (WT.use h hA C (.refl ..) hE fun v v' σ1 ρ1 s1 h1 T1 _ C1 r1=>?_) (hs _);obtain⟨x,y,z,n,rfl,hsm,hn,J⟩:=h1;cases r1 with
 |rng hz hr=>
  refine wpAny_pyIter_range hr hsm ?_;haveI C2:=(C1.push {cls:= .type "range_iterator",data:= .fields #[rawInt x,rawInt (Builtin.Range.rangeSize x y z),rawInt z]} s1.toks).1;haveI T2:=(C1.push {cls:= .type "range_iterator",data:= .fields #[rawInt x,rawInt (Builtin.Range.rangeSize x y z),rawInt z]} s1.toks).2;haveI O:=Own.push (o:={cls:= .type "range_iterator",data:= .fields #[rawInt x,rawInt (Builtin.Range.rangeSize x y z),rawInt z]}) C1 rfl (dg rfl (by decide));haveI hit:IsRangeIter (s1.heap.push {cls:= .type "range_iterator",data:= .fields #[rawInt x,rawInt (Builtin.Range.rangeSize x y z),rawInt z]}) s1.heap.objs.size (x+((0:Nat):Int)*z) ((n:Int)-((0:Nat):Int)) z:=by
   haveI e1:x+((0:Nat):Int)*z=x:=by simp
   haveI e2:(n:Int)-((0:Nat):Int)=Builtin.Range.rangeSize x y z:=by rw[hn];simp
   rw[e1,e2];exact Heap.get?_push_size _ rfl
  exact sj hA Cm (cV T1.live (aq _ (nRe _))) (T1.trans T2) C2 O trivial hit J (fun o f σ' ρ' s' h' T' C' r'=>hQ o f σ' ρ' s' h' T' C' r') (ht _)
end
section
variable {S:Sta} {d:Nat} {c:FC} {X:PX} {σ:St}
theorem oH(h:WL S d c body (lT S d c orelse P X) no σ):W1 S d c (.Try body (h₀::hs) orelse [] p) P X σ:=fun A cl L a ρ s hA C Q E hQ hE=>by
 refine wpAny_Try_except (h.use hA C (.refl ..) (fun _ _ _ _ _ x=>x.elim) fun o f σ1 ρ1 s1 h1 T1 _ C1 r1=>?_);cases o with
 |next=>cases f<;>first|exact r1.elim|exact h1.use hA C1 T1 hE fun v v' σ3 ρ3 s3 h3 T3 _ C3 r3=>hQ v v' σ3 ρ3 s3 h3 T3 C3 r3
 |brk=>cases f<;>first|exact r1.elim|exact hQ _ _ σ1 ρ1 s1 h1 T1 C1 r1
 |cont=>cases f<;>first|exact r1.elim|exact hQ _ _ σ1 ρ1 s1 h1 T1 C1 r1
 |ret v=>cases f<;>first|exact r1.elim|exact hQ _ _ σ1 ρ1 s1 h1 T1 C1 r1
theorem ko(h:P (.int (Builtin.bitNot x)) σ):WO1 S d c (unaryOp .Invert) (.int x) RelV P X σ:=fun A cl L ρ s hA C x' hx Q E hQ hE=>by
 obtain⟨t,rfl⟩:=hx.int_inv;obtain⟨C',T⟩:=C.toks (s.toks+1);exact invert_int (hQ _ _ σ ρ _ h T C' (.int _ _))
end
section
variable {S:Sta} {d:Nat} {c:FC} {X:PX} {σ:St}
theorem oI(e:h.get? a=some o)(ec:o.cls= .ref C):Looks M h (typeOf (.ref a)) (.ref C):=fun A Q E s k q=>by
 unfold typeOf;exact wpAny_bind (wpAny_loadPart (k _ _ e) (wpAny_pure (by rw[ec];exact q)))
theorem JK(h:AOk A d)(hd:d<1000):A.units<cLine:=by
 have:=h.units;unfold cLine;exact fj2 (Y1 X0 (.k 9900)) [(8,1,X1,.k 1000),Y0 X0 (.m 8 X1)] rfl hd this
theorem PI(hr:∀M A E a b Q s,wpAny M A (richCompare op a b) Q E s→wpAny M A (compareOp op a b) Q E s)(hop:cmpInfo op=(sym,name,r))(h1:∀a b,oneThing? op (.ref a) (.ref b)=none)
  (hx:ck σ.hp x C fs)(hy:ck σ.hp y C gs)(hf:findIn S.K (.ref C) name=some (some (.ref f)))(ht:typeIn S.K (.ref f)=some (.type "function"))(hd:d<1000)
  (h:WFn S (d+1) (.ref f) [x,y] [] (fun v hp'=>∃b,v= .bool b∧P (.bool b) ⟨σ.loc,hp'⟩) no σ.hp):WO2 S d c (compareOp op) x y RelV P X σ:=fun A cl L ρ s hA CC x' y' rx ry Q E hQ hE=>by
 refine CC.toCorrH.instE hx rx fun a m I _ rx=>?_
 refine CC.toCorrH.instE hy ry fun a2 m2 I2 _ ry=>?_
 obtain⟨dx,od,I',_⟩:=I.at;obtain⟨dx2,od2,I2',_⟩:=I2.at;have X':=S.X.keeps CC.keep;refine hr _ _ _ _ _ _ _ ?_;unfold richCompare;refine wpAny_holding (wpAny_bind (wpAny_cRoomFor (JK hA hd) ?_));rw[h1];simp only[hop];refine wpAny_bind ((oI I'.at_ I'.cls).here ?_);refine wpAny_bind ((oI I2'.at_ I2'.cls).here ?_);haveI e:((Value.ref C !=Value.ref C)=true)=False:=by simp
 simp only[e,if_false];refine wpAny_bind (wpAny_pure ?_);simp only[Bool.false_eq_true,if_false];refine wpAny_bind ?_;unfold tryCompare callSpecialIfBound? bindSpecialIfBound?;refine wpAny_bind (wpAny_holding (wpAny_bind (wpAny_bind ?_)));unfold specialOf;refine wpAny_bind ((oI I'.at_ I'.cls).here ((looks_findIn X' hf).here ?_));haveI go:wpAny S.M A (call (.ref f) ([.ref a]++[.ref a2])) (fun v s1=>∃b,v= .bool b∧Q (.bool b) s1) E s:=by
  refine wpAny_call ?_;refine h A ρ s hA.up CC.toCorrH [.ref a,.ref a2] [] (.cons rx (.cons ry .nil)) .nil _ (fun w w' hp' ρ' s' p T C2 r=>?_) (fun _ _ _ _ _ x=>x.elim);obtain⟨b,rfl,p⟩:=p;obtain rfl:=r.bool_inv;exact⟨b,rfl,hQ (.bool b) (.bool b) ⟨σ.loc,hp'⟩ ρ' s' p T.wide (CC.hmove T C2) r⟩
 refine wpAny_bind (wpAny_askSetting (wpAny_ite ?_));haveI fin:∀Q',(∀b s1,Q (.bool b) s1→Q' (some (.bool b)) s1)→wpAny S.M A (call (.ref f) ([.ref a]++[.ref a2])>>=fun v=>pure (some v)) Q' E s:=fun Q' hq=>by
  refine wpAny_bind (wpAny_mono go (fun v s1 hv=>?_) fun _ _ x=>x);obtain⟨b,rfl,q⟩:=hv;exact wpAny_pure (hq b s1 q)
 split
 ·exact wpAny_bind ((bind_fn X' _ ht).here (wpAny_pure (fin _ fun b s1 q=>wpAny_pure (wpAny_pure q))))
 ·exact wpAny_tryCatch (wpAny_bind ((bind_fn X' _ ht).here (wpAny_pure (fin _ fun b s1 q=>wpAny_pure (wpAny_pure q)))))
noncomputable abbrev Tm(P:PV)(lo:List (Option V))(v:V)(hp':List ai):Prop:=∃b,v= .bool b∧P (.bool b) ⟨lo,hp'⟩
theorem Tn {x y:V}{C f:Addr}{fs gs:List (Str×V)}{P:PV}{lo:List (Option V)}{hp:List ai}(hf:findIn S.K (.ref C) "__lt__" =some (some (.ref f)))(ht:typeIn S.K (.ref f)=some (.type "function"))(hx:ck hp x C fs)(hy:ck hp y C gs)(hd:d<1000)
  (h:WFn S (d+1) (.ref f) [x,y] [] (Tm P lo) no hp):WO2 S d c (compareOp .Lt) x y RelV P X ⟨lo,hp⟩:=PI (σ:=⟨lo,hp⟩) (fun _ _ _ _ _ _ _ h=>h) rfl (fun _ _=>rfl) hx hy hf ht hd h
end
noncomputable def ltI:List Int→List Int→Bool
 |[],[]=>false
 |[],_::_=>true
 |_::_,[]=>false
 |a::x,b::y=>if a=b then ltI x y else decide (a<b)
noncomputable def kZ(op:CmpOp)(x y:List Int):Bool:=match op with
 | .Lt=>ltI x y
 |_=>ltI y x
theorem EU(h:op= .Lt∨op= .Gt):kZ op (a::x) (b::y)=if a=b then kZ op x y else(match op with| .Lt=>decide (a<b)|_=>decide (b<a)):=by
 rcases h with rfl|rfl
 ·rfl
 ·show(if b=a then _ else _)=_
  by_cases q:a=b
  ·rw[if_pos q,if_pos q.symm];rfl
  ·rw[if_neg q,if_neg (Ne.symm q)]
theorem Kf(h:op= .Lt∨op= .Gt)(hn:n=x.length)(hm:m=y.length)(e:x=[]∨y=[]):Builtin.Tuple.tupleCompareSizes op n m= .bool (kZ op x y):=by
 subst hn hm;rcases h with rfl|rfl<;>rcases e with rfl|rfl
 ·cases y<;>simp[Builtin.Tuple.tupleCompareSizes,kZ,ltI]
 ·cases x<;>simp[Builtin.Tuple.tupleCompareSizes,kZ,ltI]
 ·cases y<;>simp[Builtin.Tuple.tupleCompareSizes,kZ,ltI]
 ·cases x<;>simp[Builtin.Tuple.tupleCompareSizes,kZ,ltI]
theorem xF(h:op= .Lt∨op= .Gt)(q:Q (.bool (match op with| .Lt=>decide (a<b)|_=>decide (b<a))) s):wpAny (model prog w) A (richCompare op (.int a t) (.int b u)) Q E s:=by
 rcases h with rfl|rfl
 ·exact lt_int q
 ·exact gt_int q
noncomputable def EV(op:CmpOp):Builtin:=fun args=>match op with
 | .Lt=>Builtin.«tuple.__lt__» args
 |_=>Builtin.«tuple.__gt__» args
inductive Vz(op:CmpOp)(x y:List Int)(xs ys:Array Value)(s:Shared)(rest:List (Value×Value))(r1:Option PySem.Fin)(s':Shared):Prop
 |mk (h0:r1=none) (h1:s'=s) (x' y':List Int) (xs' ys':List Value) (h2:rest=List.zip xs' ys') (h3:IntsAre xs' x') (h4:IntsAre ys' y') (h5:kZ op x' y'=kZ op x y) (h6:Builtin.Tuple.tupleCompareSizes op xs.size ys.size=Builtin.Tuple.tupleCompareSizes op x'.length y'.length)
theorem xG {prog:Program}{w:World}{A:Around}{E:Fin→Shared→Prop}{s:Shared}{E:PS}{op:CmpOp}(ho:op= .Lt∨op= .Gt){a b:Addr}{oa ob:Obj}{xs ys:Array Value}{na nb:Nat}{x y:List Int}{P:Fin→Shared→Prop}
  (hTb:s.TypeIs (.ref b) "tuple")(hoa:s.heap.get? a=some oa)(hda:oa.data= .seq xs na)(hob:s.heap.get? b=some ob)(hdb:ob.data= .seq ys nb)(hia:IntsAre xs.toList x)(hib:IntsAre ys.toList y)(h:P (.done (.ret (.bool (kZ op x y)))) s):
  wpAny (model prog w) A (EV op ⟨[.ref a,.ref b],[]⟩) P E s:=by
 haveI hsz:xs.size=x.length∧ys.size=y.length:=by
  haveI len:∀{l:List Value} {m:List Int},IntsAre l m→l.length=m.length:=fun h=>by
   induction h with
   |nil=>rfl
   |cons _ _ _ ih=>simp[ih]
  exact⟨by rw[←len hia];simp,by rw[←len hib];simp⟩
 haveI main:wpAny (model prog w) A (isInstance (.ref b) (.type "tuple")>>=fun k=>(if(!k)=true then ret .notImplemented else do
   let xs←Builtin.Tuple.tupleItemsOf (.ref a);let ys←Builtin.Tuple.tupleItemsOf (.ref b)
   for (x,y)in xs.toList.zip ys.toList do
    if !(←eqBool x y)then
     match op with
     | .Eq=>return←ret (.bool false)
     | .NotEq=>return←ret (.bool true)
     |_=>rule "tuple.compare.by-the-first-pair-that-differs";return←ret (←richCompare op x y)
   ret (Builtin.Tuple.tupleCompareSizes op xs.size ys.size):Sem Fin)) P E s:=by
  refine wpAny_bind (wpAny_isInstance hTb isSubtype_tuple_tuple ?_);simp only[Bool.not_true,Bool.false_eq_true,if_false];refine wpAny_bind (wpAny_tupleItemsOf hoa hda ?_);refine wpAny_bind (wpAny_tupleItemsOf hob hdb ?_);refine wpAny_bind ?_;refine Gl
   (fun rest r s'=>Vz op x y xs ys s rest r.1 s')
   (fun r s'=>s'=s∧r.1=some (.done (.ret (.bool (kZ op x y))))) (fun f hf Q' E' p rest r s' hy hd hI=>?_) ?_ ?_ ⟨rfl,rfl,x,y,xs.toList,ys.toList,rfl,hia,hib,rfl,by rw[hsz.1,hsz.2]⟩
  ·haveI u:=(p).1;haveI v:=(p).2;obtain⟨hr,rfl,x',y',xs',ys',hz,hx',hy',hord,hlen⟩:=hI;cases hx' with
   |nil=>simp at hz
   | @cons k1 t1 xs'' x'' hx''=>
    cases hy' with
    |nil=>simp at hz
    | @cons k2 t2 ys'' y'' hy''=>
     simp only[List.zip_cons_cons,List.cons.injEq,Prod.mk.injEq]at hz;obtain⟨⟨rfl,rfl⟩,rfl⟩:=hz;rw[hf];refine wpAny_bind (wpAny_eqBool_int ?_);rw[EU ho]at hord
     by_cases hk:k1=k2
     ·subst hk;rw[if_pos rfl]at hord;simp only[beq_self_eq_true,Bool.not_true,Bool.false_eq_true,if_false];refine wpAny_pure (hy _ _ ⟨rfl,rfl,x'',y'',xs'',ys'',rfl,hx'',hy'',hord,?_⟩);rw[hlen];rcases ho with rfl|rfl<;>simp[Builtin.Tuple.tupleCompareSizes]
     ·rw[if_neg hk]at hord;rw[beq_eq_false_iff_ne.mpr hk];simp only[Bool.not_false,if_true];rw[←hord]at hd;rcases ho with rfl|rfl
      ·exact wpAny_bind (wpAny_rule (wpAny_bind (xF (.inl rfl) (wpAny_bind (wpAny_pure (wpAny_pure (hd _ _ ⟨rfl,rfl⟩)))))))
      ·exact wpAny_bind (wpAny_rule (wpAny_bind (xF (.inr rfl) (wpAny_bind (wpAny_pure (wpAny_pure (hd _ _ ⟨rfl,rfl⟩)))))))
  ·rintro⟨r1,r2⟩ s' ⟨hr,rfl,x',y',xs',ys',hz,hx',hy',hord,hlen⟩
   simp only at hr;subst hr;refine wpAny_pure ?_;haveI e:x'=[]∨y'=[]:=by
    cases hx' with
    |nil=>exact .inl rfl
    |cons _ _ _=>
     cases hy' with
     |nil=>exact .inr rfl
     |cons _ _ _=>simp at hz
   show P (.done (.ret (Builtin.Tuple.tupleCompareSizes op xs.size ys.size))) s';rw[hlen,Kf ho rfl rfl e,hord];exact h
  ·rintro⟨r1,r2⟩ s' ⟨rfl,rfl⟩
   exact wpAny_pure h
 rcases ho with rfl|rfl<;>exact main
section
variable {S:Sta} {d:Nat} {c:FC} {X:PX} {σ:St}
theorem aj.ints {ρ:Pl}{n:Nat}{h:Heap}{ns:List Int}{xs:List Value}(r:aj ρ n h (ns.map .int) xs):IntsAre xs ns:=by
 induction ns generalizing xs with
 |nil=>exact r.nilE .nil
 |cons k ns ih=>exact r.consE fun _ _ a b=>a.intE fun t=> .cons k t (ih b)
theorem PJ {op:CmpOp}{id:String}{xs ys:List Int}{P:PV}(hr:∀M A E a b Q s,wpAny M A (richCompare op a b) Q E s→wpAny M A (compareOp op a b) Q E s)(ho:op= .Lt∨op= .Gt)(slot:Slot "tuple" (cmpInfo op).2.1 id)(entry:entryFor table id=some (EV op))(args:∀a b,argsOk id ⟨[a,b],[]⟩)(hd:d<1000)(h:P (.bool (kZ op xs ys)) σ):
  WO2 S d c (compareOp op) (.tup (xs.map .int)) (.tup (ys.map .int)) RelV P X σ:=fun A cl L ρ s hA C x' y' hx hy Q E hQ hE=>by
 refine hx.tupE fun a as qq0 r1=>?_
 obtain⟨k1,e1⟩:=qq0;refine hy.tupE fun b bs qq0 r2=>?_
 obtain⟨k2,e2⟩:=qq0;refine hr _ _ _ _ _ _ _ ?_;refine wpAny_richCompare_same_room (op:=op) (T:="tuple") ⟨_,e1,rfl⟩ ⟨_,e2,rfl⟩ slot (wpAny_call_entry slot ⟨_,e1,rfl⟩ entry (xG (E:=fun _ _=>False) ho ⟨_,e2,rfl⟩ e1 rfl e2 rfl r1.ints r2.ints ⟨_,rfl,(fun e=>nomatch e),?_⟩) (args _ _)) (JK hA hd);exact hQ _ _ σ ρ s h (.refl ..) C (.bool _)
theorem To(hd:d<1000)(h:P (.bool (ltI xs ys)) σ):WO2 S d c (compareOp .Lt) (.tup (xs.map .int)) (.tup (ys.map .int)) RelV P X σ:=
 PJ (fun _ _ _ _ _ _ _ h=>h) (.inl rfl) F.slot_tuple_lt F.entry_tuple_lt F.args_tuple_lt_2 hd h
end
noncomputable def qY:List String:=["enumerate","zip","dict_itemiterator","dict_reverseitemiterator","odict_iterator","itertools.zip_longest","itertools.pairwise"]
theorem Hd(e:s.heap.get? it=some o)(hc:o.cls= .type n)(hn:qY.contains n=false)(q:Q () s):wpAny M A (letOwnedTupleGo target (.ref it) v) Q E s:=by
 have go:∀a:Addr,wpAny M A (do
   let o←load it
   match o.cls,o.data with
   | .type n,.fields vs=>
    if qY.contains n&&vs[0]?==some (rawInt a)then
     rule "for.unpacks-the-owned-tuple"
     updateField it 0 .none
   |_,_=>pure ()) Q E s:=fun a=>by
  refine wpAny_bind (wpAny_load e ?_);rw[hc];cases o.data<;>first|exact wpAny_pure q|skip
  dsimp only;rw[hn];exact wpAny_pure q
 unfold letOwnedTupleGo;cases target<;>first|exact wpAny_pure q|skip
 all_goals (cases v<;>first|exact go _|exact wpAny_pure q)
section
variable (prog:Program) (w:World) (A:Around) (R:PR) (I:Nat→Shared→Prop) (n:Nat) (elt:Ex) (acc:Value) (env:Env)
noncomputable def tE:Value→Shared→Prop:=notedBy (model prog w) A env fun e s'=>R (.error e) s'
noncomputable def t5(_:Value)(s₅:Shared):Prop:=∃m,m<n∧I m s₅
noncomputable def t4(x:Value)(s₄:Shared):Prop:=wpAny (model prog w) A (call (.builtin "list.append") [acc,x]) (t5 I n) (tE prog w A R env) s₄
noncomputable def t3(ok:Bool)(s₃:Shared):Prop:=if ok=true then wpAny (model prog w) A (eval elt env) (t4 prog w A R I n acc env) (tE prog w A R env) s₃ else∃m,m<n∧I m s₃
noncomputable def t2(ifs:List Ex)(_:Unit)(s₂:Shared):Prop:=wpAny (model prog w) A (forIn ifs true fun c r=>if r=true then do let ok←isTrue c env (eval c env);pure (ForInStep.yield ok)else pure (ForInStep.yield r)) (t3 prog w A R I n elt acc env) (tE prog w A R env) s₂
noncomputable def t1(ifs:List Ex)(target:Ex)(v:Value)(_:Unit)(s₀:Shared):Prop:=wpAny (model prog w) A (assign target env v) (t2 prog w A R I n elt acc env ifs) (tE prog w A R env) s₀
noncomputable def t0(ifs:List Ex)(target:Ex)(it:Value)(r:Option Value)(s₁:Shared):Prop:=match r with
 |none=>R (.ok .next) s₁
 |some v=>wpAny (model prog w) A (letOwnedTupleGo target it v) (t1 prog w A R I n elt acc env ifs target v) (tE prog w A R env) s₁
end
theorem t3F(h:∃m,m<n∧I m s):t3 prog w A R I n elt acc env false s:=h
theorem t3T(h:wpAny (model prog w) A (eval elt env) (t4 prog w A R I n acc env) (tE prog w A R env) s):t3 prog w A R I n elt acc env true s:=h
theorem Cn(I:Nat→Shared→Prop)
  (turn:∀n s,I n s→wpAny (model prog w) A (pyNext it) (t0 prog w A R I n elt acc env ifs target it) (tE prog w A R env) s)
  (n:Nat)(h:I n s):codeAny (model prog w) A (.compLoop (.ListComp elt [⟨target,iter,ifs,0⟩] scope pos) 0 it acc env) R s:=by
 refine codeAny_loop rfl I (fun n s hI=>?_) n h;show wpAny _ A ((compTurn (.ListComp elt [⟨target,iter,ifs,0⟩] scope pos) 0 it acc env).onRaise (fun x=>do noteFrame x env;theTreesLotGoes x)) _ _ s;refine wpAny_noted ?_;rw[compTurn_list];refine wpAny_bind (wpAny_standAt (wpAny_bind (wpAny_mono (turn n s hI) (fun r s₁ h₁=>?_) fun _ _ h'=>h')));cases r with
 |none=>exact wpAny_pure h₁
 |some v=>
  refine wpAny_bind (wpAny_mono h₁ (fun _ s₀ h₀=>?_) fun _ _ h'=>h');refine wpAny_bind (wpAny_mono h₀ (fun _ s₂ h₂=>wpAny_bind (wpAny_mono h₂ (fun ok s₃ h₃=>?_) fun _ _ h'=>h')) fun _ _ h'=>h');cases ok with
  |false=>exact wpAny_pure ⟨rfl,h₃⟩
  |true=>
   exact wpAny_bind (wpAny_bind (wpAny_mono h₃ (fun x s₄ h₄=>wpAny_bind (wpAny_mono h₄ (fun _ s₅ h₅=>wpAny_pure (wpAny_pure ⟨rfl,h₅⟩)) fun _ _ h'=>h')) fun _ _ h'=>h'))
section
variable {S:Sta} {d:Nat} {c:FC} {X:PX} {σ:St}
noncomputable def k7(S:Sta)(d:Nat)(c:FC)(ifs:List Ex)(P:Bool→St→Prop)(σ:St):Prop:=match ifs with
 |[]=>P true σ
 |[t]=>WB S d c t P no σ
 |_=>False
theorem k7.use(h:k7 S d c ifs P σ)(hA:AOk A d)(C:aG S c cl L ρ σ s)(T₀:ah [L] ρ₀ hp₀ s₀ ρ σ.hp s)
  (hQ:∀b σ' ρ' s',P b σ'→ah [L] ρ₀ hp₀ s₀ ρ' σ'.hp s'→ah [L] ρ σ.hp s ρ' σ'.hp s'→aG S c cl L ρ' σ' s'→Q b s'):
  wpAny S.M A (forIn ifs true fun t r=>if r=true then do let ok←isTrue t (c.env cl L a) (eval t (c.env cl L a));pure (ForInStep.yield ok)else pure (ForInStep.yield r)) Q E s:=by
 match ifs,h with
 |[],h=>exact wpAny_tests_nil (hQ true σ ρ s h T₀ (.refl ..) C)
 |[t],h=>
  haveI h':WB S d c t P no σ:=h;exact wpAny_tests_one (WT.use h' hA C T₀ (fun _ _ _ _ _ x=>x.elim) fun b b' σ1 ρ1 s1 h1 T1 U1 C1 r1=>by cases r1;exact hQ b σ1 ρ1 s1 h1 T1 U1 C1)
noncomputable def gp(S:Sta)(d:Nat)(c:FC)(target:Ex)(ifs:List Ex)(elt:Ex)(G:List ai→Prop)(P:List V→St→Prop):List V→List V→St→Prop
 |[],ws,σ=>P ws σ
 |v::vs,ws,σ=>WA S d c target v (fun σ1=>k7 S d c ifs (fun b σ2=>(b=true→WEx S d c elt (fun w σ3=>G σ3.hp∧gp S d c target ifs elt G P vs (ws++[w]) σ3) no σ2)∧(b=false→G σ2.hp∧gp S d c target ifs elt G P vs ws σ2)) σ1) no σ
noncomputable def Quiet(S:Sta)(it:Addr)(At:Nat→Pl→Nat→Heap→Prop):Prop:=∀k ρ n (s2:Shared),At k ρ n s2.heap→(∃o2 T,s2.heap.get? it=some o2∧o2.cls= .type T∧qY.contains T=false)∧∀A Q E,Q (.ref it) s2→wpAny S.M A (pyIter (.ref it)) Q E s2
inductive Tp(S:Sta)(d:Nat)(c:FC)(target:Ex)(ifs:List Ex)(elt:Ex)(G:List ai→Prop)(P:List V→St→Prop)(At:Nat→Pl→Nat→Heap→Prop)(L:Addr)(cl:List (Str×Addr))(it D:Addr)(ρ₀:Pl)(hp₀:List ai)(s₀:Shared)(vs:List V)(n:Nat)(s':Shared):Prop
 |mk (k:Nat) (σ':St) (ρ':Pl) (ws:List V) (ys:Array Value) (h0:n+k=vs.length) (h1:ws.length≤k) (h2:gp S d c target ifs elt G P (vs.drop k) ws σ') (h3:G σ'.hp) (h4:At k ρ' σ'.hp.length s'.heap) (h5:ah [L] ρ₀ hp₀ s₀ ρ' σ'.hp s') (h6:aG S c cl L ρ' σ' s') (h7:Own S L ρ' σ'.hp.length s'.heap it) (h8:Own S L ρ' σ'.hp.length s'.heap D) (h9:s'.heap.PlainList D ys) (h10:aj ρ' σ'.hp.length s'.heap ws ys.toList)
theorem EW
  (hA:AOk A d)(J:si S it vs G At)(hq:Quiet S it At)(hit:s₀.heap.get? it=none)(hD:s₀.heap.get? D=none)(hne:it≠D)(hz:vs.length≤100000)(T₀:ah [L] ρ₀ hp₀ s₀ ρ σ.hp s)(C:aG S c cl L ρ σ s)(O:Own S L ρ σ.hp.length s.heap it)(OD:Own S L ρ σ.hp.length s.heap D)(hl:s.heap.PlainList D #[])(hG:G σ.hp)(hAt:At 0 ρ σ.hp.length s.heap)
  (h:gp S d c target ifs elt G P vs [] σ)
  (hR:∀ws σ' ρ' s' ys,P ws σ'→ah [L] ρ₀ hp₀ s₀ ρ' σ'.hp s'→aG S c cl L ρ' σ' s'→Own S L ρ' σ'.hp.length s'.heap D→s'.heap.PlainList D ys→aj ρ' σ'.hp.length s'.heap ws ys.toList→R (.ok .next) s'):
  codeAny S.M A (.compLoop (.ListComp elt [⟨target,iter,ifs,0⟩] scope pos) 0 (.ref it) (.ref D) (c.env cl L a)) R s:=by
 suffices key:∀I:Nat→Shared→Prop,(∀n s',I n s'↔Tp S d c target ifs elt G P At L cl it D ρ₀ hp₀ s₀ vs n s')→codeAny S.M A (.compLoop (.ListComp elt [⟨target,iter,ifs,0⟩] scope pos) 0 (.ref it) (.ref D) (c.env cl L a)) R s from key _ fun _ _=>Iff.rfl
 intro I hI;refine Cn I ?_ vs.length ((hI _ _).mpr ⟨0,σ,ρ,[],#[],rfl,nRe _,h,hG,hAt,T₀,C,O,OD,hl,.nil⟩);intro n s1 hh;obtain⟨k,σ1,ρ1,ws,ys,hn,hwk,hW,hg,hat,T1,C1,O1,OD1,hl1,hr1⟩:=(hI _ _).mp hh;have hmv:∀h',(∀b o,b≠it→s1.heap.get? b=some o→h'.get? b=some o)→cL ρ1 ρ1 σ1.hp.length σ1.hp.length s1.heap h':=fun h' hk=>O1.moves (s':={s1 with heap:=h'}) C1.toCorrH hk
 by_cases hk:k<vs.length
 ·have hv:vs[k]?=some vs[k]:=lGe hk;rw[List.drop_eq_getElem_cons hk]at hW;refine J.next k σ1.hp ρ1 s1 A _ hA.handled hg C1.toCorrH hat hmv hv _ _ fun v' h' tk hr hkp hat'=>?_
  have ob':=J.obj _ _ _ _ hat';have C2:aG S c cl L ρ1 σ1 {s1 with heap:=h',toks:=tk}:=C1.behind (s':={s1 with heap:=h',toks:=tk}) O1 (fun b o hb e=>hkp b o hb e) C1.gens rfl;have T2:ah [L] ρ₀ hp₀ s₀ ρ1 σ1.hp {s1 with heap:=h',toks:=tk}:=T1.behind hit (fun b o hb e=>hkp b o hb e);have O2:Own S L ρ1 σ1.hp.length h' it:=O1.at ob';obtain⟨oD,eD,nD⟩:=OD1.obj;have OD2:Own S L ρ1 σ1.hp.length h' D:=OD1.at ⟨oD,hkp D oD (Ne.symm hne) eD,nD⟩;have hl2:h'.PlainList D ys:=hl1.at fun o e=>hkp D o (Ne.symm hne) e
  haveI hrs2:=hr1.move (hmv h' hkp);haveI hr2:RelV ρ1 σ1.hp.length h' vs[k] v':=hr.move (hmv h' hkp);obtain⟨o2,Ty,q1,q2,q3⟩:=(hq _ _ _ {s1 with heap:=h',toks:=tk} hat').1;refine Hd q1 q2 q3 ?_;refine WV.use hW hA C2 hr2 T2 (fun _ _ _ _ _ x=>x.elim) fun _ _ σ3 ρ3 s3 h3 T3 U3 C3 _=>?_
  have nit:it∉[L]:=fun q=>by cases q with|head=>exact O1.loc rfl|tail _ q=>cases q
  have nD':D∉[L]:=fun q=>by cases q with|head=>exact OD1.loc rfl|tail _ q=>cases q
  refine k7.use h3 hA C3 T3 fun b σ4 ρ4 s4 h4 T4 U4 C4=>?_
  have U:=U3.trans U4;haveI O4:=(Own.step (s:={s1 with heap:=h',toks:=tk}) O2 U nit).1;haveI k4:=(Own.step (s:={s1 with heap:=h',toks:=tk}) O2 U nit).2;haveI OD4:=(Own.step (s:={s1 with heap:=h',toks:=tk}) OD2 U nD').1;haveI kD4:=(Own.step (s:={s1 with heap:=h',toks:=tk}) OD2 U nD').2;have A4:=J.stay _ _ _ _ _ _ _ hat' (U.moves C2.toCorrH C2.nsAll) k4;have hl4:s4.heap.PlainList D ys:=hl2.at fun o e=>kD4 o e
  have hrs4:=hrs2.step C2.toCorrH C2.nsAll U;cases b with
  |false=>
   haveI g4:=(h4.2 rfl).1;haveI w4:=(h4.2 rfl).2;exact t3F ⟨n-1,fj2 (Y1 X0 X1) [Y2 (.i X0) X1] rfl (sac n 1 (fj3 (Y0 (.k 1) X0) [Y2 X1 (.a X0 X2),Y1 X2 X1] rfl hn.symm hk)),(hI _ _).mpr ⟨k+1,σ4,ρ4,ws,ys,nAs (fj4 (Y0 (.a X0 (.i X1)) X2) [Y2 (.a X3 X1) X2,Y2 (.i X0) X3] rfl hn (sac n 1 (fj3 (Y0 (.k 1) X0) [Y2 X1 (.a X0 X2),Y1 X2 X1] rfl hn.symm hk))) (fj4 (Y0 X0 (.a X1 (.i X2))) [Y2 X0 (.a X3 X2),Y0 X3 (.i X1)] rfl hn.symm (lsa n 1)),fj2 (Y0 X0 (.i X1)) [Y0 X0 X1] rfl hwk,w4,g4,A4,T4,C4,O4,OD4,hl4,hrs4⟩⟩
  |true=>
   refine t3T ?_;refine WT.use (h4.1 rfl) hA C4 T4 (fun _ _ _ _ _ x=>x.elim) fun w w' σ5 ρ5 s5 h5 T5 U5 C5 r5=>?_
   haveI g5:=(h5).1;haveI w5:=(h5).2;haveI O5:=(Own.step O4 U5 nit).1;haveI k5:=(Own.step O4 U5 nit).2;obtain⟨OD5,kD5⟩:=Own.step OD4 U5 nD';haveI A5:=J.stay _ _ _ _ _ _ _ A4 (U5.moves C4.toCorrH C4.nsAll) k5;haveI hl5:s5.heap.PlainList D ys:=hl4.at fun o e=>kD5 o e
   haveI hrs5:=hrs4.step C4.toCorrH C4.nsAll U5;refine PySem.wpAny_list_append_plain hl5 (fun h6 hl6 hs6=>?_) (by have:=hrs5.length;rw[←aTl,this,szl];exact fj4 (Y0 X0 (.k 16777216)) [Y0 X1 (.k 100000),Y2 (.a X2 X3) X1,Y0 X0 X3] rfl hz hn hwk);have hk6:∀b o,b≠D→s5.heap.get? b=some o→h6.get? b=some o:=fun b o hb e=>(hs6.2 b hb).trans e
   haveI C6:aG S c cl L ρ5 σ5 {s5 with heap:=h6}:=C5.behind (s':={s5 with heap:=h6}) OD5 hk6 C5.gens rfl;haveI T6:ah [L] ρ₀ hp₀ s₀ ρ5 σ5.hp {s5 with heap:=h6}:=T5.behind hD hk6;have M6:=OD5.moves (s':={s5 with heap:=h6}) C5.toCorrH hk6;obtain⟨nD6,e6⟩:=hl6;obtain⟨oi,ei,ni⟩:=O5.obj;refine⟨n-1,fj2 (Y1 X0 X1) [Y2 (.i X0) X1] rfl (sac n 1 (fj3 (Y0 (.k 1) X0) [Y2 X1 (.a X0 X2),Y1 X2 X1] rfl hn.symm hk)),(hI _ _).mpr ⟨k+1,σ5,ρ5,ws++[w],ys.push w',nAs (fj4 (Y0 (.a X0 (.i X1)) X2) [Y2 (.a X3 X1) X2,Y2 (.i X0) X3] rfl hn (sac n 1 (fj3 (Y0 (.k 1) X0) [Y2 X1 (.a X0 X2),Y1 X2 X1] rfl hn.symm hk))) (fj4 (Y0 X0 (.a X1 (.i X2))) [Y2 X0 (.a X3 X2),Y0 X3 (.i X1)] rfl hn.symm (lsa n 1)),by rw[lAp];show _+1≤_;exact fj2 (Y0 (.i X0) (.i X1)) [Y0 X0 X1] rfl hwk,w5,g5,?_,T6,C6,O5.at ⟨oi,hk6 it oi hne ei,ni⟩,OD5.at ⟨_,e6,dg rfl (by decide)⟩,⟨nD6,e6⟩,?_⟩⟩
   ·exact J.stay _ _ _ _ _ _ _ A5 M6 fun o e=>hk6 it o hne e
   ·rw[Array.toList_push];exact(hrs5.move M6).append (.cons (r5.move M6) .nil)
 ·haveI hkl:k=vs.length:=nAs (fj3 (Y0 X0 X1) [Y2 (.a X2 X0) X1] rfl hn) ((nNl hk));subst hkl;rw[List.drop_length]at hW;refine J.stop σ1.hp ρ1 s1 A hA.handled hg C1.toCorrH hat _ _ fun h' tk hkp=>?_
  haveI C2:aG S c cl L ρ1 σ1 {s1 with heap:=h',toks:=tk}:=C1.behind (s':={s1 with heap:=h',toks:=tk}) O1 (fun b o hb e=>hkp b o hb e) C1.gens rfl;haveI T2:ah [L] ρ₀ hp₀ s₀ ρ1 σ1.hp {s1 with heap:=h',toks:=tk}:=T1.behind hit (fun b o hb e=>hkp b o hb e);obtain⟨oD,eD,nD⟩:=OD1.obj;exact hR ws σ1 ρ1 _ ys hW T2 C2 (OD1.at ⟨oD,hkp D oD (Ne.symm hne) eD,nD⟩) (hl1.at fun o e=>hkp D o (Ne.symm hne) e) (hr1.move (hmv h' hkp))
end
noncomputable def qZ:NameKind→Bool
 | .free=>true
 |_=>false
theorem tH(k:NameKind):(k== .free)=qZ k:=by cases k<;>rfl
noncomputable def fT:List (Str×NameKind)→List Str
 |[]=>[]
 |(n,k)::r=>if qZ k=true then n::fT r else fT r
theorem sr:fT ((n,k)::r)=if qZ k=true then n::fT r else fT r:=rfl
theorem oJ(adr:Str→Addr):∀(l:List (Str×NameKind)) (cs:List (Str×Addr)),(∀n∈fT l,env.cells.lookup n=some (adr n))→
  (forIn l cs (fun x cs=>match x with|(name,kind)=>if(kind== .free)=true then do let a←cellOf env name;pure (ForInStep.yield ((name,a)::cs))else pure (ForInStep.yield cs)):Sem (List (Str×Addr)))=pure (((fT l).reverse.map fun n=>(n,adr n))++cs)
 |[],cs,_=>rfl
 |(n,k)::r,cs,h=>by
  rw[List.forIn_cons];rw[sr];cases e:qZ k with
  |true=>
   have ek:(k==NameKind.free)=true:=by rw[tH,e]
   have h':=h;rw[sr]at h';rw[e,if_pos rfl]at h';haveI hn:env.cells.lookup n=some (adr n):=h' n (.head _);dsimp only;rw[if_pos ek,if_pos rfl];unfold cellOf;rw[hn];have:=oJ adr r ((n,adr n)::cs) fun m hm=>h' m (.tail _ hm)
   rw[List.reverse_cons,lMp,List.append_assoc];exact this
  |false=>
   haveI ek:¬(k==NameKind.free)=true:=by rw[tH,e];decide
   have h':=h;rw[sr]at h';rw[e]at h';dsimp only;rw[if_neg ek,if_neg (by decide)];exact oJ adr r cs fun m hm=>h' m (by simpa using hm)
theorem Cp(adr:Str→Addr)(h:∀n∈fT sc.names,env.cells.lookup n=some (adr n)):closureFor sc env=pure ((fT sc.names).reverse.map fun n=>(n,adr n)):=by
 have:=oJ adr sc.names [] h;rw[List.append_nil]at this;unfold closureFor;exact congrArg (·>>=pure) this
noncomputable def FC.sub(c:FC)(sc:Scope)(cel:List (Str×Nat)):FC:={qual:=c.qual,scope:=relabel sc (c.env [] 0 0),code:=c.code,fn:=c.fn,cel:=cel,inner:=true}
noncomputable def Kg:NameKind→Bool
 | .cell=>true
 |_=>false
noncomputable def rd(l:List (Str×Nat))(x:Str):Option Nat:=match l with
 |[]=>none
 |(y,i)::r=>if kX x y=true then some i else rd r x
theorem ss:∀{l:List (Str×Nat)},rd l x=l.lookup x
 |[]=>rfl
 |(y,i)::r=>by
  show(if kX x y=true then some i else rd r x)=_;rw[lLc,nr,ss];cases(x==y)<;>rfl
structure gO(c:FC)(sc:Scope)(cel:List (Str×Nat)):Prop where
 kind:sc.kind= .function
 cell:∀x∈sc.names,x.2≠.cell
 names:∀x∈sc.names,x.2= .local→sc.names.lookup x.1=some .local
 free:∀n∈fT sc.names,∃i,c.cel.lookup n=some i
 sub:∀n i,cel.lookup n=some i→n∈fT sc.names∧c.cel.lookup n=some i
theorem Cq {ns:List Str}{adr:Str→Addr}{x:Str}(h:x∈ns):(ns.map fun n=>(n,adr n)).lookup x=some (adr x):=by
 induction ns with
 |nil=>cases h
 |cons y r ih=>
  rw[List.map_cons,lLc]
  by_cases q:x=y
  ·subst q;simp
  ·rw[beq_eq_false_iff_ne.mpr q];cases h with
   |head=>exact absurd rfl q
   |tail _ h=>exact ih h
section
variable {S:Sta} {d:Nat} {c:FC} {X:PX} {σ:St}
noncomputable def Itr(S:Sta)(hp:List ai)(v:V)(vs:List V)(G:List ai→Prop):Prop:=
 G hp∧∀ρ s v',CorrH S ρ hp s→RelV ρ hp.length s.heap v v'→∃o At,o.isFreed=false∧g8 o∧si S s.heap.objs.size vs G At∧Quiet S s.heap.objs.size At∧At 0 ρ hp.length (s.heap.push o)∧
  ∀A Q E,Q (.ref s.heap.objs.size) {s with heap:=s.heap.push o}→wpAny S.M A (pyIter v') Q E s
theorem CorrH.more(C:CorrH S ρ' hp' s')(T:ah l ρ hp s ρ' hp' s')(hD:s.heap.get? D=none)(hf:iN ρ' hp'.length D)(hs:(s'.heap.get? D).isSome=true):CorrH S (ρ'.more (·=D)) hp' s'∧ah l ρ hp s (ρ'.more (·=D)) hp' s':=
 ⟨⟨C.keep,fun i o e=>(C.objs i o e).move (gL fun _ _ e=>e) (fun _ e=>e) (fun _ e=>e),C.fresh,C.inj,C.gens,C.os,fun b h=>by
  rcases h with h|rfl
  ·exact C.fz b h
  ·exact⟨hf,hs⟩,fun t ht=>(C.tab t ht).move (fun _ e=>e) fun c hc=>⟨.inl hc,fun _ e=>e⟩⟩,T.ext,T.len,T.live,T.frame,T.news,fun b h=> .inl (T.fzk b h),fun b h=>by
  rcases h with h|rfl
  ·exact T.fzn b h
  ·exact .inr hD⟩
theorem tI {cl:List (Str×Addr)}{L a:Addr}{ρ:Pl}{s:Shared}{A:Around}{E:PS}{v:V}{v':Value}{vs:List V}{G:List ai→Prop}{target elt iter:Ex}{ifs:List Ex}{sc:Scope}{pos:Pos}{cel:List (Str×Nat)}{P:List V→St→Prop}{RR:Value→Addr→Result→Shared→Prop}{clo:List (Str×Addr)}
  (hA:AOk A d)(C:aG S c cl L ρ σ s)(rv:RelV ρ σ.hp.length s.heap v v')(hI:Itr S σ.hp v vs G)(hz:vs.length≤100000)(ok:gO c sc cel)(hclo:∀x i,cel.lookup x=some i→clo.lookup x=some (ρ.pl i).1)
  (h:gp S d (c.sub sc cel) target ifs elt G P vs [] ⟨List.replicate sc.names.length none,σ.hp⟩)
  (hRR:∀D B ws σ' ρ' s',P ws σ'→ah [] ρ σ.hp s ρ' σ'.hp s'→aG S c cl L ρ' ⟨σ.loc,σ'.hp⟩ s'→RelV ρ' σ'.hp.length s'.heap (.list ws) (.ref D)→(∃m,s'.heap.Ns B m)→Own S L ρ' σ'.hp.length s'.heap B→s.heap.get? B=none→RR (.ref D) B (.ok .next) s'):
  wpAny S.M A (pyIter v') (fun it s₂=>wpAny S.M A (newList []) (fun acc s₃=>wpAny S.M A (newFunctionEnv sc 3 clo [] c.qual none .none (some (c.env cl L a))) (fun cenv s₄=>
   codeAny S.M A (.compStart (.ListComp elt [⟨target,iter,ifs,0⟩] sc pos) 0 it acc {cenv with scope:=relabel sc (c.env cl L a)}) (RR acc cenv.locals) s₄) E s₃) E s₂) E s:=by
 haveI g0:=(hI).1;haveI hI:=(hI).2;obtain⟨o,At,hof,hot,J,hq,hat,hI⟩:=hI ρ s v' C.toCorrH rv;refine hI A _ _ (wpAny_newObj_type ?_);refine wpAny_newFunctionEnv (fun x hx=>ok.cell x hx) (by intro y hy;simp at hy) (fun h₁ hns₁ hsb₁=>?_) ok.kind;dsimp only at hns₁ hsb₁⊢;generalize hH1:s.heap.push o=H1 at hns₁ hsb₁ hat⊢;have sz1:H1.objs.size=s.heap.objs.size+1:=by rw[←hH1,Heap.size_push]
 generalize hH2:H1.push {cls:= .type "list",dict:=none,data:= .seq ([]:List Value).toArray}=H2 at hns₁ hsb₁⊢;have sz2:H2.objs.size=s.heap.objs.size+2:=by rw[←hH2,Heap.size_push,sz1]
 haveI hDI:s.heap.objs.size≠H1.objs.size:=by rw[sz1];exact(Nat.succ_ne_self _).symm
 have hDC:H1.objs.size≠H2.objs.size:=by rw[sz1,sz2];exact nNe (Nat.lt_succ_self _)
 haveI hIC:s.heap.objs.size≠H2.objs.size:=by rw[sz2];exact nNe (Nat.lt_succ_of_lt (Nat.lt_succ_self _))
 have nI:s.heap.get? s.heap.objs.size=none:=aq _ (nRe _);have nD:s.heap.get? H1.objs.size=none:=aq _ (by rw[sz1];exact Nat.le_succ _);have nC:s.heap.get? H2.objs.size=none:=aq _ (by rw[sz2];exact Nat.le_add_right _ _);have kH1:∀b ob,H1.get? b=some ob→h₁.get? b=some ob:=fun b ob e=>
  hsb₁.extBut b ob (fun q=>by
   have:=Heap.lt_size e;rw[q,sz2,sz1]at this;exact absurd this (Nat.not_lt.mpr (Nat.le_succ _))) (Heap.get?_push_of_some _ (hH2▸Heap.get?_push_of_some _ e))
 haveI old:∀b ob,s.heap.get? b=some ob→h₁.get? b=some ob:=fun b ob e=>kH1 b ob (hH1▸Heap.get?_push_of_some _ e)
 haveI gI:h₁.get? s.heap.objs.size=some o:=kH1 _ _ (hH1▸Heap.get?_push_size _ hof);haveI gD:h₁.PlainList H1.objs.size #[]:=⟨_,hsb₁.extBut _ _ hDC (Heap.get?_push_of_some _ (hH2▸Heap.get?_push_size _ rfl))⟩;haveI C4:=(C.toCorrH.grows (s':={s with heap:=h₁,toks:=s.toks+([]:List (Str×Value)).length}) (fun b ob e=>old b ob e) C.gens rfl).1;haveI T4:=(C.toCorrH.grows (s':={s with heap:=h₁,toks:=s.toks+([]:List (Str×Value)).length}) (fun b ob e=>old b ob e) C.gens rfl).2;haveI M4:=T4.moves C.toCorrH gH;haveI ME:cL ρ ρ σ.hp.length σ.hp.length H1 h₁:=⟨fun b xs ⟨k,e⟩=>⟨k,kH1 b _ e⟩,fun _ _=>rfl,nRe _,fun _ h=>h,fun b ob _ e=>kH1 b ob e⟩;haveI hat₁:At 0 ρ σ.hp.length h₁:=J.stay _ _ _ _ _ _ _ hat ME fun ob e=>kH1 _ ob e
 haveI envE:({newEnv sc H2.objs.size 3 clo c.qual none .none (some (c.env cl L a)) 0 with scope:=relabel sc (c.env cl L a)}:Env)=(c.sub sc cel).env clo H2.objs.size (bif c.inner then a else L):=rfl;haveI CI:aG S (c.sub sc cel) clo H2.objs.size ρ ⟨List.replicate sc.names.length none,σ.hp⟩ {s with heap:=h₁,toks:=s.toks+([]:List (Str×Value)).length}:=by
  refine⟨C4,⟨_,hns₁,fun x=>?_⟩,C.toCorrH.fresh_of nC,C.toCorrH.free_of nC,C.toCorrH.nfz_of nC,fun x i e=>?_,fun x b e=>by cases e⟩
  ·have:slot (c.sub sc cel) (List.replicate sc.names.length none) x=look [] x:=br.slot (.nil (by show _=List.replicate (List.map _ sc.names).length none;rw[lMa])) x;rw[this];exact trivial
  ·haveI e2:=(ok.sub x i e).2;exact⟨(C.cel x i e2).1,hclo x i e⟩
 haveI OI:Own S H2.objs.size ρ σ.hp.length h₁ s.heap.objs.size:=⟨⟨o,gI,hot⟩,C.toCorrH.free_of nI,C.toCorrH.fresh_of nI,Ne.symm hIC,C.toCorrH.nfz_of nI⟩;haveI OD:Own S H2.objs.size ρ σ.hp.length h₁ H1.objs.size:=⟨⟨_,gD.choose_spec,dg rfl (by decide)⟩,C.toCorrH.free_of nD,C.toCorrH.fresh_of nD,Ne.symm hDC,C.toCorrH.nfz_of nD⟩;haveI Tw:ah [H2.objs.size] ρ σ.hp s ρ σ.hp {s with heap:=h₁,toks:=s.toks+([]:List (Str×Value)).length}:=T4.weak fun b hb=>by cases hb
 haveI loop:codeAny S.M A (.compLoop (.ListComp elt [⟨target,iter,ifs,0⟩] sc pos) 0 (.ref s.heap.objs.size) (.ref H1.objs.size) ((c.sub sc cel).env clo H2.objs.size (bif c.inner then a else L))) (RR (.ref H1.objs.size) H2.objs.size) {s with heap:=h₁,toks:=s.toks+([]:List (Str×Value)).length}:=by
  refine EW (c:=c.sub sc cel) (σ:=⟨List.replicate sc.names.length none,σ.hp⟩) hA J hq nI nD hDI hz Tw CI OI OD gD g0 hat₁ h fun ws σ' ρ' s' ys p T' C' OD' hl' hr'=>?_
  haveI T2:=ah.leave (.refl ..) nC T';obtain⟨oD,eD,_⟩:=OD'.obj;haveI C3:=(C'.toCorrH.more T2 nD OD'.free (by rw[eD];rfl)).1;haveI T3:=(C'.toCorrH.more T2 nD OD'.free (by rw[eD];rfl)).2;haveI C5:=C.hmove T3 C3;obtain⟨m,hm,_⟩:=C'.ns;haveI hm':=hm;obtain⟨oB,es,ep,b1,b2,_⟩:=hm';obtain⟨mL,hmL,_⟩:=C.ns;obtain⟨oL,_,_,l1,_⟩:=hmL;refine hRR _ _ ws σ' _ s' p T3 C5 (.list (.inr rfl) hl' (hr'.move (gL fun _ _ e=>e))) ⟨m,hm⟩ ⟨⟨oB,b1,fun xs k _ hd=>by rw[b2]at hd;cases hd⟩,C'.free,C'.above,bF l1 nC,?_⟩ nC
  rintro(q|q)
  ·exact C'.nfz q
  ·exact hDC q.symm
 exact codeAny_compStart_list loop ((hq _ _ _ {s with heap:=h₁,toks:=s.toks+([]:List (Str×Value)).length} hat₁).2 A _ _ loop)
noncomputable def Cr(sc:Scope)(cl:List (Str×Addr)):List (Str×Addr):=(fT sc.names).reverse.map fun n=>(n,(cl.lookup n).getD 0)
theorem gO.clo(ok:gO c sc cel)(C:aG S c cl L ρ σ s):closureFor sc (c.env cl L a)=pure (Cr sc cl)∧∀x i,cel.lookup x=some i→(Cr sc cl).lookup x=some (ρ.pl i).1:=by
 refine⟨Cp (fun n=>(cl.lookup n).getD 0) fun n hn=>?_,fun x i e=>?_⟩
 ·obtain⟨i,hi⟩:=ok.free n hn;show cl.lookup n=_;rw[(C.cel n i hi).2];rfl
 ·haveI h1:=(ok.sub x i e).1;haveI h2:=(ok.sub x i e).2;unfold Cr;rw[Cq (List.mem_reverse.mpr h1),(C.cel x i h2).2];rfl
noncomputable def kCo(P:PV)(lo:List (Option V))(ws:List V)(σ2:St):Prop:=P (.list ws) ⟨lo,σ2.hp⟩
noncomputable def kCs(c:FC)(x:Str)(P:Out→St→Prop)(lo:List (Option V))(ws:List V)(σ2:St):Prop:=mS c x (.list ws) (P .next) ⟨lo,σ2.hp⟩
inductive EX(S:Sta)(d:Nat)(c:FC)(sc:Scope)(cel:List (Str×Nat))(target:Ex)(ifs:List Ex)(elt:Ex)(Q:List (Option V)→List V→St→Prop)(v:V)(σ1:St):Prop
 |mk (vs:List V) (G:List ai→Prop) (h1:Itr S σ1.hp v vs G) (h2:vs.length≤100000) (hW:gp S d (c.sub sc cel) target ifs elt G (Q σ1.loc) vs [] ⟨List.replicate sc.names.length none,σ1.hp⟩)
theorem nE(ok:gO c sc cel)
  (h:WEx S d c iter (EX S d c sc cel target ifs elt (kCo P)) X σ)
  (hs:∀env x,foldedSetIterable iter env x=pure x:=by intro _ _;rfl):WEx S d c (.ListComp elt [⟨target,iter,ifs,0⟩] sc pos) P X σ:=fun A cl L a ρ s hA C Q E hQ hE=>by
 show wpAny S.M A (eval (.ListComp elt [⟨target,iter,ifs,0⟩] sc pos) (c.env cl L a)) Q E s;rw[eval_ListComp];refine wpAny_comprehension_free (use:=none) rfl (hs _) (ok.clo (a:=a) C).1 ok.kind ok.names (WT.use h hA C (.refl ..) hE fun v v' σ1 ρ1 s1 h1 T1 _ C1 r1=>?_);obtain⟨vs,G,hI,hz,hW⟩:=h1;refine tI (RR:=fun acc B=>compPost S.M A E none Q acc B) hA C1 r1 hI hz ok (ok.clo (a:=a) C1).2 hW fun D B ws σ' ρ' s' p T' C' r' hB OB nB=>?_
 obtain⟨m,hm⟩:=hB;refine⟨m,hm,fun h' hs'=>?_⟩;have hk:∀b o,b≠B→s'.heap.get? b=some o→h'.get? b=some o:=fun b o hb e=>hs'.extBut b o hb e
 haveI C2:=C'.behind (s':={s' with heap:=h'}) OB hk C'.gens rfl;exact hQ _ _ ⟨σ1.loc,σ'.hp⟩ ρ' _ p (T1.trans (T'.wide.behind nB hk)) C2 (r'.move (OB.moves (s':={s' with heap:=h'}) C'.toCorrH hk))
theorem EY(ok:gO c sc cel)
  (h:WEx S d c iter (EX S d c sc cel target ifs elt (kCs c x P)) X σ)
  (hsw:∀env:Env,env.scope=c.scope→env.globals=3→swapsWith (.ListComp elt [⟨target,iter,ifs,0⟩] sc pos) (some (.Name x p1)) p.line env=pure true)(hk:c.scope.kind= .function:=by rfl)
  (hs:∀env x,foldedSetIterable iter env x=pure x:=by intro _ _;rfl):W1 S d c (.Assign [.Name x p1] (.ListComp elt [⟨target,iter,ifs,0⟩] sc pos) p) P X σ:=fun A cl L a ρ s hA C Q E hQ hE=>by
 show wpAny S.M A (exec (.Assign [.Name x p1] (.ListComp elt [⟨target,iter,ifs,0⟩] sc pos) p) (c.env cl L a)) Q E s;rw[exec_Assign_Name_used _ _ _ _ (hsw (c.env cl L a) rfl rfl)];refine wpAny_bind (wpAny_standAt (wpAny_bind ?_));show wpAny _ A (do let _←comprehension (.ListComp elt [⟨target,iter,ifs,0⟩] sc pos) sc (c.env cl L a) _ (newList []) false (eval iter (c.env cl L a)) (some (assign (.Name x p1) (c.env cl L a)))) _ _ s;refine wpAny_bind (wpAny_mono (wpAny_comprehension_free (use:=some (assign (.Name x p1) (c.env cl L a))) (Q:=fun _ s'=>Q .next s') rfl (hs _) (ok.clo (a:=a) C).1 ok.kind ok.names
  (WT.use h hA C (.refl ..) hE fun v v' σ1 ρ1 s1 h1 T1 _ C1 r1=>?_)) (fun _ s' hq=>wpAny_pure (wpAny_pure hq)) fun _ _ e=>e)
 obtain⟨vs,G,hI,hz,hW⟩:=h1;refine tI (RR:=fun acc B=>compPost S.M A E (some (assign (.Name x p1) (c.env cl L a))) (fun _ s'=>Q .next s') acc B) hA C1 r1 hI hz ok (ok.clo (a:=a) C1).2 hW fun D B ws σ' ρ' s' p' T' C' r' hB OB nB=>?_
 obtain⟨m,hm⟩:=hB;show wpAny _ A (assign (.Name x p1) (c.env cl L a) (.ref D)) _ _ _;refine wpAny_assign_Name (kA hk p' C' r' (.refl ..) fun σ2 s2 h2 T2 U2 C2=>?_);haveI nB':B∉[L]:=fun q=>by cases q with|head=>exact OB.loc rfl|tail _ q=>cases q
 obtain⟨OB2,kB⟩:=OB.step U2 nB';refine⟨m,Ns.at hm kB,fun h' hs'=>?_⟩;haveI hkk:∀b o,b≠B→s2.heap.get? b=some o→h'.get? b=some o:=fun b o hb e=>hs'.extBut b o hb e
 haveI C3:=C2.behind (s':={s2 with heap:=h'}) OB2 hkk C2.gens rfl;exact hQ .next .next σ2 ρ' _ h2 (T1.trans ((T'.wide.trans U2).behind nB hkk)) C3 trivial
theorem lH(hv:cO hp v vs):Itr S hp v vs (Cl v vs):=⟨hv,fun ρ s v' C r=>by
 haveI M:=fun(l:Addr)=>(C.grows (s':={s with heap:=s.heap.push {cls:= .type "list_iterator",data:= .fields #[.ref l,.int 0 0]}}) (fun b o e=>Heap.get?_push_of_some _ e) C.gens rfl).2.moves C gH
 have hl:∃l xs,v'= .ref l∧s.heap.PlainList l xs∧∀it,(s.heap.push {cls:= .type "list_iterator",data:= .fields #[.ref l,.int 0 0]}).IsListIter it l 0→wV it v vs 0 ρ hp.length (s.heap.push {cls:= .type "list_iterator",data:= .fields #[.ref l,.int 0 0]}):=by
  rcases hv with ⟨i,rfl,e⟩|rfl
  ·obtain⟨hi,rfl⟩:=r.obj_inv;obtain⟨_,xs,hl,hr⟩:=C.objs i _ e;exact⟨_,xs,rfl,hl,fun it hit=> .inl ⟨i,rfl,hi,hit⟩⟩
  ·cases r with
   |list hz ha hx=>exact⟨_,_,rfl,ha,fun it hit=> .inr ⟨rfl,_,_,hz,hit,ha.at fun o e=>Heap.get?_push_of_some _ e,hx.move (M _)⟩⟩
 obtain⟨l,xs,rfl,hpl,hAt⟩:=hl;refine⟨_,wV s.heap.objs.size v vs,rfl,dg rfl (by decide),xD,fun k ρ n s2 hat=>?_,hAt _ ⟨_,Heap.get?_push_size _ rfl,rfl,rfl⟩,fun A Q E q=>wpAny_pyIter_list hpl.isList q⟩;have:∃l,s2.heap.IsListIter s.heap.objs.size l k:=by
  rcases hat with ⟨i,_,_,h⟩|⟨_,l,_,_,h,_⟩
  ·exact⟨_,h⟩
  ·exact⟨_,h⟩
 obtain⟨l,hit⟩:=this;haveI hit':=hit;obtain⟨o,e1,e2,_⟩:=hit';exact⟨⟨o,_,e1,e2,by decide⟩,fun A Q E q=>wpAny_pyIter_listiter hit q⟩⟩
theorem Kh:Itr S hp (.tup vs) vs (fun _=>True):=⟨trivial,fun ρ s v' C r=>by
 refine r.tupE fun t xs ht' hr=>?_
 haveI M:=(C.grows (s':={s with heap:=s.heap.push {cls:= .type "tuple_iterator",data:= .fields #[.ref t,.int 0 0]}}) (fun b o e=>Heap.get?_push_of_some _ e) C.gens rfl).2.moves C gH;refine⟨_,JJ s.heap.objs.size vs,rfl,dg rfl (by decide),xE,fun k ρ n s2 hat=>?_,⟨t,xs,⟨_,Heap.get?_push_size _ rfl,rfl,rfl⟩,M.tup _ _ ht',hr.move M⟩,fun A Q E q=>wpAny_pyIter_tuple ht'.is q⟩;obtain⟨t,xs,hit,_⟩:=hat;haveI hit':=hit;obtain⟨o,e1,e2,_⟩:=hit';exact⟨⟨o,_,e1,e2,by decide⟩,fun A Q E q=>wpAny_pyIter_tupleiter hit q⟩⟩
end
noncomputable def xH:NameKind→Bool
 | .local=>true
 |_=>false
noncomputable def EZ(cl:List (Str×Nat))(names:List (Str×NameKind))(cel:List (Str×Nat)):Bool:=
 (names.all fun x=> !Kg x.2)&&(names.all fun x=> !xH x.2||(match uG x.1 names 0 with|some (_,k)=>xH k|none=>false))&&
 ((fT names).all fun n=>(rd cl n).isSome)&&(cel.all fun p=>((fT names).any fun n=>kX n p.1)&&(match rd cl p.1 with|some i=>Nat.beq i p.2|none=>false))
theorem gO.of(hk:sc.kind= .function)(h:EZ c.cel sc.names cel=true:=by kernel_rfl):gO c sc cel:=by
 unfold EZ at h;simp only[Bool.and_eq_true,List.all_eq_true]at h;obtain⟨⟨⟨h1,h2⟩,h3⟩,h4⟩:=h;refine⟨hk,fun x hx e=>?_,fun x hx e=>?_,fun n hn=>?_,fun n i e=>?_⟩
 ·have:=h1 x hx;rw[e]at this;cases this
 ·have:=h2 x hx;rw[e]at this;cases q:uG x.1 sc.names 0 with
  |none=>rw[q]at this;cases this
  |some p=>
   obtain⟨i,k⟩:=p;rw[q]at this;obtain⟨_,_,r⟩:=qf q;rw[r];cases k<;>first|rfl|(cases this;done)
 ·have:=h3 n hn;rw[ss]at this;exact oSm this
 ·have hm:(n,i)∈cel:=by
   clear h1 h2 h3 h4
   induction cel with
   |nil=>cases e
   |cons y r ih=>
    obtain⟨y,j⟩:=y;rw[lLc]at e
    by_cases q:n=y
    ·subst q;simp at e;subst e;exact .head _
    ·rw[beq_eq_false_iff_ne.mpr q]at e;exact .tail _ (ih e)
  have:=h4 _ hm;simp only[List.any_eq_true]at this;obtain⟨⟨z,hz,hq⟩,hi⟩:=this;rw[nr]at hq;have hz':z=n:=by simpa using hq
  subst hz';refine⟨hz,?_⟩;rw[←ss];cases q:rd c.cel z with
  |none=>rw[q]at hi;cases hi
  |some k=>rw[q]at hi;rw[nEb hi]
section
variable {S:Sta} {d:Nat} {c:FC} {X:PX} {σ:St}
theorem tJ(h:P ws σ):gp S d c target ifs elt G P [] ws σ:=h
theorem jw
  (h:WA S d c target v (fun σ1=>k7 S d c ifs (fun b σ2=>(b=true→WEx S d c elt (fun w σ3=>G σ3.hp∧gp S d c target ifs elt G P vs (ws++[w]) σ3) no σ2)∧(b=false→G σ2.hp∧gp S d c target ifs elt G P vs ws σ2)) σ1) no σ):gp S d c target ifs elt G P (v::vs) ws σ:=h
theorem jF(h:P true σ):k7 S d c [] P σ:=h
theorem xI(h:WB S d c t P no σ):k7 S d c [t] P σ:=h
theorem WT.mono(h:WT S d c t R P X σ)(hp:∀v σ',P v σ'→P' v σ'):WT S d c t R P' X σ:=fun A cl L a ρ s hA C Q E hQ hE=>
 h A cl L a ρ s hA C Q E (fun v v' σ' ρ' s' p T C' r=>hQ v v' σ' ρ' s' (hp _ _ p) T C' r) hE
theorem WV.mono(h:WV S d c f x R P X σ)(hp:∀v σ',P v σ'→P' v σ'):WV S d c f x R P' X σ:=fun A cl L a ρ s hA C x' hx Q E hQ hE=>
 h A cl L a ρ s hA C x' hx Q E (fun v v' σ' ρ' s' p T C' r=>hQ v v' σ' ρ' s' (hp _ _ p) T C' r) hE
theorem k7.mono(h:k7 S d c ifs P σ)(hp:∀b σ',P b σ'→P' b σ'):k7 S d c ifs P' σ:=match ifs,h with
 |[],h=>hp _ _ h
 |[t],h=>WT.mono (show WB S d c t P no σ from h) hp
theorem PK(Inv:St→Prop)(f:V→Option V)
  (turn:∀v∈vs,∀σ,Inv σ→WA S d c target v (fun σ1=>k7 S d c ifs (fun b σ2=>(b=true→WEx S d c elt (fun w σ3=>f v=some w∧G σ3.hp∧Inv σ3) no σ2)∧(b=false→f v=none∧G σ2.hp∧Inv σ2)) σ1) no σ)
  (fin:∀ws σ,ws=vs.filterMap f→Inv σ→P ws σ)(h0:Inv σ):gp S d c target ifs elt G P vs [] σ:=by
 haveI key:∀us ws σ,(∀v∈us,v∈vs)→ws++us.filterMap f=vs.filterMap f→Inv σ→gp S d c target ifs elt G P us ws σ:=by
  intro us
  induction us with
  |nil=>exact fun ws σ _ e hi=>tJ (fin ws σ (by simpa using e) hi)
  |cons v r ih=>
   intro ws σ hm e hi;refine jw ((turn v (hm v (.head _)) σ hi).mono fun _ σ1 h1=>?_);haveI key2:∀b σ2,((b=true→WEx S d c elt (fun w σ3=>f v=some w∧G σ3.hp∧Inv σ3) no σ2)∧(b=false→f v=none∧G σ2.hp∧Inv σ2))→((b=true→WEx S d c elt (fun w σ3=>G σ3.hp∧gp S d c target ifs elt G P r (ws++[w]) σ3) no σ2)∧(b=false→G σ2.hp∧gp S d c target ifs elt G P r ws σ2)):=fun b σ2 hb=>by
    refine⟨fun e1=>(hb.1 e1).mono fun w σ3 h3=>⟨h3.2.1,ih _ _ (fun x hx=>hm x (.tail _ hx)) ?_ h3.2.2⟩,fun e1=>⟨(hb.2 e1).2.1,ih _ _ (fun x hx=>hm x (.tail _ hx)) ?_ (hb.2 e1).2.2⟩⟩
    ·rw[←e,List.filterMap_cons,h3.1];simp
    ·rw[←e,List.filterMap_cons,(hb.2 e1).1]
   exact h1.mono key2
 exact key vs [] σ (fun _ h=>h) rfl h0
end
section
variable {prog:Program} {w:World} {A:Around} {E:PS} {s:Shared}
theorem xJ {j:Nat}(h:j≤100000):Builtin.List.listFitsIndex (j:Int)=true:=by
 have e:(2:Int)^63=9223372036854775808:=rfl;exact fitsIndex_of (iNn j) (by rw[e];lia)
theorem E0(hl:s.heap.PlainList l items)
  (h0:0≤k)(hfit:Builtin.List.listFitsIndex k=true)(hn:k<items.size)
  (hQ:∀h',h'.PlainList l (items.setIfInBounds k.toNat v)→Heap.SameBut l s.heap h'→Q () {s with heap:=h'}):wpAny (model prog w) A (setItem (.ref l) (.int k t) v) Q E s:=by
 obtain⟨n,ho⟩:=hl;have hT:s.TypeIs (.ref l) "list":=⟨_,ho,rfl⟩;have hfin:∀j,(s.heap.update l (Obj.mapSeq (·.setIfInBounds j v))).PlainList l (items.setIfInBounds j v):=fun j=>⟨_,IsL.update (n:=n) ho _⟩
 unfold setItem
 try with_reducible refine wpAny_holding ?_
 skip
 refine wpAny_bind (wpAny_sequenceKey hT (by decide) ?_);refine wpAny_bind (wpAny_callSpecial?_slot (name:=Str.ofString "__setitem__") hT slot_list_setitem (wpAny_call_entry slot_list_setitem hT entry_list_setitem ?_ (args_list_setitem _ _ _)));show wpAny _ _ (Builtin.List.listSubscript? (.int k t)>>=_) _ _ s;refine wpAny_bind (wpAny_listSubscript_int hfit ?_);clear hfit;obtain⟨j,rfl⟩:=Int.eq_ofNat_of_zero_le h0;have hj:j<items.size:=Int.ofNat_lt.mp (fi2 (Y1 X0 X1) [Y1 X0 X1] rfl hn);show wpAny _ _ ((seqItemAt l j>>=fun r=>pure (r.map (j,·)))>>=_) _ _ s;refine wpAny_bind (wpAny_bind (wpAny_seqItemAt ho rfl (wpAny_pure ?_)));rw[Array.getElem?_eq_getElem hj];show wpAny _ _ (setSeqItemAt l j v>>=_) _ _ s;refine wpAny_bind (wpAny_setSeqItemAt ho rfl ?_)
 first
  |exact wpAny_bind (wpAny_pure (wpAny_pure ⟨.none,rfl,wpAny_pure (hQ _ (hfin j) (Heap.SameBut.update ..))⟩))
  |exact wpAny_pure ⟨.none,rfl,wpAny_pure (hQ _ (hfin j) (Heap.SameBut.update ..))⟩
theorem zD {j:Nat}(hl:s.heap.PlainList l items)(hj:j<items.size)(hz:items.size≤100000)
  (hQ:∀h',h'.PlainList l (items.setIfInBounds j v)→Heap.SameBut l s.heap h'→Q () {s with heap:=h'}):wpAny (model prog w) A (setItem (.ref l) (.int j t) v) Q E s:=
 E0 hl (iNn j) (xJ (fj2 (Y0 X0 (.k 100000)) [Y1 X0 X1,Y0 X1 (.k 100000)] rfl hj hz)) (fi2 (Y1 X0 X1) [Y1 X0 X1] rfl (iOt hj)) hQ
theorem vZ:seqSlot? (.type "list") (dunderI "add")=pure (some (.builtin "list.__iadd__")):=PySem.seqSlot_of F.slot_list_iadd.lookup (by decide+kernel)
theorem Cs(hl:s.heap.PlainList a xs)(hl2:s.heap.PlainList b ys)(hz:xs.size+ys.size≤100000)
  (hQ:∀h',h'.PlainList a (xs++ys)→Heap.SameBut a s.heap h'→Q (.ref a) {s with heap:=h'}):wpAny (model prog w) A (inplaceOp .Add (.ref a) (.ref b)) Q E s:=by
 obtain⟨n,ho⟩:=hl;obtain⟨n2,ho2⟩:=hl2;have ha:s.TypeIs (.ref a) "list":=⟨_,ho,rfl⟩;have hb:s.TypeIs (.ref b) "list":=⟨_,ho2,rfl⟩;unfold inplaceOp;refine wpAny_holding ?_;have hfi:fillsInplaceSlot (.type "list") "add" (Operator.Add== .Add)=pure false:=by
  unfold fillsInplaceSlot;show(typeLookup (.type "list") (dunderI "add")>>=fun fi=>pure (fi.isSome&& !isSeqSlot fi))=pure false;rw[F.slot_list_iadd.lookup];have:isSeqSlot (some (.builtin "list.__iadd__"))=true:=by decide+kernel
  show(pure ((some (Value.builtin "list.__iadd__")).isSome&& !isSeqSlot (some (.builtin "list.__iadd__"))):Sem Bool)=_;rw[this];rfl
 refine wpAny_bind (wpAny_typeOf ha (wpAny_bind (wpAny_of_eq hfi ?_)));show wpAny _ A (if false=true then _ else _) Q E s;rw[if_neg Bool.false_ne_true];refine wpAny_bind (wpAny_binaryOp1_none (nm:="add") ha hb noFill_list_add ?_);refine wpAny_bind (wpAny_of_eq vZ ?_);refine wpAny_bind (wpAny_rule ?_);refine call_meets F.slot_list_iadd ha F.entry_list_iadd (F.args_list_iadd_2 _ _) (PySem.AutoSeq1.list___iadd___list_list_0 a xs n b ys n2 ?_ (by rw[szl];lia) (by rw[szl];lia)) ⟨ho,ho2,?_⟩
 ·have:=szl;simp[Builtin.List.listTooLong];intros;lia
 ·exact hQ _ ⟨_,IsL.update (n:=n) ho _⟩ (Heap.SameBut.update ..)
end
section
variable {S:Sta} {d:Nat} {c:FC} {X:PX} {σ:St}
theorem PL(h:P (.int (Builtin.bitAnd x y)) σ):WO2 S d c (inplaceOp .BitAnd) (.int x) (.int y) RelV P X σ:=fR (fun _ _ _ _ _ _ h=>iand_int h) h
theorem aj.set(r:aj ρ n h vs xs)(q:RelV ρ n h v x):aj ρ n h (vs.set j v) (xs.set j x):=by
 induction r using aj.indE generalizing j with
 |k0=>exact .nil
 |k1 _ _ _ _ a b ih=>cases j with
  |zero=>exact .cons q b
  |succ j=>exact .cons a ih
theorem aj.erase(r:aj ρ n h vs xs):aj ρ n h (vs.eraseIdx j) (xs.eraseIdx j):=by
 induction r using aj.indE generalizing j with
 |k0=>exact .nil
 |k1 _ _ _ _ a b ih=>cases j with
  |zero=>exact b
  |succ j=>exact .cons a ih
inductive VA(P:Out→St→Prop)(w v k:V)(σ3:St):Prop
 |mk (id j:Nat) (vs:List V) (h1:v= .obj id) (h2:k= .int j) (h3:σ3.hp[id]?=some (.list vs)) (h4:j<vs.length) (h5:vs.length≤100000) (hP:P .next ⟨σ3.loc,σ3.hp.set id (.list (vs.set j w))⟩)
inductive VB(P:Out→St→Prop)(v k:V)(σ3:St):Prop
 |mk (id j:Nat) (vs:List V) (h1:v= .obj id) (h2:k= .int j) (h3:σ3.hp[id]?=some (.list vs)) (h4:j<vs.length) (h5:vs.length≤100000) (hP:P .next ⟨σ3.loc,σ3.hp.set id (.list (vs.eraseIdx j))⟩)
noncomputable def VC(S:Sta)(d:Nat)(c:FC)(i:Ex)(X:PX)(P:Out→St→Prop)(w v:V)(σ2:St):Prop:=WEx S d c i (VA P w v) X σ2
noncomputable def VD(S:Sta)(d:Nat)(c:FC)(o i:Ex)(X:PX)(P:Out→St→Prop)(w:V)(σ1:St):Prop:=WEx S d c o (VC S d c i X P w) X σ1
noncomputable def VE(S:Sta)(d:Nat)(c:FC)(i:Ex)(X:PX)(P:Out→St→Prop)(v:V)(σ2:St):Prop:=WEx S d c i (VB P v) X σ2
theorem E1
  (h:WEx S d c e (VD S d c o i X P) X σ)
  (hs:∀env,swapsWith e (some (.Subscript o i p1)) p.line env=pure false:=by intro _;rfl):W1 S d c (.Assign [.Subscript o i p1] e p) P X σ:=fun A cl L a ρ s hA C Q E hQ hE=>by
 refine wpAny_Assign_Subscript ?_ (hs _);refine WT.use h hA C (.refl ..) hE fun w w' σ1 ρ1 s1 h1 T1 U1 C1 r1=>?_
 refine WT.use h1 hA C1 T1 hE fun v v' σ2 ρ2 s2 h2 T2 U2 C2 r2=>?_
 refine WT.use h2 hA C2 T2 hE fun k k' σ3 ρ3 s3 h3 T3 U3 C3 r3=>?_
 obtain⟨id,j,vs,rfl,rfl,hi,hj,hz,p⟩:=h3;obtain⟨t,rfl⟩:=r3.int_inv;obtain⟨hil,rfl⟩:=(r2.step C2.toCorrH C2.nsAll U3).obj_inv;obtain⟨_,xs,hl,hr⟩:=C3.objs id _ hi;have hsz:xs.size=vs.length:=by rw[←aTl,hr.length]
 refine zD hl (fj3 (Y1 X0 X1) [Y1 X0 X2,Y2 X2 X1] rfl hj hsz.symm) (fj2 (Y0 X0 (.k 100000)) [Y0 X1 (.k 100000),Y2 X0 X1] rfl hz hsz) fun h' hl' hs'=>?_
 have rw':=r1.step C1.toCorrH C1.nsAll (U2.trans U3);obtain⟨CH,T⟩:=C3.toCorrH.listSet (tk:=s3.toks) (ws:=vs.set j w) hi hs' hl' fun M=>by
  rw[Array.toList_setIfInBounds];exact(hr.move M).set (rw'.move M)
 exact hQ .next .next _ ρ3 _ p (T3.trans T.wide) (C3.hmove T CH) trivial
theorem E3
  (h:WEx S d c o (VE S d c i X P) X σ):W1 S d c (.Delete [.Subscript o i p1] p) P X σ:=fun A cl L a ρ s hA C Q E hQ hE=>by
 refine wpAny_Delete (wpAny_deleteEach_cons (delete_Subscript ?_));refine WT.use h hA C (.refl ..) hE fun v v' σ2 ρ2 s2 h2 T2 U2 C2 r2=>?_
 refine WT.use h2 hA C2 T2 hE fun k k' σ3 ρ3 s3 h3 T3 U3 C3 r3=>?_
 obtain⟨id,j,vs,rfl,rfl,hi,hj,hz,p⟩:=h3;obtain⟨t,rfl⟩:=r3.int_inv;obtain⟨hil,rfl⟩:=(r2.step C2.toCorrH C2.nsAll U3).obj_inv;obtain⟨_,xs,hl,hr⟩:=C3.objs id _ hi;have hsz:xs.size=vs.length:=by rw[←aTl,hr.length]
 have hk:seqIndex? (j:Int) xs.size=some j:=by
  unfold seqIndex?;simp;lia
 refine wpAny_delItem_plain hl (xJ (fj2 (Y0 X0 (.k 100000)) [Y1 X0 X1,Y0 X1 (.k 100000)] rfl hj hz)) hk (fun h' hl' hs'=>?_) (by rw[szl];lia);obtain⟨CH,T⟩:=C3.toCorrH.listSet (tk:=s3.toks) (ws:=vs.eraseIdx j) hi hs' hl' fun M=>by
  have:(xs.eraseIdxIfInBounds j).toList=xs.toList.eraseIdx j:=by
   unfold Array.eraseIdxIfInBounds;rw[dif_pos (by lia),Array.toList_eraseIdx]
  rw[this];exact(hr.move M).erase
 exact wpAny_deleteEach_nil (hQ .next .next _ ρ3 _ p (T3.trans T.wide) (C3.hmove T CH) trivial)
theorem He {id:Nat}{y:V}{vs ws:List V}{P:PV}(hi:σ.hp[id]?=some (.list vs))(hy:cO σ.hp y ws)(hz:vs.length+ws.length≤100000)(p:P (.obj id) ⟨σ.loc,σ.hp.set id (.list (vs++ws))⟩):WO2 S d c (inplaceOp .Add) (.obj id) y RelV P X σ:=fun A cl L ρ s hA C x' y' rx ry Q E hQ hE=>by
 obtain⟨hil,rfl⟩:=rx.obj_inv;obtain⟨_,xs,hl,hr⟩:=C.objs id _ hi;refine C.toCorrH.lstE hy ry fun b ys hl2 hr2 hsz2 ry=>?_
 have hsz:xs.size=vs.length:=by rw[←aTl,hr.length]
 refine Cs hl hl2 (fj4 (Y0 (.a X0 X1) (.k 100000)) [Y0 (.a X2 X3) (.k 100000),Y2 X1 X3,Y2 X0 X2] rfl hz hsz2 hsz) fun h' hl' hs'=>?_
 obtain⟨CH,T⟩:=C.toCorrH.listSet (tk:=s.toks) (ws:=vs++ws) hi hs' hl' fun M=>by
  rw[Array.toList_append];exact(hr.move M).append (hr2.move M)
 refine hQ (.obj id) _ _ ρ _ p T.wide (C.hmove T CH) (.obj ?_);rw[List.length_set];exact hil
theorem Bb {lo:List (Option V)}{hp:List ai}{id:Nat}{y:V}{vs ws:List V}{P:PV}(hi:hp[id]?=some (.list vs))(hy:cO hp y ws)(hz:vs.length+ws.length≤100000)(p:P (.obj id) ⟨lo,hp.set id (.list (vs++ws))⟩):WO2 S d c (inplaceOp .Add) (.obj id) y RelV P X ⟨lo,hp⟩:=He (σ:=⟨lo,hp⟩) hi hy hz p
end
section
variable {S:Sta} {d:Nat} {c:FC} {X:PX} {σ:St}
inductive Tq(P:PV)(v l u t:V)(σ4:St):Prop
 |mk (vs:List V) (lo hi st:Option Int) (h1:cO σ4.hp v vs) (h2:vs.length≤100000) (h3:kn l lo) (h4:kn u hi) (h5:kn t st) (h6:st≠some 0) (hP:P (.obj σ4.hp.length) ⟨σ4.loc,σ4.hp++[.list (eY vs lo hi st)]⟩)
noncomputable def Ki(S:Sta)(d:Nat)(c:FC)(step:Option Ex)(X:PX)(P:PV)(v l u:V)(σ3:St):Prop:=gl S d c step (Tq P v l u) X σ3
noncomputable def Kj(S:Sta)(d:Nat)(c:FC)(upper step:Option Ex)(X:PX)(P:PV)(v l:V)(σ2:St):Prop:=gl S d c upper (Ki S d c step X P v l) X σ2
noncomputable def Kk(S:Sta)(d:Nat)(c:FC)(lower upper step:Option Ex)(X:PX)(P:PV)(v:V)(σ1:St):Prop:=gl S d c lower (Kj S d c upper step X P v) X σ1
theorem oK {value:Ex}{lower upper step:Option Ex}{p pos:Pos}{P:PV}
  (h:WEx S d c value (Kk S d c lower upper step X P) X σ)
  (hs:∀o i,subscripted (.Slice lower upper step p) false o i=operate [o,i] (getItem o i)∨subscripted (.Slice lower upper step p) false o i=operate [i,o] (getItem o i):=by intro _ _;first|exact .inl rfl|exact .inr rfl):WEx S d c (.Subscript value (.Slice lower upper step p) pos) P X σ:=fun A cl L a ρ s hA C Q E hQ hE=>by
 refine Subscript_ (WT.use h hA C (.refl ..) hE fun v v' σ1 ρ1 s1 h1 T1 U1 C1 r1=>?_);refine wpAny_Slice (gl.use h1 hA C1 T1 hE fun l l' σ2 ρ2 s2 h2 T2 U2 C2 r2=>?_);refine gl.use h2 hA C2 T2 hE fun u u' σ3 ρ3 s3 h3 T3 U3 C3 r3=>?_
 refine gl.use h3 hA C3 T3 hE fun t t' σ4 ρ4 s4 h4 T4 U4 C4 r4=>?_
 obtain⟨vs,lo,hi,st,hv,hz,pl,pu,ps,h0,hP⟩:=h4;haveI r1':=r1.step C1.toCorrH C1.nsAll (U2.trans (U3.trans U4));haveI r2':=r2.step C2.toCorrH C2.nsAll (U3.trans U4);haveI r3':=r3.step C3.toCorrH C3.nsAll U4;haveI C5:=(C4.push {cls:= .type "slice",data:= .fields #[l',u',t']} s4.toks).1;haveI T5:=(C4.push {cls:= .type "slice",data:= .fields #[l',u',t']} s4.toks).2;haveI M5:=T5.moves C4.toCorrH C4.nsAll;refine C5.toCorrH.lstE hv (r1'.move M5) fun b xs hl hr hsz _=>?_
 haveI hsl:=Heap.IsSliceOf.new s4.heap l' u' t';generalize hH:s4.heap.push {cls:= .type "slice",data:= .fields #[l',u',t']}=H at *;haveI hn:H.get? H.objs.size=none:=aq _ (nRe _);obtain⟨C6,T6⟩:=C5.toCorrH.add (s':={s4 with heap:=H.push {cls:= .type "list",data:= .seq (slicePick xs lo hi st)}}) (o:= .list (eY vs lo hi st)) (p:=(H.objs.size,H.objs.size)) (fun b o e=>Heap.get?_push_of_some _ e) hn hn C5.gens rfl
  fun M=>⟨rfl,slicePick xs lo hi st,⟨0,Heap.get?_push_size _ rfl⟩,(hr.move M).pick lo hi st⟩
 haveI ro:=RelV.obj (ρ:=jE ρ4 σ4.hp.length (H.objs.size,H.objs.size)) (n:=(σ4.hp++[ai.list (eY vs lo hi st)]).length) (h:=H.push {cls:= .type "list",data:= .seq (slicePick xs lo hi st)}) (i:=σ4.hp.length) (by simp);rw[grow_self]at ro;haveI fin:Q (.ref H.objs.size) {s4 with heap:=H.push {cls:= .type "list",data:= .seq (slicePick xs lo hi st)}}:=
  hQ _ _ ⟨σ4.loc,_⟩ _ _ hP (T4.trans (T5.trans T6.wide)) (C5.hmove T6 C6) ro
 haveI gi:=wpAny_getItem_list_slice (prog:=pw) (w:=S.w) (A:=A) (E:=E) (s:={s4 with heap:=H}) (Q:=Q) hl.isList hsl (pl.is r2') (pu.is r3') (ps.is r4) h0 fin (by rw[hsz,szl];exact fj1 (Y0 X0 (.k 16777216)) [Y0 X0 (.k 100000)] rfl hz);rcases hs (.ref b) (.ref s4.heap.objs.size)with e|e
 ·exact tail_any hl.isList.typeIs slot_list_getitem.lookup gi e
 ·exact tail_any hl.isList.typeIs slot_list_getitem.lookup gi e
theorem tK:∀l:List α,(List.range l.length).filterMap (l[·]?)=l
 |[]=>rfl
 |x::r=>by
  rw[lCo,List.range_succ_eq_map,List.filterMap_cons];show x::_=_
  congr 1
  rw[List.filterMap_map];exact tK r
theorem oM:eY vs none none (some (-1))=vs.reverse:=by
 haveI e:eY vs none none (some (-1))=(sliceRange ((vs.length:Int)-1) (-1) (-1)).filterMap (vs[·]?):=rfl;rw[e,krv_sliceRange,List.filterMap_map];haveI h:∀l:List Nat,(∀k∈l,k<vs.length)→l.filterMap ((vs[·]?)∘fun k=>vs.length-1-k)=l.filterMap (vs.reverse[·]?):=by
  intro l hl
  induction l with
  |nil=>rfl
  |cons k r ih=>
   rw[List.filterMap_cons,List.filterMap_cons,ih fun x hx=>hl x (.tail _ hx),List.getElem?_reverse (hl k (.head _))];rfl
 rw[h _ fun k hk=>List.mem_range.mp hk];have:=tK vs.reverse;rw[List.length_reverse]at this;exact this
theorem bo(e:σ.hp[i]?=some (.list vs))(h:P (.top (.builtin "list.append")) [.obj i] σ):iO S d c (.obj i) "append" P X σ:=lx (by unfold du;dsimp only;rw[e]) PySem.F.plainAttrs_list PySem.F.slot_list_append PySem.F.type_list_append (by decide) h
theorem xK(e:σ.hp[i]?=some (.list vs))(h:P (.top (.builtin "list.extend")) [.obj i] σ):iO S d c (.obj i) "extend" P X σ:=lx (by unfold du;dsimp only;rw[e]) PySem.F.plainAttrs_list PySem.F.slot_list_extend PySem.F.type_list_extend (by decide) h
theorem Tr(e:σ.hp[i]?=some (.list vs))(h:P (.top (.builtin "list.pop")) [.obj i] σ):iO S d c (.obj i) "pop" P X σ:=lx (by unfold du;dsimp only;rw[e]) PySem.F.plainAttrs_list PySem.F.slot_list_pop PySem.F.type_list_pop (by decide) h
end
section
variable {S:Sta} {d:Nat} {c:FC} {X:PX} {σ:St}
theorem qm {α:Type}{target:Ex}{ifs:List Ex}{elt:Ex}{G:List ai→Prop}{P:List V→St→Prop}(g:α→V)(f:α→Option V){xs:List α}(Inv:St→Prop)
  (turn:∀x∈xs,∀σ,Inv σ→WA S d c target (g x) (fun σ1=>k7 S d c ifs (fun b σ2=>(b=true→WEx S d c elt (fun w σ3=>f x=some w∧G σ3.hp∧Inv σ3) no σ2)∧(b=false→f x=none∧G σ2.hp∧Inv σ2)) σ1) no σ)
  (fin:∀ws σ,ws=xs.filterMap f→Inv σ→P ws σ)(h0:Inv σ):gp S d c target ifs elt G P (xs.map g) [] σ:=by
 haveI key:∀(us:List α) (ws:List V) σ,(∀v∈us,v∈xs)→ws++us.filterMap f=xs.filterMap f→Inv σ→gp S d c target ifs elt G P (us.map g) ws σ:=by
  intro us
  induction us with
  |nil=>exact fun ws σ _ e hi=>tJ (fin ws σ (by simpa using e) hi)
  |cons v r ih=>
   intro ws σ hm e hi;refine jw ((turn v (hm v (.head _)) σ hi).mono fun _ σ1 h1=>h1.mono fun b σ2 hb=>⟨fun e1=>(hb.1 e1).mono fun w σ3 h3=>⟨h3.2.1,ih _ _ (fun x hx=>hm x (.tail _ hx)) ?_ h3.2.2⟩,fun e1=>⟨(hb.2 e1).2.1,ih _ _ (fun x hx=>hm x (.tail _ hx)) ?_ (hb.2 e1).2.2⟩⟩)
   ·rw[←e,List.filterMap_cons,h3.1];simp
   ·rw[←e,List.filterMap_cons,(hb.2 e1).1]
 exact key xs [] σ (fun _ h=>h) rfl h0
theorem qn(g:α→V)(Inv:List α→St→Prop)
  (turn:∀x r σ,Inv (x::r) σ→WA S d c target (g x) (wS S d c body G (Inv r) P) no σ)
  (fin:∀σ,Inv [] σ→WL S d c els P no σ)(h0:Inv xs σ):lU S d c target body els G P (xs.map g) σ:=by
 haveI key:∀(us:List α) σ,Inv us σ→lU S d c target body els G P (us.map g) σ:=by
  intro us
  induction us with
  |nil=>exact fun σ hi=>fin σ hi
  |cons v r ih=>
   intro σ hi;show WA S d c target (g v) _ no σ;refine(turn v r σ hi).mono fun _ σ1 h1=>h1.mono fun o σ2 h2=>?_
   cases o with
   |next=>exact⟨h2.1,ih σ2 h2.2⟩
   |cont=>exact⟨h2.1,ih σ2 h2.2⟩
   |brk=>exact h2
   |ret w=>exact h2
 exact key xs σ h0
end
section
variable {S:Sta} {d:Nat} {c:FC} {X:PX} {σ:St}
theorem Kl(r:IntsAre xs ns):aj ρ n h (ns.map .int) xs:=by
 induction r with
 |nil=>exact .nil
 |cons _ _ _ ih=>exact .cons (.int _ _) ih
theorem Hf(hv:cO σ.hp v (ns.map .int))(hz:ns.length<64)(h:∀ns':List Int,ns'.Perm ns→ns'.Pairwise (·≤·)→P (.list (ns'.map .int)) σ):aI S d c (.top (.builtin "sorted")) [v] [] P X σ:=fun A cl L ρ s hA C f' vs' ks' rf r1 r2 Q E hQ hE=>by
 obtain rfl:=rf.top_inv;refine r2.nilE ?_;refine r1.oneE fun _ rv=>?_
 refine C.toCorrH.lstE hv rv fun l xs hl hr hsz rv=>?_
 refine⟨⟨.machine,.inr (.inl rfl),dT _ _⟩,?_⟩;haveI hl':s.heap.IsList l xs.toList.toArray:=by
  rw[Array.toArray_toList];exact hl.isList
 refine sorted_ints hl' hr.ints (by rw[hr.length,lMa];exact hz) fun out ns' hi hp hs=>?_
 haveI hk:∀b o,s.heap.get? b=some o→(sortedAll s.heap xs.toList out).get? b=some o:=fun b o e=>sortedAll_old e
 haveI hnew:(sortedAll s.heap xs.toList out).PlainList (s.heap.objs.size+1) out:=sortedAll_at s.heap xs.toList out;obtain⟨C',T⟩:=C.freeze (s':={s with heap:=sortedAll s.heap xs.toList out}) hk C.gens rfl (·=s.heap.objs.size+1) fun b hb=>by
  subst hb;obtain⟨k,e⟩:=hnew;exact⟨aq _ (Nat.le_succ _),by show((sortedAll s.heap xs.toList out).get? _).isSome=true;rw[e];rfl⟩
 exact hQ _ _ σ _ _ (h ns' hp hs) T C' (.list (.inr rfl) hnew (Kl hi))
end
section
variable {S:Sta} {d:Nat}
theorem CorrH.track(C:CorrH S ρ hp s')(T:ah l ρ₀ hp₀ s ρ hp s')(hn:s.heap.get? a=none)(hf:iN ρ hp.length a)(hz:¬ρ.fz a)(hH:S.H.get? a=none)
  (hr:∃x,s'.heap.IsCell a x∧gr ρ hp.length s'.heap v x):CorrH S (jE ρ hp.length (a,a)) (hp++[.cell v]) s'∧ah l ρ₀ hp₀ s (jE ρ hp.length (a,a)) (hp++[.cell v]) s':=by
 have hlen:(hp++[ai.cell v]).length=hp.length+1:=by simp
 have M:cL ρ (jE ρ hp.length (a,a)) hp.length (hp++[ai.cell v]).length s'.heap s'.heap:=⟨fun _ _ h=>h,fun i hi=>cG hi,by rw[hlen];exact Nat.le_succ _,fun _ h=>h,fun _ _ _ e=>e⟩;refine⟨⟨C.keep,fun i ob h=>?_,fun i hi=>?_,fun i j hi hj hne=>?_,C.gens,C.os,fun b hb=>⟨⟨(C.fz b hb).1.1,fun i hi=>?_⟩,(C.fz b hb).2⟩,C.tab⟩,
  fun i hi=>(cG (nLl hi T.len)).trans (T.ext i hi),by rw[hlen];exact Nat.le_succ_of_le T.len,T.live,T.frame,fun i h1 h2=>?_,T.fzk,T.fzn⟩
 ·by_cases q:i<hp.length
  ·rw[List.getElem?_append_left q]at h;rw[cG q];exact(C.objs i ob h).move M (fun _ e=>e) (fun _ e=>e)
  ·have hi:i<(hp++[ai.cell v]).length:=(lSi h).1;have e:i=hp.length:=nAs (fj3 (Y0 X0 X1) [Y2 X2 (.i X1),Y1 X0 X2] rfl hlen hi) ((nNl q));subst e;rw[List.getElem?_append_right (nRe _)]at h;simp at h;subst h;rw[grow_self];obtain⟨x,h1,h2⟩:=hr;exact⟨rfl,x,h1,h2.move M⟩
 ·by_cases q:i<hp.length
  ·rw[cG q];exact C.fresh i q
  ·have e:i=hp.length:=nAs (fj3 (Y0 X0 X1) [Y2 X2 (.i X1),Y1 X0 X2] rfl hlen hi) ((nNl q));subst e;rw[grow_self];exact⟨hH,hH⟩
 ·by_cases q:i<hp.length
  ·by_cases r:j<hp.length
   ·rw[cG q,cG r];exact C.inj i j q r hne
   ·have e:j=hp.length:=nAs (fj3 (Y0 X0 X1) [Y2 X2 (.i X1),Y1 X0 X2] rfl hlen hj) ((nNl r));subst e;rw[cG q,grow_self];exact⟨(hf.2 i q).1.symm,(hf.2 i q).1.symm,(hf.2 i q).2.symm⟩
  ·have e:i=hp.length:=nAs (fj3 (Y0 X0 X1) [Y2 X2 (.i X1),Y1 X0 X2] rfl hlen hi) ((nNl q));subst e;have r:j<hp.length:=by lia
   rw[grow_self,cG r];exact⟨(hf.2 j r).1,(hf.2 j r).2,(hf.2 j r).2⟩
 ·by_cases q:i<hp.length
  ·rw[cG q];exact(C.fz b hb).1.2 i q
  ·have e:i=hp.length:=nAs (fj3 (Y0 X0 X1) [Y2 X2 (.i X1),Y1 X0 X2] rfl hlen hi) ((nNl q));subst e;rw[grow_self];have:b≠a:=fun e=>hz (e▸hb)
   exact⟨this,this⟩
 ·by_cases q:i<hp.length
  ·rw[cG q];exact T.news i h1 q
  ·have e:i=hp.length:=nAs (fj3 (Y0 X0 X1) [Y2 X2 (.i X1),Y1 X0 X2] rfl hlen h2) ((nNl q));subst e;rw[grow_self];exact⟨hn,hn⟩
noncomputable def uM(n:Nat):List Str→List (Str×Nat)
 |[]=>[]
 |x::r=>(x,n)::uM (n+1) r
theorem PM:uM n (x::r)=(x,n)::uM (n+1) r:=rfl
theorem E4:∀(cs:List (Str×Addr)) {ρ:Pl} {hp:List ai},CorrH S ρ hp s'→ah l ρ₀ hp₀ s ρ hp s'→
  (∀p∈cs,s.heap.get? p.2=none∧iN ρ hp.length p.2∧¬ρ.fz p.2∧S.H.get? p.2=none∧s'.heap.IsCell p.2 none)→(cs.Pairwise fun x y=>x.2≠y.2)→
  ∃ρ',CorrH S ρ' (hp++List.replicate cs.length (.cell none)) s'∧ah l ρ₀ hp₀ s ρ' (hp++List.replicate cs.length (.cell none)) s'∧(∀b,ρ'.fz b↔ρ.fz b)∧(∀i,i<hp.length→ρ'.pl i=ρ.pl i)∧
   (∀b,iN ρ hp.length b→(∀p∈cs,b≠p.2)→iN ρ' (hp++List.replicate cs.length (ai.cell none)).length b)∧
   ∀x i,(uM hp.length (cs.map (·.1))).lookup x=some i→i<hp.length+cs.length∧cs.lookup x=some (ρ'.pl i).1
 |[],ρ,hp,C,T,_,_=>⟨ρ,by simpa using C,by simpa using T,fun _=>Iff.rfl,fun _ _=>rfl,fun b h _=>by simpa using h,fun x i h=>by cases h⟩
 |(n,a)::r,ρ,hp,C,T,hc,hp2=>by
  obtain⟨c1,c2,c3,c4,c5⟩:=hc (n,a) (.head _);haveI p1:=(List.pairwise_cons.mp hp2).1;haveI p2:=(List.pairwise_cons.mp hp2).2;haveI C1:=(C.track (v:=none) T c1 c2 c3 c4 ⟨none,c5,trivial⟩).1;haveI T1:=(C.track (v:=none) T c1 c2 c3 c4 ⟨none,c5,trivial⟩).2;have hlen:(hp++[ai.cell none]).length=hp.length+1:=by simp
  have fr:∀b,iN ρ hp.length b→b≠a→iN (jE ρ hp.length (a,a)) (hp++[ai.cell none]).length b:=fun b h1 h2=>⟨h1.1,fun i hi=>by
   by_cases q:i<hp.length
   ·rw[cG q];exact h1.2 i q
   ·have e:i=hp.length:=nAs (fj3 (Y0 X0 X1) [Y2 X2 (.i X1),Y1 X0 X2] rfl hlen hi) ((nNl q));subst e;rw[grow_self];exact⟨h2,h2⟩⟩
  obtain⟨ρ',C2,T2,f1,f2,f3,f4⟩:=E4 r C1 T1 (fun p hp'=>by
   obtain⟨d1,d2,d3,d4,d5⟩:=hc p (.tail _ hp');exact⟨d1,fr _ d2 (p1 p hp').symm,d3,d4,d5⟩) p2
  have e:hp++List.replicate ((n,a)::r).length (ai.cell none)=(hp++[ai.cell none])++List.replicate r.length (ai.cell none):=by
   rw[lCo,List.replicate_succ,List.append_assoc];rfl
  rw[e];refine⟨ρ',C2,T2,f1,fun i hi=>(f2 i (by rw[hlen];exact fj2 (Y1 X0 (.i X1)) [Y1 X0 X1] rfl hi)).trans (cG hi),fun b h1 h2=>f3 b (fr b h1 (h2 _ (.head _))) fun p hp'=>h2 p (.tail _ hp'),fun x i h=>?_⟩;rw[hlen]at f4;rw[List.map_cons,PM,lLc]at h;rw[lLc];dsimp only at h⊢;cases q:(x==n)with
  |true=>
   rw[q]at h;cases h;refine⟨by rw[lCo];exact fj2 (Y1 X0 (.a X0 (.i X1))) [] rfl,?_⟩;rw[f2 hp.length (by rw[hlen];exact Nat.lt_succ_self _),grow_self]
  |false=>
   rw[q]at h;haveI g1:=(f4 x i h).1;haveI g2:=(f4 x i h).2;exact⟨by rw[lCo];exact fj3 (Y1 X0 (.a X1 (.i X2))) [Y1 X0 (.a (.i X1) X2)] rfl g1,g2⟩
end
theorem rM {kindOf:Str→Option NameKind}:∀(binds:List (Str×Value)) (m:Str→Option Value),(∀x∈binds,kindOf x.1=some .local)→∀y,bindL kindOf binds m y=match binds.reverse.lookup y with|some v=>some v|none=>m y
 |[],_,_,_=>rfl
 |(n,v)::r,m,h,y=>by
  unfold bindL;rw[if_pos (h (n,v) (.head _)),rM r _ (fun x hx=>h x (.tail _ hx)),List.reverse_cons];haveI app:∀(a b:List (Str×Value)),(a++b).lookup y=match a.lookup y with|some v=>some v|none=>b.lookup y:=by
   intro a b
   induction a with
   |nil=>rfl
   |cons z t ih=>
    rw[List.cons_append,lLc,lLc];cases(y==z.1)<;>first|rfl|exact ih
  rw[app];cases q:List.lookup y r.reverse with
  |some w=>rfl
  |none=>
   dsimp only;rw[lLc]
   by_cases e:y=n
   ·subst e;simp
   ·rw[if_neg e,beq_eq_false_iff_ne.mpr e];rfl
theorem rN {kindOf:Str→Option NameKind}:∀(binds:List (Str×Value)) (m:Str→Option Value),(∀x∈binds,kindOf x.1=some .local)→bindC kindOf binds m=m
 |[],_,_=>rfl
 |(n,v)::r,m,h=>by
  unfold bindC;rw[if_pos (h (n,v) (.head _))];exact rN r m fun x hx=>h x (.tail _ hx)
theorem pG:∀{cs:List (Str×α)},(cs.map (·.1)).Nodup→(n,a)∈cs→cs.lookup n=some a
 |(k,b)::r,hn,h=>by
  rw[List.map_cons,List.nodup_cons]at hn;rw[lLc];cases h with
  |head=>simp
  |tail _ h=>
   have:n≠k:=fun e=>hn.1 (e▸List.mem_map.mpr ⟨(n,a),h,rfl⟩)
   rw[beq_eq_false_iff_ne.mpr this];exact pG hn.2 h
section
variable {S:Sta} {d:Nat}
theorem xL {f:Addr}{fd:FuncData}{oc:Value}{od:Option Addr}{osl:Array (Option Value)}{body:List Stmt}{vs:List V}{ks bl:List (Str×V)}{loc:List (Option V)}{P:PX}{hp:List ai}{c:FC}{cns:List Str}(hc:{j3 fd f with cel:=uM hp.length cns,cst:=[]}=c)(hclo:fd.closure=[])
  (ho:S.K.lookup f=some ⟨oc,od,.func fd,osl⟩)(hcd:codeIn S.K fd.code fd.qualname=true)(hd:d<1000)(hbody:fd.body= .stmts body)(hb:Binds S fd vs ks bl.reverse)(hl:br c bl loc)
  (hcs:∀L:Nat,(cellsFrom (L+1) fd.scope.names []).map (·.1)=cns)(hnd:cns.Nodup)
  (h:WL S (d+1) c body (fun o σ'=>P (de o) σ'.hp) no ⟨loc,hp++List.replicate cns.length (.cell none)⟩)
  (hg:fd.globals=3:=by rfl)(hbl:fd.builtins=0:=by rfl)
  (hco:fd.scope.isCoroutine=false:=by rfl)(hgen:fd.scope.isGenerator=false:=by rfl)(hk:fd.scope.kind= .function:=by rfl):WFn S d (.ref f) vs ks P no hp:=
 fun A ρ s hA C vs' ks' r1 r2 R hQ hE=>by
  have X:=S.X.keeps C.keep;obtain⟨bs',hbs,hrel⟩:=hb ρ hp.length s vs' ks' X r1 r2;have hrev:=hrel.reverse;rw[List.reverse_reverse]at hrev;have hkd:∀x∈bs',fd.scope.names.lookup x.1=some .local:=fun x hx=>by
   haveI hm:x.1∈bs'.map (·.1):=List.mem_map_of_mem hx;rw[hrel.keys]at hm;obtain⟨y,hy,e⟩:=lMm hm;rw[←e];have:=hl.kinds y (List.mem_reverse.mp hy);rw[←hc]at this;exact this
  refine codeAny_call_function (Nat.lt_of_le_of_lt hA.depth hd) (X _ _ ho) rfl hco hgen hbody (codeRec_of X hcd) (hbs _ _ _ _ ?_);rw[hclo];refine wpAny_newFunctionEnv_cells hk (fun x hx=> .inl (hkd x hx)) fun env he s₁ x=>?_
  subst he;have hL:s.heap.get? s.heap.objs.size=none:=aq _ (nRe _);obtain⟨h',tk,rfl⟩:=x.toInCall.same;haveI C1:=(C.grows (s':={s with heap:=h',toks:=tk}) (fun b o e=>x.toInCall.keep b o e) C.gens rfl).1;haveI T1:=(C.grows (s':={s with heap:=h',toks:=tk}) (fun b o e=>x.toInCall.keep b o e) C.gens rfl).2;generalize hcse:cellsFrom (s.heap.objs.size+1) fd.scope.names []=cs at x;have hcm:cs.map (·.1)=cns:=by rw[←hcse];exact hcs _
  haveI above:∀p∈cs,s.heap.objs.size<p.2:=fun p hp'=>x.above p.1 p.2 hp'
  have none_at:∀p∈cs,s.heap.get? p.2=none:=fun p hp'=>aq _ (Nat.le_of_lt (above p hp'))
  haveI hkl:∀y∈bs',(newEnv fd.scope s.heap.objs.size fd.globals cs (fd.qualname++".<locals>.") (some f) fd.code none fd.builtins).kindOf y.1=some .local:=fun y hy=>hkd y hy
  obtain⟨ρ',C2,T2,f1,f2,f3,f4⟩:=E4 cs C1 T1 (fun p hp'=>⟨none_at p hp',C.free_of (none_at p hp'),C.nfz_of (none_at p hp'),C.fresh_of (none_at p hp'),by
   haveI hlk:cs.lookup p.1=some p.2:=pG (by rw[hcm];exact hnd) hp';have:=x.cell p.1 p.2 hlk;rw[rN _ _ hkl]at this;exact this⟩) x.apart
  haveI hlen:cs.length=cns.length:=by rw[←hcm,lMa]
  rw[hlen]at C2 T2 f3;haveI env:newEnv fd.scope s.heap.objs.size fd.globals cs (fd.qualname++".<locals>.") (some f) fd.code none fd.builtins=c.env cs s.heap.objs.size f:=by
   rw[←hc];unfold newEnv FC.env;rw[hg,hbl];rfl
  haveI CC:aG S c cs s.heap.objs.size ρ' ⟨loc,hp++List.replicate cns.length (.cell none)⟩ {s with heap:=h',toks:=tk}:=by
   refine⟨C2,⟨_,x.toInCall.ns,fun y=>?_⟩,C.fresh_of hL,f3 _ (C.free_of hL) fun p hp'=>nNe (above p hp'),fun q=>C.nfz_of hL ((f1 _).mp q),fun y i e=>?_,fun y a e=>?_⟩
   ·rw[hl.slot y,rM _ _ hkl];have:=(hrev.move (T2.moves C gH)).look (x:=y);cases q:List.lookup y bs'.reverse with
    |some v=>rw[q]at this;exact this
    |none=>rw[q]at this;exact this
   ·rw[←hc]at e;haveI e':(uM hp.length (cs.map (·.1))).lookup y=some i:=by rw[hcm];exact e
    haveI g1:=(f4 y i e').1;haveI g2:=(f4 y i e').2;refine⟨?_,g2⟩;show i<(hp++List.replicate cns.length (ai.cell none)).length;rw[lAp,List.length_replicate,←hlen];exact g1
   ·rw[←hc]at e;cases e
  refine⟨(S.lim.keeps C.keep).keeps x.toInCall.keep,codeAny_func ?_⟩;rw[env];refine h (A.deeper _) cs s.heap.objs.size f ρ' _ (hA.deeper _) CC _ _ (fun o fl σ' ρ'' s' p T C' r=>?_) (fun _ _ _ _ _ x=>x.elim);haveI TT:ah [s.heap.objs.size] ρ hp s ρ'' σ'.hp s':=(T2.weak fun b hb=>by cases hb).trans T;refine hQ (de o) _ σ'.hp ρ'' s' p (ah.leave (.refl ..) hL TT) C'.toCorrH ?_;cases o<;>cases fl<;>first|exact r.elim|exact .none|exact r
end
section
variable {S:Sta} {d:Nat} {c:FC} {X:PX} {σ:St}
theorem JL(h:AOk A d)(hd:d<1000):A.units+64<cLine:=by
 have:=h.units;unfold cLine;exact fj2 (Y1 (.a X0 (.k 64)) (.k 9900)) [(8,1,X1,.k 1000),Y0 X0 (.m 8 X1)] rfl hd this
theorem xM {x y:V}{ns ms:List Int}{P:PV}(hx:cO σ.hp x (ns.map .int))(hy:cO σ.hp y (ms.map .int))(hd:d<1000)(h:P (.bool (!decide (ns=ms))) σ):WO2 S d c (compareOp .NotEq) x y RelV P X σ:=fun A cl L ρ s hA C x' y' rx ry Q E hQ hE=>by
 refine C.toCorrH.lstE hx rx fun a xs hl hr _ rx=>?_
 refine C.toCorrH.lstE hy ry fun b ys hl2 hr2 _ ry=>?_
 haveI h1:s.heap.IsList a xs.toList.toArray:=by rw[Array.toArray_toList];exact hl.isList
 haveI h2:s.heap.IsList b ys.toList.toArray:=by rw[Array.toArray_toList];exact hl2.isList
 exact ke_ne_ints h1 h2 hr.ints hr2.ints (JL hA hd) (hQ _ _ σ ρ s h (.refl ..) C (.bool _))
noncomputable def uN(r:List Int):V:= .tup (r.map .int)
noncomputable def j4(r:List Int):PyData:= .tuple (r.map .int)
theorem Ct(r:IntsAre xs ns):ReadsAll h xs (ns.map PyData.int) []:=by
 induction r with
 |nil=>exact .nil
 |cons k t _ ih=>exact .cons (.int k t) ih
theorem tL {ρ:Pl}{n:Nat}{h:Heap}{rows:List (List Int)}{xs:List Value}(r:aj ρ n h (rows.map uN) xs):ReadsAll h xs (rows.map j4) []:=by
 induction rows generalizing xs with
 |nil=>exact r.nilE .nil
 |cons q t ih=>exact r.consE fun _ _ a b=>RelV.tupE a fun ad as ⟨k,e⟩ ra=> .cons (.tuple e rfl rfl (Ct ra.ints)) (ih b)
theorem su:∀rows:List (List Int),PyData.canLayAll0 (rows.map j4)=true
 |[]=>rfl
 |q::t=>by
  show(PyData.canLay0 (j4 q)&&PyData.canLayAll0 (t.map j4))=true;rw[su t,Bool.and_true];exact ke_canLayAll0 q
theorem tM:∀rows:List (List Int),PyData.depthAll (rows.map j4)≤1
 |[]=>nZl _
 |q::t=>by
  haveI h1:=tM t;haveI h2:=ke_depthAll q;show max (PyData.depth (j4 q)) (PyData.depthAll (t.map j4))≤1;haveI h3:PyData.depth (j4 q)≤1:=by
   show PyData.depthAll (q.map PyData.int)+1≤1;exact fj1 (Y0 (.i X0) (.k 1)) [Y2 X0 (.k 0)] rfl h2
  lia
theorem rO(rows:List (List Int)):SeqAt.shaped (.list (rows.map j4))=true:=by
 unfold SeqAt.shaped;have h1:PyData.canLay0 (.list (rows.map j4))=true:=su rows;have h2:=tM rows;have h3:PyData.depth (.list (rows.map j4))≤2:=by
  show PyData.depthAll (rows.map j4)+1≤2;exact fj1 (Y0 (.i X0) (.k 2)) [Y0 X0 (.k 1)] rfl h2
 rw[h1,dEt (by exact fj1 (Y0 X0 (.k 64)) [Y0 X0 (.k 2)] rfl h3)];rfl
theorem Hg {x y:V}{rows:List (List Int)}{P:PV}(hx:cO σ.hp x (rows.map uN))(hy:cO σ.hp y (rows.map uN))(hd:d<1000)(h:P (.bool true) σ):WO2 S d c (compareOp .Eq) x y RelV P X σ:=fun A cl L ρ s hA C x' y' rx ry Q E hQ hE=>by
 refine C.toCorrH.lstE hx rx fun a xs qq0 hr _ rx=>?_
 obtain⟨k1,e1⟩:=qq0;refine C.toCorrH.lstE hy ry fun b ys qq0 hr2 _ ry=>?_
 obtain⟨k2,e2⟩:=qq0;refine eq_dataH (.list e1 rfl rfl (tL hr)) (.list e2 rfl rfl (tL hr2)) (rO rows) (rO rows) (JL hA hd) ?_;rw[PySem.SeqAt.eqv_refl (.list (rows.map j4)) (su rows)];exact hQ _ _ σ ρ s h (.refl ..) C (.bool true)
end
section
variable {S:Sta} {d:Nat} {c:FC} {X:PX} {σ:St}
noncomputable def sv(x y:Str):Bool:= !(Builtin.Str.occurrences x y 0 x.length 1).isEmpty
theorem Cu(h:P (.bool (sv x y)) σ):WO2 S d c (compareOp .In) (.str y) (.str x) RelV P X σ:=fun A cl L ρ s hA C x' y' rx ry Q E hQ hE=>by
 refine rx.strE fun t=>?_
 refine ry.strE fun u=>?_
 exact in_str (hQ _ _ σ ρ s h (.refl ..) C (.bool _))
theorem Hh(h:P (.bool (!sv x y)) σ):WO2 S d c (compareOp .NotIn) (.str y) (.str x) RelV P X σ:=fun A cl L ρ s hA C x' y' rx ry Q E hQ hE=>by
 refine rx.strE fun t=>?_
 refine ry.strE fun u=>?_
 exact notIn_str (hQ _ _ σ ρ s h (.refl ..) C (.bool _))
theorem E5(hz:x.length+y.length≤100000)(h:P (.str (x++y)) σ):WO2 S d c (binaryOp .Add) (.str x) (.str y) RelV P X σ:=fun A cl L ρ s hA C x' y' rx ry Q E hQ hE=>by
 refine rx.strE fun t=>?_
 refine ry.strE fun u=>?_
 refine add_str (fun t' tk=>?_) (by rw[szl];exact fj2 (Y0 (.a X0 X1) (.k 16777216)) [Y0 (.a X0 X1) (.k 100000)] rfl hz);haveI C':=(C.toks tk).1;haveI T:=(C.toks tk).2;exact hQ _ _ σ ρ _ h T C' (.str _ _)
theorem Hi(hk:k≠0)(hp:Builtin.divisionGoesByPylong (b-a) k=false)(h:P (.rng a b k) σ):aI S d c (.top (.type "range")) [.int a,.int b,.int k] [] P X σ:=fun A cl L ρ s hA C f' vs' ks' rf r1 r2 Q E hQ hE=>by
 obtain rfl:=rf.top_inv;refine r2.nilE ?_;refine r1.threeE fun _ _ _ ra rb rk=>?_
 refine ra.intE fun t=>?_
 refine rb.intE fun u=>?_
 refine rk.intE fun v=>?_
 refine⟨⟨.machine,.inr (.inl rfl),ny _ _⟩,?_⟩;refine call_range_3 hk ?_ (.inl hp);obtain⟨C',T⟩:=C.freeze (s':={s with heap:=s.heap.push {cls:= .type "range",data:= .fields #[.int a t,.int b u,.int k v]}}) (fun b o e=>Heap.get?_push_of_some _ e) C.gens rfl (·=s.heap.objs.size) fun b hb=>by
  subst hb;exact⟨aq _ (nRe _),by show((s.heap.push _).get? _).isSome=true;rw[Heap.get?_push_size _ rfl];rfl⟩
 exact hQ _ _ σ _ _ h T C' (.rng (.inr rfl) (Heap.get?_push_size _ rfl))
end
section
variable {S:Sta} {d:Nat} {c:FC} {X:PX} {σ:St} {rest:List Stmt} {P:Out→St→Prop} {R:PV} {x:Str} {p p0 p1 p2:Pos} {e:Ex} {i:Nat} {v:V}
theorem s_i(h:WB S d c e (kIf S d c b1 b2 (lT S d c rest P X) X) X σ):WL S d c (.If e b1 b2 p::rest) P X σ:=ay (Vn h)
theorem s_a(h:WEx S d c e (Ch c x (lT S d c rest P X)) X σ)(hk:c.scope.kind= .function:=by rfl)(hs:∀env,swapsWith e (some (.Name x p1)) p.line env=pure false:=by intro _;rfl):WL S d c (.Assign [.Name x p1] e p::rest) P X σ:=ay (GZ h hk hs)
theorem s_r(h:WEx S d c e (kRt P) X σ):WL S d c (.Return (some e) p::rest) P X σ:=ay (JD h)
theorem s_e(h:WEx S d c e (kNx (lT S d c rest P X)) X σ)(hi:∀cl L a,interactive (c.env cl L a)=false:=by intro _ _ _;rfl)(hs:∀env,swapsWith e none p.line env=pure false:=by intro _;rfl):WL S d c (.Expr e p::rest) P X σ:=ay (Pz h hi hs)
theorem dl(h:WEx S d c e (kSa S d c name o (lT S d c rest P X) X) X σ)(hs:∀env,swapsWith e (some (.Attribute o name p1)) p.line env=pure false:=by intro _;rfl):WL S d c (.Assign [.Attribute o name p1] e p::rest) P X σ:=ay (EO h hs)
theorem cX(h:WB S d c e (kIf S d c b1 b2 (lT S d c rest P X) X) X σ):WL S d c [] (lT S d c (.If e b1 b2 p::rest) P X) X σ:=ae (s_i h)
theorem k8(h:WEx S d c e (Ch c x (lT S d c rest P X)) X σ)(hk:c.scope.kind= .function:=by rfl)(hs:∀env,swapsWith e (some (.Name x p1)) p.line env=pure false:=by intro _;rfl):WL S d c [] (lT S d c (.Assign [.Name x p1] e p::rest) P X) X σ:=ae (s_a h hk hs)
theorem je(h:WEx S d c e (kRt P) X σ):WL S d c [] (lT S d c (.Return (some e) p::rest) P X) X σ:=ae (s_r h)
theorem av(n:ac c x i .local)(hv:σ.loc[i]?=some (some v))(h:WGA S d c v name R X σ)(hk:c.scope.kind= .function:=by rfl)(ha:∀env,attributeBase (.Name x p1) name env (eval (.Name x p1) env)=eval (.Name x p1) env:=by intro _;rfl):WEx S d c (.Attribute (.Name x p1) name p) R X σ:=cN (aa n hv h hk) ha
theorem cy(n:ac c x i .local)(hv:σ.loc[i]?=some (some v))(h:iO S d c v name (kMt S d c args kws R X) X σ)(hk:c.scope.kind= .function:=by rfl)(h1:args.all dJ=true:=by rfl)(h2:kws.all (·.arg.isSome)=true:=by rfl)(h3:args.length+kws.length<29:=by decide)(h4:(ap.endLine==p.line)=true:=by rfl)(ha:∀env,attributeBase (.Name x p1) name env (eval (.Name x p1) env)=eval (.Name x p1) env:=by intro _;rfl):WEx S d c (.Call (.Attribute (.Name x p1) name ap) args kws p) R X σ:=qj (aa n hv h hk) h1 h2 h3 h4 ha
theorem d0(n:ac c x i .local)(hv:σ.loc[i]?=some (some v))(h:JH S d c (.Name x p1) slice R X v σ)(hk:c.scope.kind= .function:=by rfl):WEx S d c (.Subscript (.Name x p1) slice p) R X σ:=ie (aa n hv h hk)
theorem cC(n:ac c x i .local)(hv:σ.loc[i]?=some (some v))(h:WEx S d c r (Pu S d c op R X v) X σ)(hk:c.scope.kind= .function:=by rfl):WEx S d c (.BinOp (.Name x p1) op r p) R X σ:=am (aa n hv h hk)
theorem eg(n:ac c x i .local)(hv:σ.loc[i]?=some (some v))(h:WO2 S d c (binaryOp op) v (.int k) RelV R X σ)(hk:c.scope.kind= .function:=by rfl):WEx S d c (.BinOp (.Name x p1) op (.Constant (.int k) j p2) p) R X σ:=am (aa n hv (af h) hk)
theorem fF(n:ac c x i .local)(hv:σ.loc[i]?=some (some v))(h:WEx S d c r (Pw S d c op (kB Q) X v) X σ)(hk:c.scope.kind= .function:=by rfl)(hm:behindInMarks op r=false:=by with_unfolding_all rfl):WB S d c (.Compare (.Name x p1) [op] [r] p) Q X σ:=bz (aa n hv h hk) hm
theorem dR(n:ac c x i .local)(hv:σ.loc[i]?=some (some v))(h:WO2 S d c (compareOp op) v (.int k) RelV (kB Q) X σ)(hk:c.scope.kind= .function:=by rfl)(hm:behindInMarks op (.Constant (.int k) j p2)=false:=by with_unfolding_all rfl):WB S d c (.Compare (.Name x p1) [op] [.Constant (.int k) j p2] p) Q X σ:=bz (aa n hv (af h) hk) hm
theorem aQ(n:ac c x i .globalImplicit)(hb:eW S x f)(h:WEs S d c X args (Hb S d c (.top f) kws R X) σ)(hk:c.scope.kind= .function:=by rfl)(h1:args.all dJ=true:=by rfl)(h2:kws.all (·.arg.isSome)=true:=by rfl)
  (he:∀env,eval (.Call (.Name x p1) args kws p) env=(do callWith p (←eval (.Name x p1) env) [] (backTo p (starEach args env)) (backToKw p (keywordEach kws env))):=by intro _;rfl):WEx S d c (.Call (.Name x p1) args kws p) R X σ:=EL (gK n hb h hk) h1 h2 he
theorem bH(n:ac c x i .globalImplicit)(hb:bP S x w)(h:WEs S d c X args (Hb S d c w kws R X) σ)(hk:c.scope.kind= .function:=by rfl)(h1:args.all dJ=true:=by rfl)(h2:kws.all (·.arg.isSome)=true:=by rfl)
  (he:∀env,eval (.Call (.Name x p1) args kws p) env=(do callWith p (←eval (.Name x p1) env) [] (backTo p (starEach args env)) (backToKw p (keywordEach kws env))):=by intro _;rfl):WEx S d c (.Call (.Name x p1) args kws p) R X σ:=EL (au n hb h hk) h1 h2 he
theorem a_n {lo lo':List (Option V)}{hp:List ai}{Q:St→Prop}(n:ac c x i .local)(hs:aT (some v) i lo lo')(h:Q ⟨lo',hp⟩)(hk:c.scope.kind= .function:=by rfl):WA S d c (.Name x p) v Q X ⟨lo,hp⟩:=qh (ag n hs h) hk
end
noncomputable def re:Addr:=1367
def Bc:List Stmt:=ce (an pw.main.body 20)
def d7:FC:={qual:=("_inet_pton_af_inet":Str)++".<locals>.",scope:=bb (an pw.main.body 20),code:= .ref 1366,fn:=1367,cst:=[]}
noncomputable def tN:Addr:=1372
def E6:List Stmt:=ce (an pw.main.body 21)
def lX:FC:={qual:=("inet_pton":Str)++".<locals>.",scope:=bb (an pw.main.body 21),code:= .ref 1371,fn:=1372,cst:=[]}
noncomputable def tO:Addr:=1527
def E7:List Stmt:=ce (an pw.main.body 34)
def fo:FC:={qual:=("str_to_int":Str)++".<locals>.",scope:=bb (an pw.main.body 34),code:= .ref 1526,fn:=1527,cst:=[]}
noncomputable def rg:Addr:=1584
def Bd:List Stmt:=ce (an (aF 46) 1)
def j5:FC:={qual:=("Ipv4Names.str_to_int":Str)++".<locals>.",scope:=bb (an (aF 46) 1),code:= .ref 1583,fn:=1584,cst:=[]}
noncomputable def iF:Addr:=2212
def tP:List Stmt:=ce (an (aF 74) 0)
def ly:FC:={qual:=("BaseIP.__init__":Str)++".<locals>.",scope:=bb (an (aF 74) 0),code:= .ref 2211,fn:=2212,cst:=[]}
noncomputable def xN:Addr:=2271
def PN:List Stmt:=ce (an (aF 74) 8)
def xO:FC:={qual:=("BaseIP.__lt__":Str)++".<locals>.",scope:=bb (an (aF 74) 8),code:= .ref 2270,fn:=2271,cst:=[]}
def PO:FC:={qual:=("BaseIP.__gt__":Str)++".<locals>.",scope:=bb (an (aF 74) 10),code:= .ref 2284,fn:=2285,cst:=[]}
noncomputable def mv:Addr:=2313
def vE:List Stmt:=ce (an (aF 74) 14)
def mw:FC:={qual:=("BaseIP.version":Str)++".<locals>.",scope:=bb (an (aF 74) 14),code:= .ref 2312,fn:=2313,cst:=[]}
noncomputable def eZ:Addr:=2338
def tQ:List Stmt:=ce (an (aF 75) 0)
def bC:FC:={qual:=("IPAddress.__init__":Str)++".<locals>.",scope:=bb (an (aF 75) 0),code:= .ref 2337,fn:=2338,cst:=[("__class__",2325)]}
def E8:FC:={qual:=("IPListMixin.size":Str)++".<locals>.",scope:=bb (an (aF 76) 1),code:= .ref 2587,fn:=2588,cst:=[]}
noncomputable def lI:Addr:=2624
def Be:List Stmt:=ce (an pw.main.body 77)
def cT:FC:={qual:=("parse_ip_network":Str)++".<locals>.",scope:=bb (an pw.main.body 77),code:= .ref 2623,fn:=2624,cst:=[]}
noncomputable def fU:Addr:=2642
def vF:List Stmt:=ce (an (aF 78) 0)
def bG:FC:={qual:=("IPNetwork.__init__":Str)++".<locals>.",scope:=bb (an (aF 78) 0),code:= .ref 2641,fn:=2642,cst:=[("__class__",2628)]}
noncomputable def mU:Addr:=2656
def rP:List Stmt:=ce (an (aF 78) 2)
def kq:FC:={qual:=("IPNetwork.prefixlen":Str)++".<locals>.",scope:=bb (an (aF 78) 2),code:= .ref 2655,fn:=2656,cst:=[]}
noncomputable def oN:Addr:=2697
def tR:List Stmt:=ce (an (aF 78) 7)
def lz:FC:={qual:=("IPNetwork.first":Str)++".<locals>.",scope:=bb (an (aF 78) 7),code:= .ref 2696,fn:=2697,cst:=[]}
noncomputable def qo:Addr:=2705
def vG:List Stmt:=ce (an (aF 78) 8)
def kD:FC:={qual:=("IPNetwork.last":Str)++".<locals>.",scope:=bb (an (aF 78) 8),code:= .ref 2704,fn:=2705,cst:=[]}
def vH:FC:={qual:=("IPNetwork._netmask_int":Str)++".<locals>.",scope:=bb (an (aF 78) 11),code:= .ref 2729,fn:=2730,cst:=[]}
noncomputable def oO:Addr:=2746
def tS:List Stmt:=ce (an (aF 78) 13)
def lA:FC:={qual:=("IPNetwork._hostmask_int":Str)++".<locals>.",scope:=bb (an (aF 78) 13),code:= .ref 2745,fn:=2746,cst:=[]}
def E9:FC:={qual:=("IPNetwork.cidr":Str)++".<locals>.",scope:=bb (an (aF 78) 14),code:= .ref 2753,fn:=2754,cst:=[]}
noncomputable def sw:Addr:=2790
def xP:List Stmt:=ce (an (aF 78) 19)
def jf:FC:={qual:=("IPNetwork.sort_key":Str)++".<locals>.",scope:=bb (an (aF 78) 19),code:= .ref 2789,fn:=2790,cst:=[]}
noncomputable def mV:Addr:=2885
def rQ:List Stmt:=ce (an (aF 79) 0)
def e7:FC:={qual:=("IPRange.__init__":Str)++".<locals>.",scope:=bb (an (aF 79) 0),code:= .ref 2884,fn:=2885,cst:=[]}
noncomputable def oP:Addr:=2899
def tT:List Stmt:=ce (an (aF 79) 2)
def lB:FC:={qual:=("IPRange.first":Str)++".<locals>.",scope:=bb (an (aF 79) 2),code:= .ref 2898,fn:=2899,cst:=[]}
noncomputable def qp:Addr:=2907
def vI:List Stmt:=ce (an (aF 79) 3)
def mx:FC:={qual:=("IPRange.last":Str)++".<locals>.",scope:=bb (an (aF 79) 3),code:= .ref 2906,fn:=2907,cst:=[]}
noncomputable def jG:Addr:=2929
def tU:List Stmt:=ce (an (aF 79) 6)
def jH:FC:={qual:=("IPRange.cidrs":Str)++".<locals>.",scope:=bb (an (aF 79) 6),code:= .ref 2928,fn:=2929,cst:=[]}
noncomputable def rh:Addr:=2955
def Bf:List Stmt:=ce (an pw.main.body 80)
def cw:FC:={qual:=("cidr_merge":Str)++".<locals>.",scope:=bb (an pw.main.body 80),code:= .ref 2954,fn:=2955,cst:=[]}
noncomputable def nF:Addr:=2962
def Fa:List Stmt:=ce (an pw.main.body 81)
def fq:FC:={qual:=("cidr_partition":Str)++".<locals>.",scope:=bb (an pw.main.body 81),code:= .ref 2961,fn:=2962,cst:=[]}
noncomputable def tV:Addr:=2967
def xQ:List Stmt:=ce (an pw.main.body 82)
def eP:FC:={qual:=("spanning_cidr":Str)++".<locals>.",scope:=bb (an pw.main.body 82),code:= .ref 2966,fn:=2967,cst:=[]}
noncomputable def rl:Addr:=2982
def Bg:List Stmt:=ce (an pw.main.body 84)
def fc:FC:={qual:=("iprange_to_cidrs":Str)++".<locals>.",scope:=bb (an pw.main.body 84),code:= .ref 2981,fn:=2982,cst:=[]}
noncomputable def oQ:Addr:=2989
def xR:List Stmt:=ce (an pw.main.body 86)
def gP:FC:={qual:=("_law_blocks":Str)++".<locals>.",scope:=bb (an pw.main.body 86),code:= .ref 2988,fn:=2989,cst:=[]}
noncomputable def tW:Addr:=2994
def Fb:List Stmt:=ce (an pw.main.body 87)
def tX:FC:={qual:=("_law_told":Str)++".<locals>.",scope:=bb (an pw.main.body 87),code:= .ref 2993,fn:=2994,cst:=[]}
noncomputable def rm:Addr:=2999
def uO:List Stmt:=ce (an pw.main.body 88)
def Km:FC:={qual:=("_law_least":Str)++".<locals>.",scope:=bb (an pw.main.body 88),code:= .ref 2998,fn:=2999,cst:=[]}
noncomputable def oR:Addr:=3004
def JM:List Stmt:=ce (an pw.main.body 89)
def Ts:FC:={qual:=("law":Str)++".<locals>.",scope:=bb (an pw.main.body 89),code:= .ref 3003,fn:=3004,cst:=[]}
noncomputable abbrev aU:Addr:=2565
noncomputable abbrev aM:Addr:=2868
noncomputable abbrev cu:Addr:=2946
noncomputable abbrev m4:Addr:=1644
noncomputable abbrev m6:Addr:=2197
noncomputable abbrev dj(m:Addr)(v:Int):V:= .inst aU [("_value",.int v),("_module",.top (.ref m))]
noncomputable abbrev aY(m:Addr)(v p:Int):V:= .inst aM [("_value",.int v),("_module",.top (.ref m)),("_prefixlen",.int p)]
noncomputable abbrev qq(m:Addr)(a b:Int):V:= .inst cu [("_start",dj m a),("_module",.top (.ref m)),("_end",dj m b)]
theorem qr(hb:b=true)(h:A):(b=true→A)∧(b=false→B):=⟨fun _=>h,fun e=>(by rw[hb]at e;cases e)⟩
theorem qs:look ((k,w)::r) k=some w:=by show List.lookup k _=_;rw[lLc,beq_self_eq_true]
theorem sx(h:(k==k')=false):look ((k',w)::r) k=look r k:=by show List.lookup k _=_;rw[lLc,h];rfl
theorem dE:kY ((k,a)::r) k w=(k,w)::r:=by show(if(k==k)=true then _ else _)=_;rw[beq_self_eq_true];rfl
theorem gQ(h:(k'==k)=false)(hr:kY r k w=r'):kY ((k',a)::r) k w=(k',a)::r':=by show(if(k'==k)=true then _ else _)=_;rw[h,←hr];rfl
theorem fG:kY [] k w=[(k,w)]:=rfl
theorem my:(("_module":Str)=="_value")=false:=by kernel_rfl
theorem tY:(("_module":Str)=="_start")=false:=by kernel_rfl
theorem qt:(("_prefixlen":Str)=="_value")=false:=by kernel_rfl
theorem pT:(("_prefixlen":Str)=="_module")=false:=by kernel_rfl
theorem v5:(("_end":Str)=="_module")=false:=by kernel_rfl
theorem xS:(("_end":Str)=="_start")=false:=by kernel_rfl
section
variable {S:Sta} {d:Nat} {c:FC} {X:PX} {σ:St}
theorem Bh(x:Str):plainGet S.K aU x=true:=lO (by kernel_rfl) (by kernel_rfl) x
theorem uP:hasDictIn S.K aU=true:=by kernel_rfl
theorem Kn:(clsIn S.K aU).isSome=true:=by kernel_rfl
theorem Ko:plainOver S.K aU=true:=by kernel_rfl
theorem Kp:findIn S.K (.ref aU) "__setattr__" =some (some (.builtin "object.__setattr__")):=aS
theorem rn:oG S.K (.ref aU)=true:=by kernel_rfl
theorem Kq:makesIn S.K aU=true:=by kernel_rfl
theorem jx:keepIn S.K (.ref aU)=true:=by kernel_rfl
theorem Kr:findIn S.K (.ref aU) "__init__" =some (some (.ref 2338)):=aS
theorem Ks:typeIn S.K (.ref 2338)=some (.type "function"):=by kernel_rfl
theorem pH:findIn S.K (.ref aU) "_value" =some none:=aS
theorem fK:takerIn S.K aU "_value" =some none:=ik pH
theorem dL(hI:ck σ.hp v aU (("_value",a0)::r))(h:P a0 σ)(hw:a0.hand=true:=by rfl):WGA S d c v "_value" P X σ:=il hI (Bh _) uP pH (qs) hw h
theorem nG:findIn S.K (.ref aU) "_module" =some none:=aS
theorem fe:takerIn S.K aU "_module" =some none:=ik nG
theorem cm(hI:ck σ.hp v aU (("_value",a0)::("_module",a1)::r))(h:P a1 σ)(hw:a1.hand=true:=by rfl):WGA S d c v "_module" P X σ:=il hI (Bh _) uP nG ((sx my).trans<|qs) hw h
theorem fL {i:Nat}{fs fs':List (Str×V)}{w:V}{name:Str}{hp':List ai}{P:St→Prop}{lo:List (Option V)}{hp:List ai}(hi:hp[i]?=some (.inst aU fs))(ht:takerIn S.K aU name=some none)(hs:kY fs name w=fs')(hz:fs.length<1000)(hset:aT (.inst aU fs') i hp hp')(h:P ⟨lo,hp'⟩):WSA S d c (.obj i) name w P X ⟨lo,hp⟩:=sm (σ:=⟨lo,hp⟩) hi Kp Ko ht uP hz (by rw[hs,←hset.eq.1];exact h)
theorem iW(x:Str):plainGet S.K aM x=true:=lO (by kernel_rfl) (by kernel_rfl) x
theorem tZ:hasDictIn S.K aM=true:=by kernel_rfl
theorem nH:(clsIn S.K aM).isSome=true:=by kernel_rfl
theorem PP:plainOver S.K aM=true:=by kernel_rfl
theorem PQ:findIn S.K (.ref aM) "__setattr__" =some (some (.builtin "object.__setattr__")):=aS
theorem xT:oG S.K (.ref aM)=true:=by kernel_rfl
theorem PT:makesIn S.K aM=true:=by kernel_rfl
theorem dw:keepIn S.K (.ref aM)=true:=by kernel_rfl
theorem PU:findIn S.K (.ref aM) "__init__" =some (some (.ref 2642)):=aS
theorem PW:typeIn S.K (.ref 2642)=some (.type "function"):=by kernel_rfl
theorem qu:findIn S.K (.ref aM) "_value" =some none:=aS
theorem gv:takerIn S.K aM "_value" =some none:=ik qu
theorem io(hI:ck σ.hp v aM (("_value",a0)::r))(h:P a0 σ)(hw:a0.hand=true:=by rfl):WGA S d c v "_value" P X σ:=il hI (iW _) tZ qu (qs) hw h
theorem pI:findIn S.K (.ref aM) "_module" =some none:=aS
theorem fM:takerIn S.K aM "_module" =some none:=ik pI
theorem cD(hI:ck σ.hp v aM (("_value",a0)::("_module",a1)::r))(h:P a1 σ)(hw:a1.hand=true:=by rfl):WGA S d c v "_module" P X σ:=il hI (iW _) tZ pI ((sx my).trans<|qs) hw h
theorem lY:findIn S.K (.ref aM) "_prefixlen" =some none:=aS
theorem ft:takerIn S.K aM "_prefixlen" =some none:=ik lY
theorem fu(hI:ck σ.hp v aM (("_value",a0)::("_module",a1)::("_prefixlen",a2)::r))(h:P a2 σ)(hw:a2.hand=true:=by rfl):WGA S d c v "_prefixlen" P X σ:=il hI (iW _) tZ lY ((sx qt).trans<|(sx pT).trans<|qs) hw h
theorem et {i:Nat}{fs fs':List (Str×V)}{w:V}{name:Str}{hp':List ai}{P:St→Prop}{lo:List (Option V)}{hp:List ai}(hi:hp[i]?=some (.inst aM fs))(ht:takerIn S.K aM name=some none)(hs:kY fs name w=fs')(hz:fs.length<1000)(hset:aT (.inst aM fs') i hp hp')(h:P ⟨lo,hp'⟩):WSA S d c (.obj i) name w P X ⟨lo,hp⟩:=sm (σ:=⟨lo,hp⟩) hi PQ PP ht tZ hz (by rw[hs,←hset.eq.1];exact h)
theorem uQ:findIn S.K (.ref aM) "version" =some (some (.ref 2314)):=aS
theorem uR:specialIn S.K (.ref 2314) "__get__" =some (some (.builtin "property.__get__")):=by kernel_rfl
theorem uS:takesIn S.K (.ref 2314)=some true:=by kernel_rfl
theorem uT:recIn S.K 2314 "property" =some [(.ref 2313),.none,.none,.none,(.str "version" (S.τ 13000314)),(.bool false)]:=by kernel_rfl
theorem bx {v:V}{fs:List (Str×V)}{P:PV}{lo:List (Option V)}{hp:List ai}(hI:ck hp v aM fs)(h:WFn S (d+1) (.ref 2313) [v] [] (km P lo) no hp):WGA S d c v "version" P X ⟨lo,hp⟩:=jr hI (iW _) nH uQ uR uS uT h
theorem sy:findIn S.K (.ref aM) "prefixlen" =some (some (.ref 2666)):=aS
theorem sA:specialIn S.K (.ref 2666) "__get__" =some (some (.builtin "property.__get__")):=by kernel_rfl
theorem sB:takesIn S.K (.ref 2666)=some true:=by kernel_rfl
theorem sC:recIn S.K 2666 "property" =some [(.ref 2656),(.ref 2665),.none,.none,(.str "prefixlen" (S.τ 13000724)),(.bool false)]:=by kernel_rfl
theorem bV {v:V}{fs:List (Str×V)}{P:PV}{lo:List (Option V)}{hp:List ai}(hI:ck hp v aM fs)(h:WFn S (d+1) (.ref 2656) [v] [] (km P lo) no hp):WGA S d c v "prefixlen" P X ⟨lo,hp⟩:=jr hI (iW _) nH sy sA sB sC h
theorem xU:findIn S.K (.ref aM) "first" =some (some (.ref 2698)):=aS
theorem xV:specialIn S.K (.ref 2698) "__get__" =some (some (.builtin "property.__get__")):=by kernel_rfl
theorem xW:takesIn S.K (.ref 2698)=some true:=by kernel_rfl
theorem xX:recIn S.K 2698 "property" =some [(.ref 2697),.none,.none,.none,(.str "first" (S.τ 13000766)),(.bool false)]:=by kernel_rfl
theorem bA {v:V}{fs:List (Str×V)}{P:PV}{lo:List (Option V)}{hp:List ai}(hI:ck hp v aM fs)(h:WFn S (d+1) (.ref 2697) [v] [] (km P lo) no hp):WGA S d c v "first" P X ⟨lo,hp⟩:=jr hI (iW _) nH xU xV xW xX h
theorem zE:findIn S.K (.ref aM) "last" =some (some (.ref 2706)):=aS
theorem zF:specialIn S.K (.ref 2706) "__get__" =some (some (.builtin "property.__get__")):=by kernel_rfl
theorem zG:takesIn S.K (.ref 2706)=some true:=by kernel_rfl
theorem zH:recIn S.K 2706 "property" =some [(.ref 2705),.none,.none,.none,(.str "last" (S.τ 13000775)),(.bool false)]:=by kernel_rfl
theorem dm {v:V}{fs:List (Str×V)}{P:PV}{lo:List (Option V)}{hp:List ai}(hI:ck hp v aM fs)(h:WFn S (d+1) (.ref 2705) [v] [] (km P lo) no hp):WGA S d c v "last" P X ⟨lo,hp⟩:=jr hI (iW _) nH zE zF zG zH h
theorem oT:findIn S.K (.ref aM) "_hostmask_int" =some (some (.ref 2747)):=aS
theorem oU:specialIn S.K (.ref 2747) "__get__" =some (some (.builtin "property.__get__")):=by kernel_rfl
theorem oV:takesIn S.K (.ref 2747)=some true:=by kernel_rfl
theorem oW:recIn S.K 2747 "property" =some [(.ref 2746),.none,.none,.none,(.str "_hostmask_int" (S.τ 13000820)),(.bool false)]:=by kernel_rfl
theorem jI {v:V}{fs:List (Str×V)}{P:PV}{lo:List (Option V)}{hp:List ai}(hI:ck hp v aM fs)(h:WFn S (d+1) (.ref 2746) [v] [] (km P lo) no hp):WGA S d c v "_hostmask_int" P X ⟨lo,hp⟩:=jr hI (iW _) nH oT oU oV oW h
theorem mz:findIn S.K (.ref aM) "sort_key" =some (some (.ref 2790)):=aS
theorem mA:isFn S.K (.ref 2790)=true:=by kernel_rfl
theorem mB:keepIn S.K (.ref 2790)=true:=by kernel_rfl
theorem lZ(x:Str):plainGet S.K cu x=true:=lO (by kernel_rfl) (by kernel_rfl) x
theorem t6:hasDictIn S.K cu=true:=by kernel_rfl
theorem xY:(clsIn S.K cu).isSome=true:=by kernel_rfl
theorem PY:plainOver S.K cu=true:=by kernel_rfl
theorem PZ:findIn S.K (.ref cu) "__setattr__" =some (some (.builtin "object.__setattr__")):=aS
theorem Fc:oG S.K (.ref cu)=true:=by kernel_rfl
theorem Qa:makesIn S.K cu=true:=by kernel_rfl
theorem Qb:keepIn S.K (.ref cu)=true:=by kernel_rfl
theorem Qc:findIn S.K (.ref cu) "__init__" =some (some (.ref 2885)):=aS
theorem Qd:typeIn S.K (.ref 2885)=some (.type "function"):=by kernel_rfl
theorem qv:findIn S.K (.ref cu) "_start" =some none:=aS
theorem xZ:takerIn S.K cu "_start" =some none:=ik qv
theorem jJ(hI:ck σ.hp v cu (("_start",a0)::r))(h:P a0 σ)(hw:a0.hand=true:=by rfl):WGA S d c v "_start" P X σ:=il hI (lZ _) t6 qv (qs) hw h
theorem pJ:findIn S.K (.ref cu) "_module" =some none:=aS
theorem v6:takerIn S.K cu "_module" =some none:=ik pJ
theorem pK(hI:ck σ.hp v cu (("_start",a0)::("_module",a1)::r))(h:P a1 σ)(hw:a1.hand=true:=by rfl):WGA S d c v "_module" P X σ:=il hI (lZ _) t6 pJ ((sx tY).trans<|qs) hw h
theorem t7:findIn S.K (.ref cu) "_end" =some none:=aS
theorem Cv:takerIn S.K cu "_end" =some none:=ik t7
theorem oX(hI:ck σ.hp v cu (("_start",a0)::("_module",a1)::("_end",a2)::r))(h:P a2 σ)(hw:a2.hand=true:=by rfl):WGA S d c v "_end" P X σ:=il hI (lZ _) t6 t7 ((sx xS).trans<|(sx v5).trans<|qs) hw h
theorem x6 {i:Nat}{fs fs':List (Str×V)}{w:V}{name:Str}{hp':List ai}{P:St→Prop}{lo:List (Option V)}{hp:List ai}(hi:hp[i]?=some (.inst cu fs))(ht:takerIn S.K cu name=some none)(hs:kY fs name w=fs')(hz:fs.length<1000)(hset:aT (.inst cu fs') i hp hp')(h:P ⟨lo,hp'⟩):WSA S d c (.obj i) name w P X ⟨lo,hp⟩:=sm (σ:=⟨lo,hp⟩) hi PZ PY ht t6 hz (by rw[hs,←hset.eq.1];exact h)
theorem uU:findIn S.K (.ref cu) "version" =some (some (.ref 2314)):=aS
theorem uV:specialIn S.K (.ref 2314) "__get__" =some (some (.builtin "property.__get__")):=by kernel_rfl
theorem uW:takesIn S.K (.ref 2314)=some true:=by kernel_rfl
theorem uX:recIn S.K 2314 "property" =some [(.ref 2313),.none,.none,.none,(.str "version" (S.τ 13000314)),(.bool false)]:=by kernel_rfl
theorem uY {v:V}{fs:List (Str×V)}{P:PV}{lo:List (Option V)}{hp:List ai}(hI:ck hp v cu fs)(h:WFn S (d+1) (.ref 2313) [v] [] (km P lo) no hp):WGA S d c v "version" P X ⟨lo,hp⟩:=jr hI (lZ _) xY uU uV uW uX h
theorem x7:findIn S.K (.ref cu) "first" =some (some (.ref 2900)):=aS
theorem x8:specialIn S.K (.ref 2900) "__get__" =some (some (.builtin "property.__get__")):=by kernel_rfl
theorem x9:takesIn S.K (.ref 2900)=some true:=by kernel_rfl
theorem ya:recIn S.K 2900 "property" =some [(.ref 2899),.none,.none,.none,(.str "first" (S.τ 13001011)),(.bool false)]:=by kernel_rfl
theorem yb {v:V}{fs:List (Str×V)}{P:PV}{lo:List (Option V)}{hp:List ai}(hI:ck hp v cu fs)(h:WFn S (d+1) (.ref 2899) [v] [] (km P lo) no hp):WGA S d c v "first" P X ⟨lo,hp⟩:=jr hI (lZ _) xY x7 x8 x9 ya h
theorem zI:findIn S.K (.ref cu) "last" =some (some (.ref 2908)):=aS
theorem zJ:specialIn S.K (.ref 2908) "__get__" =some (some (.builtin "property.__get__")):=by kernel_rfl
theorem zK:takesIn S.K (.ref 2908)=some true:=by kernel_rfl
theorem zL:recIn S.K 2908 "property" =some [(.ref 2907),.none,.none,.none,(.str "last" (S.τ 13001019)),(.bool false)]:=by kernel_rfl
theorem zM {v:V}{fs:List (Str×V)}{P:PV}{lo:List (Option V)}{hp:List ai}(hI:ck hp v cu fs)(h:WFn S (d+1) (.ref 2907) [v] [] (km P lo) no hp):WGA S d c v "last" P X ⟨lo,hp⟩:=jr hI (lZ _) xY zI zJ zK zL h
theorem wW(x:Str):plainGet S.K 1638 x=true:=lO (by kernel_rfl) (by kernel_rfl) x
theorem Cw:hasDictIn S.K 1638=true:=by kernel_rfl
theorem wX:S.K.lookup m4=some ⟨.ref 1638,some 1643,.plain,#[]⟩:=by kernel_rfl
noncomputable def Cx(S:Sta):Obj:={cls:=(.type "dict"),dict:=none,data:=(.dict #[⟨PyData.keyHash S.w.params "width",(.str "width" (S.τ 7000154)),(.int (32) (S.τ 1000104))⟩,⟨PyData.keyHash S.w.params "family_name",(.str "family_name" (S.τ 7000156)),(.str "IPv4" (S.τ 1000108))⟩,⟨PyData.keyHash S.w.params "version",(.str "version" (S.τ 7000158)),(.int (4) (S.τ 1000110))⟩,⟨PyData.keyHash S.w.params "max_int",(.str "max_int" (S.τ 7000160)),(.int (4294967295) (S.τ 1000115))⟩,⟨PyData.keyHash S.w.params "prefix_to_netmask",(.str "prefix_to_netmask" (S.τ 7000162)),(.ref 1426)⟩,⟨PyData.keyHash S.w.params "netmask_to_prefix",(.str "netmask_to_prefix" (S.τ 7000164)),(.ref 1471)⟩,⟨PyData.keyHash S.w.params "hostmask_to_prefix",(.str "hostmask_to_prefix" (S.τ 7000166)),(.ref 1516)⟩] 7),slots:= #[]}
theorem wY:S.K.lookup 1643=some (Cx S):=by kernel_rfl
theorem zN:findIn S.K (.ref 1638) "width" =some none:=aS
theorem zO:lookIn "width" (Cx S)=some (some (.int 32 (S.τ 1000104))):=j0
theorem zP(h:P (.int 32) σ):WGA S d c (.top (.ref m4)) "width" P X σ:=js wX wY (wW _) Cw zN zO rfl oF.int h
theorem v7:findIn S.K (.ref 1638) "version" =some none:=aS
theorem v8:lookIn "version" (Cx S)=some (some (.int 4 (S.τ 1000110))):=j0
theorem v9(h:P (.int 4) σ):WGA S d c (.top (.ref m4)) "version" P X σ:=js wX wY (wW _) Cw v7 v8 rfl oF.int h
theorem wa:findIn S.K (.ref 1638) "max_int" =some none:=aS
theorem wb:lookIn "max_int" (Cx S)=some (some (.int 4294967295 (S.τ 1000115))):=j0
theorem wc(h:P (.int 4294967295) σ):WGA S d c (.top (.ref m4)) "max_int" P X σ:=js wX wY (wW _) Cw wa wb rfl oF.int h
theorem Fd:findIn S.K (.ref 1638) "str_to_int" =some (some (.ref 1584)):=aS
theorem Fe:isFn S.K (.ref 1584)=true:=by kernel_rfl
theorem Cy(x:Str):plainGet S.K 2191 x=true:=lO (by kernel_rfl) (by kernel_rfl) x
theorem Cz:hasDictIn S.K 2191=true:=by kernel_rfl
theorem CB:S.K.lookup m6=some ⟨.ref 2191,some 2196,.plain,#[]⟩:=by kernel_rfl
noncomputable def CD(S:Sta):Obj:={cls:=(.type "dict"),dict:=none,data:=(.dict #[⟨PyData.keyHash S.w.params "width",(.str "width" (S.τ 13000170)),(.int (128) (S.τ 7000170))⟩,⟨PyData.keyHash S.w.params "family_name",(.str "family_name" (S.τ 13000172)),(.str "IPv6" (S.τ 7000176))⟩,⟨PyData.keyHash S.w.params "version",(.str "version" (S.τ 13000174)),(.int (6) (S.τ 7000178))⟩,⟨PyData.keyHash S.w.params "max_int",(.str "max_int" (S.τ 13000176)),(.int (340282366920938463463374607431768211455) (S.τ 7000183))⟩,⟨PyData.keyHash S.w.params "prefix_to_netmask",(.str "prefix_to_netmask" (S.τ 13000178)),(.ref 1781)⟩,⟨PyData.keyHash S.w.params "netmask_to_prefix",(.str "netmask_to_prefix" (S.τ 13000180)),(.ref 1922)⟩,⟨PyData.keyHash S.w.params "hostmask_to_prefix",(.str "hostmask_to_prefix" (S.τ 13000182)),(.ref 2063)⟩] 7),slots:= #[]}
theorem CE:S.K.lookup 2196=some (CD S):=by kernel_rfl
theorem zQ:findIn S.K (.ref 2191) "width" =some none:=aS
theorem zR:lookIn "width" (CD S)=some (some (.int 128 (S.τ 7000170))):=j0
theorem zT(h:P (.int 128) σ):WGA S d c (.top (.ref m6)) "width" P X σ:=js CB CE (Cy _) Cz zQ zR rfl oF.int h
theorem wd:findIn S.K (.ref 2191) "version" =some none:=aS
theorem we:lookIn "version" (CD S)=some (some (.int 6 (S.τ 7000178))):=j0
theorem wf(h:P (.int 6) σ):WGA S d c (.top (.ref m6)) "version" P X σ:=js CB CE (Cy _) Cz wd we rfl oF.int h
theorem wg:findIn S.K (.ref 2191) "max_int" =some none:=aS
theorem wh:lookIn "max_int" (CD S)=some (some (.int 340282366920938463463374607431768211455 (S.τ 7000183))):=j0
theorem wi(h:P (.int 340282366920938463463374607431768211455) σ):WGA S d c (.top (.ref m6)) "max_int" P X σ:=js CB CE (Cy _) Cz wg wh rfl oF.int h
theorem fZ:bP S "INET_PTON" (.int (1)):= .int (t:=196) (bd)
theorem iG:bP S "ZEROFILL" (.int (2)):= .int (t:=198) (bd)
theorem gR:bP S "NOHOST" (.int (4)):= .int (t:=200) (bd)
theorem dC:bP S "INET_ATON" (.int (8)):= .int (t:=202) (bd)
theorem rD:bP S "AddrFormatError" (.top (.ref 31)):= .top (bd)
theorem vJ:bP S "AF_INET" (.int (2)):= .int (t:=(S.τ 1000034)) (bd)
theorem oY:bP S "_inet_pton_af_inet" (.top (.ref 1367)):= .top (bd)
theorem zU:bP S "inet_pton" (.top (.ref 1372)):= .top (bd)
theorem rE:bP S "str_to_int_ipv4" (.top (.ref 1527)):= .top (bd)
theorem iX:bP S "ipv4_ipv4" (.top (.ref 1644)):= .top (bd)
theorem mW:bP S "ipv6_ipv6" (.top (.ref 2197)):= .top (bd)
theorem l0:bP S "BaseIP" (.top (.ref 2317)):= .top (bd)
theorem cI:bP S "IPAddress" (.top (.ref 2565)):= .top (bd)
theorem ip:bP S "parse_ip_network" (.top (.ref 2624)):= .top (bd)
theorem aD:bP S "IPNetwork" (.top (.ref 2868)):= .top (bd)
theorem iq:bP S "IPRange" (.top (.ref 2946)):= .top (bd)
theorem yc:bP S "cidr_merge" (.top (.ref 2955)):= .top (bd)
theorem jg:bP S "cidr_partition" (.top (.ref 2962)):= .top (bd)
theorem t8:bP S "spanning_cidr" (.top (.ref 2967)):= .top (bd)
theorem kE:bP S "iprange_to_cidrs" (.top (.ref 2982)):= .top (bd)
theorem wj:bP S "_law_blocks" (.top (.ref 2989)):= .top (bd)
theorem zV:bP S "_law_told" (.top (.ref 2994)):= .top (bd)
theorem yd:bP S "_law_least" (.top (.ref 2999)):= .top (bd)
theorem ao:eW S "isinstance" (.builtin "isinstance"):= .of (bd) (by rfl) (by decide)
theorem ir:eW S "len" (.builtin "len"):= .of (bd) (by rfl) (by decide)
theorem ye:eW S "min" (.builtin "min"):= .of (bd) (by rfl) (by decide)
theorem Ff:eW S "sorted" (.builtin "sorted"):= .of (bd) (by rfl) (by decide)
theorem Qe:eW S "any" (.builtin "any"):= .of (bd) (by rfl) (by decide)
theorem jK:eW S "int" (.type "int"):= .of (bd) (by rfl) (by decide)
theorem gw:eW S "str" (.type "str"):= .of (bd) (by rfl) (by decide)
theorem sD:eW S "tuple" (.type "tuple"):= .of (bd) (by rfl) (by decide)
theorem Hj:eW S "range" (.type "range"):= .of (bd) (by rfl) (by decide)
theorem yf:eW S "bytes" (.type "bytes"):= .of (bd) (by rfl) (by decide)
theorem CF:eW S "OSError" (.type "OSError"):= .of (bd) (by rfl) (by decide)
theorem oZ:eW S "super" (.type "super"):= .of (bd) (by rfl) (by decide)
end
theorem ac.of(h:c.scope.names=l:=by kernel_rfl)(hq:uG x l 0=some (i,k):=by kernel_rfl)(hd:kX x "__debug__" =false:=by kernel_rfl):ac c x i k:=by
 obtain⟨h1,_,h3⟩:=qf hq;exact⟨by unfold idx;rw[h];exact h1,by rw[h];exact h3,by rw[←nr];exact hd⟩
noncomputable def eI(n:Nat):List (Option V):=List.replicate n none
noncomputable def Qf:NameKind→Bool
 | .cell=>true
 |_=>false
def uZ:List (Str×NameKind):=[(⟨⟨[46,48]⟩⟩,.local),(⟨⟨wN⟩⟩,.local),(⟨⟨oj⟩⟩,GI)]
def CG:List (Str×NameKind):=[(⟨⟨[46,48]⟩⟩,.local),(⟨⟨Ju⟩⟩,.local)]
def sE:List (Str×NameKind):=[(⟨⟨[46,48]⟩⟩,.local),(⟨⟨[111,110,101]⟩⟩,.local),(⟨⟨qS⟩⟩,.local),(⟨⟨s9⟩⟩,.local),(⟨⟨wO⟩⟩,.cell)]
def u0:List (Str×NameKind):=[(⟨⟨[46,48]⟩⟩,.local),(⟨⟨qS⟩⟩,.local),(⟨⟨s9⟩⟩,.local)]
def u1:List (Str×NameKind):=[(⟨⟨[46,48]⟩⟩,.local),(⟨⟨qS⟩⟩,.local),(⟨⟨s9⟩⟩,.local),(⟨⟨Jy⟩⟩,.cell)]
def Qg:List (Str×NameKind):=[(⟨⟨[46,48]⟩⟩,.local),(⟨⟨[115,105,103,110]⟩⟩,.local)]
def CJ:List (Str×NameKind):=[(⟨⟨[111,110,101]⟩⟩,.local)]
def iP:List (Str×NameKind):=[(⟨⟨[46,48]⟩⟩,.local),(⟨⟨[112,108,97,99,101]⟩⟩,.local),(⟨⟨qO⟩⟩,GI),(⟨⟨qS⟩⟩,.cell)]
theorem co {l:List (Str×NameKind)}(h:(l.all fun x=> !Qf x.2)=true:=by kernel_rfl):∀x∈l,x.2≠.cell:=fun x hx e=>by
 have:=List.all_eq_true.mp h x hx;rw[e]at this;cases this
section
variable {S:Sta} {d:Nat}
def jh(S:Sta):FuncData:=D5 S.τ
theorem Hk:S.K.lookup re=some (fnO (jh S)):=by kernel_rfl
theorem Hl:codeIn S.K (jh S).code (jh S).qualname=true:=by kernel_rfl
theorem Hm:keepIn S.K (.ref re)=true:=by kernel_rfl
def Hn:List (Str×NameKind):=[(⟨⟨Jh⟩⟩,.local),(⟨⟨Ji⟩⟩,.local),(⟨⟨Jj⟩⟩,.local),(⟨⟨I9⟩⟩,.local),(⟨⟨Jk⟩⟩,.local),(⟨⟨RW⟩⟩,.local),(⟨⟨qN⟩⟩,GI),(⟨⟨qO⟩⟩,GI),(⟨⟨B1⟩⟩,GI),(⟨⟨qP⟩⟩,GI),(⟨⟨ot⟩⟩,GI),(⟨⟨ou⟩⟩,GI),(⟨⟨RX⟩⟩,GI),(⟨⟨qQ⟩⟩,GI)]
theorem eJ:d7.scope.names=Hn:=by kernel_rfl
theorem iQ:ac d7 "ip_string" 0 .local:= .of eJ
theorem o4:ac d7 "invalid_addr" 1 .local:= .of eJ
theorem j6:ac d7 "tokens" 2 .local:= .of eJ
theorem i7:ac d7 "words" 3 .local:= .of eJ
theorem eK:ac d7 "token" 4 .local:= .of eJ
theorem fN:ac d7 "octet" 5 .local:= .of eJ
theorem qw:ac d7 "isinstance" 6 GI:= .of eJ
theorem zW:ac d7 "str" 7 GI:= .of eJ
theorem t9:ac d7 "OSError" 8 GI:= .of eJ
theorem rR:ac d7 "len" 9 GI:= .of eJ
theorem rS:ac d7 "int" 10 GI:= .of eJ
theorem pL:ac d7 "bytes" 12 GI:= .of eJ
theorem Ho:br d7 [("ip_string",v0)] [some v0,none,none,none,none,none,none,none,none,none,none,none,none,none]:=(.cons (.nil (l:=eI 14) rfl) iQ .zero)
theorem Hp {v0:V}{vs:List V}{ks:List (Str×V)}{P:PX}{hp:List ai}(hb:Binds S (jh S) vs ks [("ip_string",v0)])(h:WL S (d+1) d7 Bc (fun o σ'=>P (de o) σ'.hp) no ⟨[some v0,none,none,none,none,none,none,none,none,none,none,none,none,none],hp⟩)(hd:d<1000):WFn S d (.ref re) vs ks P no hp:=cW (fd:=jh S) (body:=Bc) (bl:=[("ip_string",v0)]) rfl Hk Hl hd rfl hb Ho (co) h
theorem CK:∀T,peek S.K T (bindArgs (jh S) ⟨[x0],[]⟩)=some ([("ip_string",x0)]:List (Str×Value)):=by intro T;kernel_rfl
theorem CL:Binds S (jh S) [a0] [] [("ip_string",a0)]:=fun ρ n s vs' ks' X r1 r2=>r1.oneE fun _ q0=>r2.nilE (⟨_,kp_binds X CK,(.cons q0 .nil)⟩)
def j7(S:Sta):FuncData:=D6 S.τ
theorem Kt:S.K.lookup tN=some (fnO (j7 S)):=by kernel_rfl
theorem Ku:codeIn S.K (j7 S).code (j7 S).qualname=true:=by kernel_rfl
theorem Kv:keepIn S.K (.ref tN)=true:=by kernel_rfl
def Kx:List (Str×NameKind):=[(⟨⟨RY⟩⟩,.local),(⟨⟨Jh⟩⟩,.local),(⟨⟨Ji⟩⟩,.local),(⟨⟨RZ⟩⟩,.local),(⟨⟨Jk⟩⟩,.local),(⟨⟨Jl⟩⟩,.local),(⟨⟨R0⟩⟩,.local),(⟨⟨R1⟩⟩,.local),(⟨⟨R2⟩⟩,.local),(⟨⟨R3⟩⟩,.local),(⟨⟨R4⟩⟩,.local),(⟨⟨R5⟩⟩,.local),(⟨⟨R6⟩⟩,.local),(⟨⟨Jj⟩⟩,.local),(⟨⟨Gy⟩⟩,GI),(⟨⟨Ms⟩⟩,GI),(⟨⟨Mr⟩⟩,GI),(⟨⟨B1⟩⟩,GI),(⟨⟨qN⟩⟩,GI),(⟨⟨qO⟩⟩,GI),(⟨⟨qQ⟩⟩,GI),(⟨⟨qP⟩⟩,GI),(⟨⟨ou⟩⟩,GI),(⟨⟨ot⟩⟩,GI),(⟨⟨Jm⟩⟩,GI)]
theorem rp:lX.scope.names=Kx:=by kernel_rfl
theorem vK:ac lX "af" 0 .local:= .of rp
theorem l3:ac lX "ip_string" 1 .local:= .of rp
theorem u2:ac lX "AF_INET" 14 GI:= .of rp
theorem lC:ac lX "_inet_pton_af_inet" 15 GI:= .of rp
theorem Ky:br lX [("ip_string",v1),("af",v0)] [some v0,some v1,none,none,none,none,none,none,none,none,none,none,none,none,none,none,none,none,none,none,none,none,none,none,none]:=(.cons (.cons (.nil (l:=eI 25) rfl) vK .zero) l3 (.succ .zero))
theorem Kz {v0 v1:V}{vs:List V}{ks:List (Str×V)}{P:PX}{hp:List ai}(hb:Binds S (j7 S) vs ks [("af",v0),("ip_string",v1)])(h:WL S (d+1) lX E6 (fun o σ'=>P (de o) σ'.hp) no ⟨[some v0,some v1,none,none,none,none,none,none,none,none,none,none,none,none,none,none,none,none,none,none,none,none,none,none,none],hp⟩)(hd:d<1000):WFn S d (.ref tN) vs ks P no hp:=cW (fd:=j7 S) (body:=E6) (bl:=[("ip_string",v1),("af",v0)]) rfl Kt Ku hd rfl hb Ky (co) h
theorem Fg:∀T,peek S.K T (bindArgs (j7 S) ⟨[x0,x1],[]⟩)=some ([("af",x0),("ip_string",x1)]:List (Str×Value)):=by intro T;kernel_rfl
theorem Fh:Binds S (j7 S) [a0,a1] [] [("af",a0),("ip_string",a1)]:=fun ρ n s vs' ks' X r1 r2=>r1.twoE fun _ _ q0 q1=>r2.nilE (⟨_,kp_binds X Fg,(.cons q0 (.cons q1 .nil))⟩)
def j8(S:Sta):FuncData:=D8 S.τ
theorem KA:S.K.lookup tO=some (fnO (j8 S)):=by kernel_rfl
theorem KB:codeIn S.K (j8 S).code (j8 S).qualname=true:=by kernel_rfl
theorem KC:keepIn S.K (.ref tO)=true:=by kernel_rfl
def KD:List (Str×NameKind):=[(⟨⟨s8⟩⟩,.local),(⟨⟨qR⟩⟩,.local),(⟨⟨R7⟩⟩,.local),(⟨⟨R8⟩⟩,.local),(⟨⟨I7⟩⟩,.local),(⟨⟨uA⟩⟩,GI),(⟨⟨BR⟩⟩,GI),(⟨⟨Gv⟩⟩,GI),(⟨⟨Gs⟩⟩,GI),(⟨⟨Sa⟩⟩,GI),(⟨⟨Mt⟩⟩,GI),(⟨⟨Gy⟩⟩,GI),(⟨⟨Mu⟩⟩,GI),(⟨⟨B1⟩⟩,GI),(⟨⟨ot⟩⟩,GI)]
theorem fO:fo.scope.names=KD:=by kernel_rfl
theorem kr:ac fo "addr" 0 .local:= .of fO
theorem l6:ac fo "flags" 1 .local:= .of fO
theorem yg:ac fo "error" 2 .local:= .of fO
theorem ji:ac fo "pton_mode" 3 .local:= .of fO
theorem pM:ac fo "packed" 4 .local:= .of fO
theorem mX:ac fo "AddrFormatError" 5 GI:= .of fO
theorem sF:ac fo "INET_PTON" 6 GI:= .of fO
theorem ua:ac fo "ZEROFILL" 8 GI:= .of fO
theorem CM:ac fo "any" 9 GI:= .of fO
theorem sG:ac fo "inet_pton" 10 GI:= .of fO
theorem u3:ac fo "AF_INET" 11 GI:= .of fO
theorem CN:ac fo "int" 14 GI:= .of fO
theorem KF:br fo [("flags",v1),("addr",v0)] [some v0,some v1,none,none,none,none,none,none,none,none,none,none,none,none,none]:=(.cons (.cons (.nil (l:=eI 15) rfl) kr .zero) l6 (.succ .zero))
theorem KG {v0 v1:V}{vs:List V}{ks:List (Str×V)}{P:PX}{hp:List ai}(hb:Binds S (j8 S) vs ks [("addr",v0),("flags",v1)])(h:WL S (d+1) fo E7 (fun o σ'=>P (de o) σ'.hp) no ⟨[some v0,some v1,none,none,none,none,none,none,none,none,none,none,none,none,none],hp⟩)(hd:d<1000):WFn S d (.ref tO) vs ks P no hp:=cW (fd:=j8 S) (body:=E7) (bl:=[("flags",v1),("addr",v0)]) rfl KA KB hd rfl hb KF (co) h
theorem Fi:∀T,peek S.K T (bindArgs (j8 S) ⟨[x0,x1],[]⟩)=some ([("addr",x0),("flags",x1)]:List (Str×Value)):=by intro T;kernel_rfl
theorem Fj:Binds S (j8 S) [a0,a1] [] [("addr",a0),("flags",a1)]:=fun ρ n s vs' ks' X r1 r2=>r1.twoE fun _ _ q0 q1=>r2.nilE (⟨_,kp_binds X Fi,(.cons q0 (.cons q1 .nil))⟩)
def jj(S:Sta):FuncData:=D9 S.τ
theorem Hq:S.K.lookup rg=some (fnO (jj S)):=by kernel_rfl
theorem Hr:codeIn S.K (jj S).code (jj S).qualname=true:=by kernel_rfl
theorem Hs:keepIn S.K (.ref rg)=true:=by kernel_rfl
def Ht:List (Str×NameKind):=[(⟨⟨eT⟩⟩,.local),(⟨⟨s8⟩⟩,.local),(⟨⟨qR⟩⟩,.local),(⟨⟨Mv⟩⟩,GI)]
theorem o5:j5.scope.names=Ht:=by kernel_rfl
theorem n_ms2i4_self:ac j5 "self" 0 .local:= .of o5
theorem qx:ac j5 "addr" 1 .local:= .of o5
theorem pN:ac j5 "flags" 2 .local:= .of o5
theorem me:ac j5 "str_to_int_ipv4" 3 GI:= .of o5
theorem Hu:br j5 [("flags",v2),("addr",v1),("self",v0)] [some v0,some v1,some v2,none]:=(.cons (.cons (.cons (.nil (l:=eI 4) rfl) n_ms2i4_self .zero) qx (.succ .zero)) pN (.succ (.succ .zero)))
theorem Hv {v0 v1 v2:V}{vs:List V}{ks:List (Str×V)}{P:PX}{hp:List ai}(hb:Binds S (jj S) vs ks [("self",v0),("addr",v1),("flags",v2)])(h:WL S (d+1) j5 Bd (fun o σ'=>P (de o) σ'.hp) no ⟨[some v0,some v1,some v2,none],hp⟩)(hd:d<1000):WFn S d (.ref rg) vs ks P no hp:=cW (fd:=jj S) (body:=Bd) (bl:=[("flags",v2),("addr",v1),("self",v0)]) rfl Hq Hr hd rfl hb Hu (co) h
theorem CO:∀T,peek S.K T (bindArgs (jj S) ⟨[x0,x1,x2],[]⟩)=some ([("self",x0),("addr",x1),("flags",x2)]:List (Str×Value)):=by intro T;kernel_rfl
theorem CP:Binds S (jj S) [a0,a1,a2] [] [("self",a0),("addr",a1),("flags",a2)]:=fun ρ n s vs' ks' X r1 r2=>r1.threeE fun _ _ _ q0 q1 q2=>r2.nilE (⟨_,kp_binds X CO,(.cons q0 (.cons q1 (.cons q2 .nil)))⟩)
def f6(S:Sta):FuncData:=Ea S.τ
theorem zX:S.K.lookup iF=some (fnO (f6 S)):=by kernel_rfl
theorem zY:codeIn S.K (f6 S).code (f6 S).qualname=true:=by kernel_rfl
def zZ:List (Str×NameKind):=[(⟨⟨eT⟩⟩,.local)]
theorem z0:ly.scope.names=zZ:=by kernel_rfl
theorem n_BaseInit_self:ac ly "self" 0 .local:= .of z0
theorem Aa:br ly [("self",v0)] [some v0]:=(.cons (.nil (l:=eI 1) rfl) n_BaseInit_self .zero)
theorem rT {v0:V}{vs:List V}{ks:List (Str×V)}{P:PX}{hp:List ai}(hb:Binds S (f6 S) vs ks [("self",v0)])(h:WL S (d+1) ly tP (fun o σ'=>P (de o) σ'.hp) no ⟨[some v0],hp⟩)(hd:d<1000):WFn S d (.ref iF) vs ks P no hp:=cW (fd:=f6 S) (body:=tP) (bl:=[("self",v0)]) rfl zX zY hd rfl hb Aa (co) h
theorem wk:∀T,peek S.K T (bindArgs (f6 S) ⟨[x0],[]⟩)=some ([("self",x0)]:List (Str×Value)):=by intro T;kernel_rfl
theorem pO:Binds S (f6 S) [a0] [] [("self",a0)]:=fun ρ n s vs' ks' X r1 r2=>r1.oneE fun _ q0=>r2.nilE (⟨_,kp_binds X wk,(.cons q0 .nil)⟩)
def o6(S:Sta):FuncData:=Eb S.τ
theorem Tt:S.K.lookup xN=some (fnO (o6 S)):=by kernel_rfl
theorem Tu:codeIn S.K (o6 S).code (o6 S).qualname=true:=by kernel_rfl
def Tv:List (Str×NameKind):=[(⟨⟨eT⟩⟩,.local),(⟨⟨Jn⟩⟩,.local),(⟨⟨Jo⟩⟩,GI),(⟨⟨qQ⟩⟩,GI),(⟨⟨Jp⟩⟩,GI)]
theorem JN:xO.scope.names=Tv:=by kernel_rfl
theorem n_lt_self:ac xO "self" 0 .local:= .of JN
theorem ub:ac xO "other" 1 .local:= .of JN
theorem Tx:br xO [("other",v1),("self",v0)] [some v0,some v1,none,none,none]:=(.cons (.cons (.nil (l:=eI 5) rfl) n_lt_self .zero) ub (.succ .zero))
theorem Tz {v0 v1:V}{vs:List V}{ks:List (Str×V)}{P:PX}{hp:List ai}(hb:Binds S (o6 S) vs ks [("self",v0),("other",v1)])(h:WL S (d+1) xO PN (fun o σ'=>P (de o) σ'.hp) no ⟨[some v0,some v1,none,none,none],hp⟩)(hd:d<1000):WFn S d (.ref xN) vs ks P no hp:=cW (fd:=o6 S) (body:=PN) (bl:=[("other",v1),("self",v0)]) rfl Tt Tu hd rfl hb Tx (co) h
theorem KH:∀T,peek S.K T (bindArgs (o6 S) ⟨[x0,x1],[]⟩)=some ([("self",x0),("other",x1)]:List (Str×Value)):=by intro T;kernel_rfl
theorem KI:Binds S (o6 S) [a0,a1] [] [("self",a0),("other",a1)]:=fun ρ n s vs' ks' X r1 r2=>r1.twoE fun _ _ q0 q1=>r2.nilE (⟨_,kp_binds X KH,(.cons q0 (.cons q1 .nil))⟩)
def TF:List (Str×NameKind):=[(⟨⟨eT⟩⟩,.local),(⟨⟨Jn⟩⟩,.local),(⟨⟨Jo⟩⟩,GI),(⟨⟨qQ⟩⟩,GI),(⟨⟨Jp⟩⟩,GI)]
theorem TJ:PO.scope.names=TF:=by kernel_rfl
theorem n_gt_self:ac PO "self" 0 .local:= .of TJ
def gS(S:Sta):FuncData:=Ec S.τ
theorem CQ:S.K.lookup mv=some (fnO (gS S)):=by kernel_rfl
theorem CR:codeIn S.K (gS S).code (gS S).qualname=true:=by kernel_rfl
def CS:List (Str×NameKind):=[(⟨⟨eT⟩⟩,.local)]
theorem CT:mw.scope.names=CS:=by kernel_rfl
theorem n_version_self:ac mw "self" 0 .local:= .of CT
theorem CU:br mw [("self",v0)] [some v0]:=(.cons (.nil (l:=eI 1) rfl) n_version_self .zero)
theorem uc {v0:V}{vs:List V}{ks:List (Str×V)}{P:PX}{hp:List ai}(hb:Binds S (gS S) vs ks [("self",v0)])(h:WL S (d+1) mw vE (fun o σ'=>P (de o) σ'.hp) no ⟨[some v0],hp⟩)(hd:d<1000):WFn S d (.ref mv) vs ks P no hp:=cW (fd:=gS S) (body:=vE) (bl:=[("self",v0)]) rfl CQ CR hd rfl hb CU (co) h
theorem yh:∀T,peek S.K T (bindArgs (gS S) ⟨[x0],[]⟩)=some ([("self",x0)]:List (Str×Value)):=by intro T;kernel_rfl
theorem qy:Binds S (gS S) [a0] [] [("self",a0)]:=fun ρ n s vs' ks' X r1 r2=>r1.oneE fun _ q0=>r2.nilE (⟨_,kp_binds X yh,(.cons q0 .nil)⟩)
def be(S:Sta):FuncData:=Ed S.τ
theorem Ab:S.K.lookup eZ=some (fnO (be S)):=by kernel_rfl
theorem Ac:codeIn S.K (be S).code (be S).qualname=true:=by kernel_rfl
def Ad:List (Str×NameKind):=[(⟨⟨eT⟩⟩,.local),(⟨⟨s8⟩⟩,.local),(⟨⟨sf⟩⟩,.local),(⟨⟨qR⟩⟩,.local),(⟨⟨B2⟩⟩,.local),(⟨⟨Jq⟩⟩,.free),(⟨⟨Jr⟩⟩,GI),(⟨⟨BR⟩⟩,GI),(⟨⟨Gs⟩⟩,GI),(⟨⟨Gv⟩⟩,GI),(⟨⟨ou⟩⟩,GI),(⟨⟨qN⟩⟩,GI),(⟨⟨My⟩⟩,GI),(⟨⟨GC⟩⟩,GI),(⟨⟨GD⟩⟩,GI),(⟨⟨qO⟩⟩,GI),(⟨⟨ot⟩⟩,GI),(⟨⟨uA⟩⟩,GI)]
theorem bW:bC.scope.names=Ad:=by kernel_rfl
theorem n_AddrInit_self:ac bC "self" 0 .local:= .of bW
theorem az:ac bC "addr" 1 .local:= .of bW
theorem bj:ac bC "version" 2 .local:= .of bW
theorem bp:ac bC "flags" 3 .local:= .of bW
theorem o7:ac bC "__class__" 5 .free:= .of bW
theorem sH:ac bC "super" 6 GI:= .of bW
theorem dF:ac bC "INET_PTON" 7 GI:= .of bW
theorem dU:ac bC "ZEROFILL" 8 GI:= .of bW
theorem bg:ac bC "INET_ATON" 9 GI:= .of bW
theorem aR:ac bC "isinstance" 11 GI:= .of bW
theorem eQ:ac bC "BaseIP" 12 GI:= .of bW
theorem jL:ac bC "ipv4_ipv4" 13 GI:= .of bW
theorem o8:ac bC "ipv6_ipv6" 14 GI:= .of bW
theorem fg:ac bC "str" 15 GI:= .of bW
theorem iH:ac bC "int" 16 GI:= .of bW
theorem Ae:br bC [("flags",v3),("version",v2),("addr",v1),("self",v0)] [some v0,some v1,some v2,some v3,none,none,none,none,none,none,none,none,none,none,none,none,none,none]:=(.cons (.cons (.cons (.cons (.nil (l:=eI 18) rfl) n_AddrInit_self .zero) az (.succ .zero)) bj (.succ (.succ .zero))) bp (.succ (.succ (.succ .zero))))
theorem wl:∀T,peek S.K T (bindArgs (be S) ⟨[x0,x1,x2],[]⟩)=some ([("self",x0),("addr",x1),("version",x2),("flags",(.int (0) (S.τ 13000338)))]:List (Str×Value)):=by intro T;kernel_rfl
theorem wm:Binds S (be S) [a0,a1,a2] [] [("self",a0),("addr",a1),("version",a2),("flags",.int 0)]:=fun ρ n s vs' ks' X r1 r2=>r1.threeE fun _ _ _ q0 q1 q2=>r2.nilE (⟨_,kp_binds X wl,(.cons q0 (.cons q1 (.cons q2 (.cons (.int _ _) .nil))))⟩)
theorem wn:∀T,peek S.K T (bindArgs (be S) ⟨[x0,x1],[("flags",y0)]⟩)=some ([("self",x0),("addr",x1),("version",.none),("flags",y0)]:List (Str×Value)):=by intro T;kernel_rfl
theorem wo:Binds S (be S) [a0,a1] [("flags",w0)] [("self",a0),("addr",a1),("version",.none),("flags",w0)]:=fun ρ n s vs' ks' X r1 r2=>r1.twoE fun _ _ q0 q1=>r2.oneE fun _ p0=>⟨_,kp_binds X wn,(.cons q0 (.cons q1 (.cons (.none) (.cons p0 .nil))))⟩
theorem wq:∀T,peek S.K T (bindArgs (be S) ⟨[x0,x1,x2],[("flags",y0)]⟩)=some ([("self",x0),("addr",x1),("version",x2),("flags",y0)]:List (Str×Value)):=by intro T;kernel_rfl
theorem pP:Binds S (be S) [a0,a1,a2] [("flags",w0)] [("self",a0),("addr",a1),("version",a2),("flags",w0)]:=fun ρ n s vs' ks' X r1 r2=>r1.threeE fun _ _ _ q0 q1 q2=>r2.oneE fun _ p0=>⟨_,kp_binds X wq,(.cons q0 (.cons q1 (.cons q2 (.cons p0 .nil))))⟩
theorem wt:∀T,peek S.K T (bindArgs (be S) ⟨[x0,x1],[("version",y0)]⟩)=some ([("self",x0),("addr",x1),("version",y0),("flags",(.int (0) (S.τ 13000338)))]:List (Str×Value)):=by intro T;kernel_rfl
theorem wu:Binds S (be S) [a0,a1] [("version",w0)] [("self",a0),("addr",a1),("version",w0),("flags",.int 0)]:=fun ρ n s vs' ks' X r1 r2=>r1.twoE fun _ _ q0 q1=>r2.oneE fun _ p0=>⟨_,kp_binds X wt,(.cons q0 (.cons q1 (.cons p0 (.cons (.int _ _) .nil))))⟩
def KJ:List (Str×NameKind):=[(⟨⟨eT⟩⟩,.local),(⟨⟨ot⟩⟩,GI)]
theorem KK:E8.scope.names=KJ:=by kernel_rfl
theorem n_size_self:ac E8 "self" 0 .local:= .of KK
def gT(S:Sta):FuncData:={name:="parse_ip_network",qualname:="parse_ip_network",params:=ll (an pw.main.body 77),body:= .stmts (ce (an pw.main.body 77)),scope:=bb (an pw.main.body 77),globals:=3,closure:=[],defaults:=(.ref 2616),kwdefaults:=(.ref 2617),doc:= .none,pyModule:=(.str "netaddr.ip" (S.τ 13000184)),annotations:=none,code:=(.ref 2623),closureTuple:= .none,builtins:=0}
theorem Hw:S.K.lookup lI=some (fnO (gT S)):=by kernel_rfl
theorem Hy:codeIn S.K (gT S).code (gT S).qualname=true:=by kernel_rfl
theorem sI:keepIn S.K (.ref lI)=true:=by kernel_rfl
def Hz:List (Str×NameKind):=[(⟨⟨B2⟩⟩,.local),(⟨⟨s8⟩⟩,.local),(⟨⟨qR⟩⟩,.local),(⟨⟨wL⟩⟩,.local),(⟨⟨BV⟩⟩,.local),(⟨⟨wM⟩⟩,.local),(⟨⟨Sb⟩⟩,.local),(⟨⟨Sc⟩⟩,.local),(⟨⟨wN⟩⟩,.local),(⟨⟨Sd⟩⟩,.local),(⟨⟨B0⟩⟩,.local),(⟨⟨qN⟩⟩,GI),(⟨⟨Se⟩⟩,GI),(⟨⟨qP⟩⟩,GI),(⟨⟨uA⟩⟩,GI),(⟨⟨qO⟩⟩,GI),(⟨⟨uB⟩⟩,GI),(⟨⟨BR⟩⟩,GI),(⟨⟨ot⟩⟩,GI),(⟨⟨qQ⟩⟩,GI),(⟨⟨ou⟩⟩,GI),(⟨⟨Gu⟩⟩,GI)]
theorem cY:cT.scope.names=Hz:=by kernel_rfl
theorem d8:ac cT "module" 0 .local:= .of cY
theorem cZ:ac cT "addr" 1 .local:= .of cY
theorem i8:ac cT "flags" 2 .local:= .of cY
theorem iY:ac cT "expand_partial" 3 .local:= .of cY
theorem dN:ac cT "value" 4 .local:= .of cY
theorem cg:ac cT "prefixlen" 5 .local:= .of cY
theorem qz:ac cT "val1" 6 .local:= .of cY
theorem qA:ac cT "val2" 7 .local:= .of cY
theorem ud:ac cT "ip" 8 .local:= .of cY
theorem fV:ac cT "isinstance" 11 GI:= .of cY
theorem k9:ac cT "tuple" 12 GI:= .of cY
theorem rU:ac cT "len" 13 GI:= .of cY
theorem Af:ac cT "str" 15 GI:= .of cY
theorem rF:ac cT "IPAddress" 16 GI:= .of cY
theorem rG:ac cT "INET_PTON" 17 GI:= .of cY
theorem Ag:ac cT "int" 18 GI:= .of cY
theorem j9:ac cT "NOHOST" 21 GI:= .of cY
theorem HA:br cT [("expand_partial",v3),("flags",v2),("addr",v1),("module",v0)] [some v0,some v1,some v2,some v3,none,none,none,none,none,none,none,none,none,none,none,none,none,none,none,none,none,none]:=(.cons (.cons (.cons (.cons (.nil (l:=eI 22) rfl) d8 .zero) cZ (.succ .zero)) i8 (.succ (.succ .zero))) iY (.succ (.succ (.succ .zero))))
theorem sJ {v0 v1 v2 v3:V}{vs:List V}{ks:List (Str×V)}{P:PX}{hp:List ai}(hb:Binds S (gT S) vs ks [("module",v0),("addr",v1),("flags",v2),("expand_partial",v3)])(h:WL S (d+1) cT Be (fun o σ'=>P (de o) σ'.hp) no ⟨[some v0,some v1,some v2,some v3,none,none,none,none,none,none,none,none,none,none,none,none,none,none,none,none,none,none],hp⟩)(hd:d<1000):WFn S d (.ref lI) vs ks P no hp:=cW (fd:=gT S) (body:=Be) (bl:=[("expand_partial",v3),("flags",v2),("addr",v1),("module",v0)]) rfl Hw Hy hd rfl hb HA (co) h
theorem CV:∀T,peek S.K T (bindArgs (gT S) ⟨[x0,x1,x2],[("expand_partial",y0)]⟩)=some ([("module",x0),("addr",x1),("flags",x2),("expand_partial",y0)]:List (Str×Value)):=by intro T;kernel_rfl
theorem ue:Binds S (gT S) [a0,a1,a2] [("expand_partial",w0)] [("module",a0),("addr",a1),("flags",a2),("expand_partial",w0)]:=fun ρ n s vs' ks' X r1 r2=>r1.threeE fun _ _ _ q0 q1 q2=>r2.oneE fun _ p0=>⟨_,kp_binds X CV,(.cons q0 (.cons q1 (.cons q2 (.cons p0 .nil))))⟩
theorem CW:∀T,peek S.K T (bindArgs (gT S) ⟨[x0,x1,x2],[]⟩)=some ([("module",x0),("addr",x1),("flags",x2),("expand_partial",(.bool false))]:List (Str×Value)):=by intro T;kernel_rfl
theorem CX:Binds S (gT S) [a0,a1,a2] [] [("module",a0),("addr",a1),("flags",a2),("expand_partial",.bool false)]:=fun ρ n s vs' ks' X r1 r2=>r1.threeE fun _ _ _ q0 q1 q2=>r2.nilE (⟨_,kp_binds X CW,(.cons q0 (.cons q1 (.cons q2 (.cons (.bool _) .nil))))⟩)
def bQ(S:Sta):FuncData:={name:="__init__",qualname:="IPNetwork.__init__",params:=ll (an (aF 78) 0),body:= .stmts (ce (an (aF 78) 0)),scope:=bb (an (aF 78) 0),globals:=3,closure:=[("__class__",2628)],defaults:=(.ref 2633),kwdefaults:=(.ref 2634),doc:= .none,pyModule:=(.str "netaddr.ip" (S.τ 13000184)),annotations:=none,code:=(.ref 2641),closureTuple:=(.ref 2635),builtins:=0}
theorem CY:S.K.lookup fU=some (fnO (bQ S)):=by kernel_rfl
theorem CZ:codeIn S.K (bQ S).code (bQ S).qualname=true:=by kernel_rfl
def C7:List (Str×NameKind):=[(⟨⟨eT⟩⟩,.local),(⟨⟨s8⟩⟩,.local),(⟨⟨sf⟩⟩,.local),(⟨⟨qR⟩⟩,.local),(⟨⟨wL⟩⟩,.local),(⟨⟨BV⟩⟩,.local),(⟨⟨wM⟩⟩,.local),(⟨⟨B2⟩⟩,.local),(⟨⟨B0⟩⟩,.local),(⟨⟨Jq⟩⟩,.free),(⟨⟨Jr⟩⟩,GI),(⟨⟨Gu⟩⟩,GI),(⟨⟨ou⟩⟩,GI),(⟨⟨qN⟩⟩,GI),(⟨⟨oj⟩⟩,GI),(⟨⟨uB⟩⟩,GI),(⟨⟨Mz⟩⟩,GI),(⟨⟨GC⟩⟩,GI),(⟨⟨GD⟩⟩,GI),(⟨⟨uA⟩⟩,GI)]
theorem bR:bG.scope.names=C7:=by kernel_rfl
theorem n_NetInit_self:ac bG "self" 0 .local:= .of bR
theorem aN:ac bG "addr" 1 .local:= .of bR
theorem di:ac bG "version" 2 .local:= .of bR
theorem cp:ac bG "flags" 3 .local:= .of bR
theorem fv:ac bG "expand_partial" 4 .local:= .of bR
theorem aW:ac bG "value" 5 .local:= .of bR
theorem aH:ac bG "prefixlen" 6 .local:= .of bR
theorem aJ:ac bG "module" 7 .local:= .of bR
theorem pU:ac bG "__class__" 9 .free:= .of bR
theorem uf:ac bG "super" 10 GI:= .of bR
theorem d9:ac bG "NOHOST" 11 GI:= .of bR
theorem bv:ac bG "isinstance" 13 GI:= .of bR
theorem dV:ac bG "IPNetwork" 14 GI:= .of bR
theorem fE:ac bG "IPAddress" 15 GI:= .of bR
theorem eM:ac bG "parse_ip_network" 16 GI:= .of bR
theorem ia:ac bG "ipv4_ipv4" 17 GI:= .of bR
theorem jW:ac bG "ipv6_ipv6" 18 GI:= .of bR
theorem C8:br bG [("expand_partial",v4),("flags",v3),("version",v2),("addr",v1),("self",v0)] [some v0,some v1,some v2,some v3,some v4,none,none,none,none,none,none,none,none,none,none,none,none,none,none,none]:=(.cons (.cons (.cons (.cons (.cons (.nil (l:=eI 20) rfl) n_NetInit_self .zero) aN (.succ .zero)) di (.succ (.succ .zero))) cp (.succ (.succ (.succ .zero)))) fv (.succ (.succ (.succ (.succ .zero)))))
theorem yi:∀T,peek S.K T (bindArgs (bQ S) ⟨[x0,x1],[]⟩)=some ([("self",x0),("addr",x1),("version",.none),("flags",(.int (0) (S.τ 13000691))),("expand_partial",(.bool false))]:List (Str×Value)):=by intro T;kernel_rfl
theorem l7:Binds S (bQ S) [a0,a1] [] [("self",a0),("addr",a1),("version",.none),("flags",.int 0),("expand_partial",.bool false)]:=fun ρ n s vs' ks' X r1 r2=>r1.twoE fun _ _ q0 q1=>r2.nilE (⟨_,kp_binds X yi,(.cons q0 (.cons q1 (.cons (.none) (.cons (.int _ _) (.cons (.bool _) .nil)))))⟩)
theorem yj:∀T,peek S.K T (bindArgs (bQ S) ⟨[x0,x1],[("version",y0)]⟩)=some ([("self",x0),("addr",x1),("version",y0),("flags",(.int (0) (S.τ 13000691))),("expand_partial",(.bool false))]:List (Str×Value)):=by intro T;kernel_rfl
theorem yk:Binds S (bQ S) [a0,a1] [("version",w0)] [("self",a0),("addr",a1),("version",w0),("flags",.int 0),("expand_partial",.bool false)]:=fun ρ n s vs' ks' X r1 r2=>r1.twoE fun _ _ q0 q1=>r2.oneE fun _ p0=>⟨_,kp_binds X yj,(.cons q0 (.cons q1 (.cons p0 (.cons (.int _ _) (.cons (.bool _) .nil)))))⟩
theorem yl:∀T,peek S.K T (bindArgs (bQ S) ⟨[x0,x1,x2],[]⟩)=some ([("self",x0),("addr",x1),("version",x2),("flags",(.int (0) (S.τ 13000691))),("expand_partial",(.bool false))]:List (Str×Value)):=by intro T;kernel_rfl
theorem ym:Binds S (bQ S) [a0,a1,a2] [] [("self",a0),("addr",a1),("version",a2),("flags",.int 0),("expand_partial",.bool false)]:=fun ρ n s vs' ks' X r1 r2=>r1.threeE fun _ _ _ q0 q1 q2=>r2.nilE (⟨_,kp_binds X yl,(.cons q0 (.cons q1 (.cons q2 (.cons (.int _ _) (.cons (.bool _) .nil)))))⟩)
def fw(S:Sta):FuncData:=Ee S.τ
theorem yn:S.K.lookup mU=some (fnO (fw S)):=by kernel_rfl
theorem yo:codeIn S.K (fw S).code (fw S).qualname=true:=by kernel_rfl
def yp:List (Str×NameKind):=[(⟨⟨eT⟩⟩,.local)]
theorem yq:kq.scope.names=yp:=by kernel_rfl
theorem n_prefixlen_self:ac kq "self" 0 .local:= .of yq
theorem yr:br kq [("self",v0)] [some v0]:=(.cons (.nil (l:=eI 1) rfl) n_prefixlen_self .zero)
theorem yt {v0:V}{vs:List V}{ks:List (Str×V)}{P:PX}{hp:List ai}(hb:Binds S (fw S) vs ks [("self",v0)])(h:WL S (d+1) kq rP (fun o σ'=>P (de o) σ'.hp) no ⟨[some v0],hp⟩)(hd:d<1000):WFn S d (.ref mU) vs ks P no hp:=cW (fd:=fw S) (body:=rP) (bl:=[("self",v0)]) rfl yn yo hd rfl hb yr (co) h
theorem u4:∀T,peek S.K T (bindArgs (fw S) ⟨[x0],[]⟩)=some ([("self",x0)]:List (Str×Value)):=by intro T;kernel_rfl
theorem u5:Binds S (fw S) [a0] [] [("self",a0)]:=fun ρ n s vs' ks' X r1 r2=>r1.oneE fun _ q0=>r2.nilE (⟨_,kp_binds X u4,(.cons q0 .nil)⟩)
def f7(S:Sta):FuncData:=Ef S.τ
theorem Ah:S.K.lookup oN=some (fnO (f7 S)):=by kernel_rfl
theorem Ai:codeIn S.K (f7 S).code (f7 S).qualname=true:=by kernel_rfl
def Aj:List (Str×NameKind):=[(⟨⟨eT⟩⟩,.local)]
theorem Ak:lz.scope.names=Aj:=by kernel_rfl
theorem n_netFirst_self:ac lz "self" 0 .local:= .of Ak
theorem Al:br lz [("self",v0)] [some v0]:=(.cons (.nil (l:=eI 1) rfl) n_netFirst_self .zero)
theorem Am {v0:V}{vs:List V}{ks:List (Str×V)}{P:PX}{hp:List ai}(hb:Binds S (f7 S) vs ks [("self",v0)])(h:WL S (d+1) lz tR (fun o σ'=>P (de o) σ'.hp) no ⟨[some v0],hp⟩)(hd:d<1000):WFn S d (.ref oN) vs ks P no hp:=cW (fd:=f7 S) (body:=tR) (bl:=[("self",v0)]) rfl Ah Ai hd rfl hb Al (co) h
theorem wv:∀T,peek S.K T (bindArgs (f7 S) ⟨[x0],[]⟩)=some ([("self",x0)]:List (Str×Value)):=by intro T;kernel_rfl
theorem ww:Binds S (f7 S) [a0] [] [("self",a0)]:=fun ρ n s vs' ks' X r1 r2=>r1.oneE fun _ q0=>r2.nilE (⟨_,kp_binds X wv,(.cons q0 .nil)⟩)
def gU(S:Sta):FuncData:=Eg S.τ
theorem C9:S.K.lookup qo=some (fnO (gU S)):=by kernel_rfl
theorem Da:codeIn S.K (gU S).code (gU S).qualname=true:=by kernel_rfl
def Db:List (Str×NameKind):=[(⟨⟨eT⟩⟩,.local),(⟨⟨Jf⟩⟩,.local)]
theorem ug:kD.scope.names=Db:=by kernel_rfl
theorem n_netLast_self:ac kD "self" 0 .local:= .of ug
theorem kF:ac kD "hostmask" 1 .local:= .of ug
theorem Dc:br kD [("self",v0)] [some v0,none]:=(.cons (.nil (l:=eI 2) rfl) n_netLast_self .zero)
theorem Dd {v0:V}{vs:List V}{ks:List (Str×V)}{P:PX}{hp:List ai}(hb:Binds S (gU S) vs ks [("self",v0)])(h:WL S (d+1) kD vG (fun o σ'=>P (de o) σ'.hp) no ⟨[some v0,none],hp⟩)(hd:d<1000):WFn S d (.ref qo) vs ks P no hp:=cW (fd:=gU S) (body:=vG) (bl:=[("self",v0)]) rfl C9 Da hd rfl hb Dc (co) h
theorem yu:∀T,peek S.K T (bindArgs (gU S) ⟨[x0],[]⟩)=some ([("self",x0)]:List (Str×Value)):=by intro T;kernel_rfl
theorem yv:Binds S (gU S) [a0] [] [("self",a0)]:=fun ρ n s vs' ks' X r1 r2=>r1.oneE fun _ q0=>r2.nilE (⟨_,kp_binds X yu,(.cons q0 .nil)⟩)
def De:List (Str×NameKind):=[(⟨⟨eT⟩⟩,.local)]
theorem Df:vH.scope.names=De:=by kernel_rfl
theorem n_netmask_self:ac vH "self" 0 .local:= .of Df
def f8(S:Sta):FuncData:=Eh S.τ
theorem An:S.K.lookup oO=some (fnO (f8 S)):=by kernel_rfl
theorem Ao:codeIn S.K (f8 S).code (f8 S).qualname=true:=by kernel_rfl
def Ap:List (Str×NameKind):=[(⟨⟨eT⟩⟩,.local)]
theorem Aq:lA.scope.names=Ap:=by kernel_rfl
theorem n_hostmask_self:ac lA "self" 0 .local:= .of Aq
theorem Ar:br lA [("self",v0)] [some v0]:=(.cons (.nil (l:=eI 1) rfl) n_hostmask_self .zero)
theorem As {v0:V}{vs:List V}{ks:List (Str×V)}{P:PX}{hp:List ai}(hb:Binds S (f8 S) vs ks [("self",v0)])(h:WL S (d+1) lA tS (fun o σ'=>P (de o) σ'.hp) no ⟨[some v0],hp⟩)(hd:d<1000):WFn S d (.ref oO) vs ks P no hp:=cW (fd:=f8 S) (body:=tS) (bl:=[("self",v0)]) rfl An Ao hd rfl hb Ar (co) h
theorem wx:∀T,peek S.K T (bindArgs (f8 S) ⟨[x0],[]⟩)=some ([("self",x0)]:List (Str×Value)):=by intro T;kernel_rfl
theorem wy:Binds S (f8 S) [a0] [] [("self",a0)]:=fun ρ n s vs' ks' X r1 r2=>r1.oneE fun _ q0=>r2.nilE (⟨_,kp_binds X wx,(.cons q0 .nil)⟩)
def KL:List (Str×NameKind):=[(⟨⟨eT⟩⟩,.local),(⟨⟨oj⟩⟩,GI)]
theorem KM:E9.scope.names=KL:=by kernel_rfl
theorem n_cidr_self:ac E9 "self" 0 .local:= .of KM
def iu(S:Sta):FuncData:=Ei S.τ
theorem Fk:S.K.lookup sw=some (fnO (iu S)):=by kernel_rfl
theorem Fm:codeIn S.K (iu S).code (iu S).qualname=true:=by kernel_rfl
def Fn:List (Str×NameKind):=[(⟨⟨eT⟩⟩,.local),(⟨⟨Sf⟩⟩,.local),(⟨⟨BZ⟩⟩,.local),(⟨⟨Sg⟩⟩,.local)]
theorem mC:jf.scope.names=Fn:=by kernel_rfl
theorem n_netKey_self:ac jf "self" 0 .local:= .of mC
theorem iZ:ac jf "net_size_bits" 1 .local:= .of mC
theorem ka:ac jf "first" 2 .local:= .of mC
theorem kH:ac jf "host_bits" 3 .local:= .of mC
theorem Fo:br jf [("self",v0)] [some v0,none,none,none]:=(.cons (.nil (l:=eI 4) rfl) n_netKey_self .zero)
theorem Fp {v0:V}{vs:List V}{ks:List (Str×V)}{P:PX}{hp:List ai}(hb:Binds S (iu S) vs ks [("self",v0)])(h:WL S (d+1) jf xP (fun o σ'=>P (de o) σ'.hp) no ⟨[some v0,none,none,none],hp⟩)(hd:d<1000):WFn S d (.ref sw) vs ks P no hp:=cW (fd:=iu S) (body:=xP) (bl:=[("self",v0)]) rfl Fk Fm hd rfl hb Fo (co) h
theorem Au:∀T,peek S.K T (bindArgs (iu S) ⟨[x0],[]⟩)=some ([("self",x0)]:List (Str×Value)):=by intro T;kernel_rfl
theorem Av:Binds S (iu S) [a0] [] [("self",a0)]:=fun ρ n s vs' ks' X r1 r2=>r1.oneE fun _ q0=>r2.nilE (⟨_,kp_binds X Au,(.cons q0 .nil)⟩)
def fx(S:Sta):FuncData:=Ej S.τ
theorem yw:S.K.lookup mV=some (fnO (fx S)):=by kernel_rfl
theorem yx:codeIn S.K (fx S).code (fx S).qualname=true:=by kernel_rfl
def yy:List (Str×NameKind):=[(⟨⟨eT⟩⟩,.local),(⟨⟨B3⟩⟩,.local),(⟨⟨Js⟩⟩,.local),(⟨⟨qR⟩⟩,.local),(⟨⟨uB⟩⟩,GI),(⟨⟨uA⟩⟩,GI)]
theorem iw:e7.scope.names=yy:=by kernel_rfl
theorem n_RangeInit_self:ac e7 "self" 0 .local:= .of iw
theorem lg:ac e7 "start" 1 .local:= .of iw
theorem mD:ac e7 "end" 2 .local:= .of iw
theorem iR:ac e7 "flags" 3 .local:= .of iw
theorem jy:ac e7 "IPAddress" 4 GI:= .of iw
theorem yz:br e7 [("flags",v3),("end",v2),("start",v1),("self",v0)] [some v0,some v1,some v2,some v3,none,none]:=(.cons (.cons (.cons (.cons (.nil (l:=eI 6) rfl) n_RangeInit_self .zero) lg (.succ .zero)) mD (.succ (.succ .zero))) iR (.succ (.succ (.succ .zero))))
theorem yA {v0 v1 v2 v3:V}{vs:List V}{ks:List (Str×V)}{P:PX}{hp:List ai}(hb:Binds S (fx S) vs ks [("self",v0),("start",v1),("end",v2),("flags",v3)])(h:WL S (d+1) e7 rQ (fun o σ'=>P (de o) σ'.hp) no ⟨[some v0,some v1,some v2,some v3,none,none],hp⟩)(hd:d<1000):WFn S d (.ref mV) vs ks P no hp:=cW (fd:=fx S) (body:=rQ) (bl:=[("flags",v3),("end",v2),("start",v1),("self",v0)]) rfl yw yx hd rfl hb yz (co) h
theorem u6:∀T,peek S.K T (bindArgs (fx S) ⟨[x0,x1,x2],[]⟩)=some ([("self",x0),("start",x1),("end",x2),("flags",(.int (0) (S.τ 13000982)))]:List (Str×Value)):=by intro T;kernel_rfl
theorem u7:Binds S (fx S) [a0,a1,a2] [] [("self",a0),("start",a1),("end",a2),("flags",.int 0)]:=fun ρ n s vs' ks' X r1 r2=>r1.threeE fun _ _ _ q0 q1 q2=>r2.nilE (⟨_,kp_binds X u6,(.cons q0 (.cons q1 (.cons q2 (.cons (.int _ _) .nil))))⟩)
def f9(S:Sta):FuncData:=Ek S.τ
theorem Aw:S.K.lookup oP=some (fnO (f9 S)):=by kernel_rfl
theorem Ax:codeIn S.K (f9 S).code (f9 S).qualname=true:=by kernel_rfl
def Ay:List (Str×NameKind):=[(⟨⟨eT⟩⟩,.local)]
theorem AA:lB.scope.names=Ay:=by kernel_rfl
theorem n_rngFirst_self:ac lB "self" 0 .local:= .of AA
theorem AB:br lB [("self",v0)] [some v0]:=(.cons (.nil (l:=eI 1) rfl) n_rngFirst_self .zero)
theorem AC {v0:V}{vs:List V}{ks:List (Str×V)}{P:PX}{hp:List ai}(hb:Binds S (f9 S) vs ks [("self",v0)])(h:WL S (d+1) lB tT (fun o σ'=>P (de o) σ'.hp) no ⟨[some v0],hp⟩)(hd:d<1000):WFn S d (.ref oP) vs ks P no hp:=cW (fd:=f9 S) (body:=tT) (bl:=[("self",v0)]) rfl Aw Ax hd rfl hb AB (co) h
theorem wz:∀T,peek S.K T (bindArgs (f9 S) ⟨[x0],[]⟩)=some ([("self",x0)]:List (Str×Value)):=by intro T;kernel_rfl
theorem wA:Binds S (f9 S) [a0] [] [("self",a0)]:=fun ρ n s vs' ks' X r1 r2=>r1.oneE fun _ q0=>r2.nilE (⟨_,kp_binds X wz,(.cons q0 .nil)⟩)
def gV(S:Sta):FuncData:=Em S.τ
theorem Dg:S.K.lookup qp=some (fnO (gV S)):=by kernel_rfl
theorem Dh:codeIn S.K (gV S).code (gV S).qualname=true:=by kernel_rfl
def Di:List (Str×NameKind):=[(⟨⟨eT⟩⟩,.local)]
theorem Dj:mx.scope.names=Di:=by kernel_rfl
theorem n_rngLast_self:ac mx "self" 0 .local:= .of Dj
theorem Dk:br mx [("self",v0)] [some v0]:=(.cons (.nil (l:=eI 1) rfl) n_rngLast_self .zero)
theorem Dl {v0:V}{vs:List V}{ks:List (Str×V)}{P:PX}{hp:List ai}(hb:Binds S (gV S) vs ks [("self",v0)])(h:WL S (d+1) mx vI (fun o σ'=>P (de o) σ'.hp) no ⟨[some v0],hp⟩)(hd:d<1000):WFn S d (.ref qp) vs ks P no hp:=cW (fd:=gV S) (body:=vI) (bl:=[("self",v0)]) rfl Dg Dh hd rfl hb Dk (co) h
theorem yB:∀T,peek S.K T (bindArgs (gV S) ⟨[x0],[]⟩)=some ([("self",x0)]:List (Str×Value)):=by intro T;kernel_rfl
theorem yC:Binds S (gV S) [a0] [] [("self",a0)]:=fun ρ n s vs' ks' X r1 r2=>r1.oneE fun _ q0=>r2.nilE (⟨_,kp_binds X yB,(.cons q0 .nil)⟩)
def gb(S:Sta):FuncData:=En S.τ
theorem AD:S.K.lookup jG=some (fnO (gb S)):=by kernel_rfl
theorem AE:codeIn S.K (gb S).code (gb S).qualname=true:=by kernel_rfl
theorem AF:keepIn S.K (.ref jG)=true:=by kernel_rfl
def AG:List (Str×NameKind):=[(⟨⟨eT⟩⟩,.local),(⟨⟨GF⟩⟩,GI)]
theorem rV:jH.scope.names=AG:=by kernel_rfl
theorem n_rngCidrs_self:ac jH "self" 0 .local:= .of rV
theorem kI:ac jH "iprange_to_cidrs" 1 GI:= .of rV
theorem AH:br jH [("self",v0)] [some v0,none]:=(.cons (.nil (l:=eI 2) rfl) n_rngCidrs_self .zero)
theorem AI {v0:V}{vs:List V}{ks:List (Str×V)}{P:PX}{hp:List ai}(hb:Binds S (gb S) vs ks [("self",v0)])(h:WL S (d+1) jH tU (fun o σ'=>P (de o) σ'.hp) no ⟨[some v0,none],hp⟩)(hd:d<1000):WFn S d (.ref jG) vs ks P no hp:=cW (fd:=gb S) (body:=tU) (bl:=[("self",v0)]) rfl AD AE hd rfl hb AH (co) h
theorem wB:∀T,peek S.K T (bindArgs (gb S) ⟨[x0],[]⟩)=some ([("self",x0)]:List (Str×Value)):=by intro T;kernel_rfl
theorem wC:Binds S (gb S) [a0] [] [("self",a0)]:=fun ρ n s vs' ks' X r1 r2=>r1.oneE fun _ q0=>r2.nilE (⟨_,kp_binds X wB,(.cons q0 .nil)⟩)
def jk(S:Sta):FuncData:=Ep S.τ
theorem HB:S.K.lookup rh=some (fnO (jk S)):=by kernel_rfl
theorem HC:codeIn S.K (jk S).code (jk S).qualname=true:=by kernel_rfl
theorem HD:keepIn S.K (.ref rh)=true:=by kernel_rfl
def HE:List (Str×NameKind):=[(⟨⟨Jt⟩⟩,.local),(⟨⟨Sh⟩⟩,.local),(⟨⟨wN⟩⟩,.local),(⟨⟨Ju⟩⟩,.local),(⟨⟨Si⟩⟩,.local),(⟨⟨Sj⟩⟩,.local),(⟨⟨Sk⟩⟩,.local),(⟨⟨Sl⟩⟩,.local),(⟨⟨sf⟩⟩,.local),(⟨⟨Sm⟩⟩,.local),(⟨⟨Sn⟩⟩,.local),(⟨⟨qN⟩⟩,GI),(⟨⟨ot⟩⟩,GI),(⟨⟨uB⟩⟩,GI),(⟨⟨ou⟩⟩,GI),(⟨⟨oj⟩⟩,GI),(⟨⟨GE⟩⟩,GI),(⟨⟨qP⟩⟩,GI),(⟨⟨B5⟩⟩,GI),(⟨⟨GF⟩⟩,GI)]
theorem cz:cw.scope.names=HE:=by kernel_rfl
theorem gX:ac cw "ip_addrs" 0 .local:= .of cz
theorem aO:ac cw "ranges" 1 .local:= .of cz
theorem e5:ac cw "ip" 2 .local:= .of cz
theorem ba:ac cw "net" 3 .local:= .of cz
theorem bZ:ac cw "i" 4 .local:= .of cz
theorem gy:ac cw "merged" 5 .local:= .of cz
theorem bD:ac cw "range_tuple" 6 .local:= .of cz
theorem ed:ac cw "original" 7 .local:= .of cz
theorem jM:ac cw "version" 8 .local:= .of cz
theorem jX:ac cw "range_start" 9 .local:= .of cz
theorem kJ:ac cw "range_stop" 10 .local:= .of cz
theorem c0:ac cw "isinstance" 11 GI:= .of cz
theorem AJ:ac cw "int" 12 GI:= .of cz
theorem iS:ac cw "IPAddress" 13 GI:= .of cz
theorem dK:ac cw "IPNetwork" 15 GI:= .of cz
theorem ez:ac cw "IPRange" 16 GI:= .of cz
theorem kt:ac cw "len" 17 GI:= .of cz
theorem AK:ac cw "min" 18 GI:= .of cz
theorem l8:ac cw "iprange_to_cidrs" 19 GI:= .of cz
theorem HF:br cw [("ip_addrs",v0)] [some v0,none,none,none,none,none,none,none,none,none,none,none,none,none,none,none,none,none,none,none]:=(.cons (.nil (l:=eI 20) rfl) gX .zero)
theorem HH {v0:V}{vs:List V}{ks:List (Str×V)}{P:PX}{hp:List ai}(hb:Binds S (jk S) vs ks [("ip_addrs",v0)])(h:WL S (d+1) cw Bf (fun o σ'=>P (de o) σ'.hp) no ⟨[some v0,none,none,none,none,none,none,none,none,none,none,none,none,none,none,none,none,none,none,none],hp⟩)(hd:d<1000):WFn S d (.ref rh) vs ks P no hp:=cW (fd:=jk S) (body:=Bf) (bl:=[("ip_addrs",v0)]) rfl HB HC hd rfl hb HF (co) h
theorem Dm:∀T,peek S.K T (bindArgs (jk S) ⟨[x0],[]⟩)=some ([("ip_addrs",x0)]:List (Str×Value)):=by intro T;kernel_rfl
theorem Dn:Binds S (jk S) [a0] [] [("ip_addrs",a0)]:=fun ρ n s vs' ks' X r1 r2=>r1.oneE fun _ q0=>r2.nilE (⟨_,kp_binds X Dm,(.cons q0 .nil)⟩)
def kc(S:Sta):FuncData:=Er S.τ
theorem KN:S.K.lookup nF=some (fnO (kc S)):=by kernel_rfl
theorem KO:codeIn S.K (kc S).code (kc S).qualname=true:=by kernel_rfl
theorem u8:keepIn S.K (.ref nF)=true:=by kernel_rfl
def KP:List (Str×NameKind):=[(⟨⟨So⟩⟩,.local),(⟨⟨Jv⟩⟩,.local),(⟨⟨Sp⟩⟩,.local),(⟨⟨Sq⟩⟩,.local),(⟨⟨Sr⟩⟩,.local),(⟨⟨Ss⟩⟩,.local),(⟨⟨Su⟩⟩,.local),(⟨⟨sf⟩⟩,.local),(⟨⟨Sv⟩⟩,.local),(⟨⟨Sw⟩⟩,.local),(⟨⟨Sx⟩⟩,.local),(⟨⟨oj⟩⟩,GI)]
theorem fP:fq.scope.names=KP:=by kernel_rfl
theorem aZ:ac fq "target" 0 .local:= .of fP
theorem aE:ac fq "exclude" 1 .local:= .of fP
theorem e8:ac fq "left" 2 .local:= .of fP
theorem eu:ac fq "right" 3 .local:= .of fP
theorem ak:ac fq "new_prefixlen" 4 .local:= .of fP
theorem aB:ac fq "target_module_width" 5 .local:= .of fP
theorem dk:ac fq "target_first" 6 .local:= .of fP
theorem fh:ac fq "version" 7 .local:= .of fP
theorem cJ:ac fq "i_lower" 8 .local:= .of fP
theorem bM:ac fq "i_upper" 9 .local:= .of fP
theorem bN:ac fq "matched" 10 .local:= .of fP
theorem da:ac fq "IPNetwork" 11 GI:= .of fP
theorem KQ:br fq [("exclude",v1),("target",v0)] [some v0,some v1,none,none,none,none,none,none,none,none,none,none]:=(.cons (.cons (.nil (l:=eI 12) rfl) aZ .zero) aE (.succ .zero))
theorem Bi {v0 v1:V}{vs:List V}{ks:List (Str×V)}{P:PX}{hp:List ai}(hb:Binds S (kc S) vs ks [("target",v0),("exclude",v1)])(h:WL S (d+1) fq Fa (fun o σ'=>P (de o) σ'.hp) no ⟨[some v0,some v1,none,none,none,none,none,none,none,none,none,none],hp⟩)(hd:d<1000):WFn S d (.ref nF) vs ks P no hp:=cW (fd:=kc S) (body:=Fa) (bl:=[("exclude",v1),("target",v0)]) rfl KN KO hd rfl hb KQ (co) h
theorem Fq:∀T,peek S.K T (bindArgs (kc S) ⟨[x0,x1],[]⟩)=some ([("target",x0),("exclude",x1)]:List (Str×Value)):=by intro T;kernel_rfl
theorem vL:Binds S (kc S) [a0,a1] [] [("target",a0),("exclude",a1)]:=fun ρ n s vs' ks' X r1 r2=>r1.twoE fun _ _ q0 q1=>r2.nilE (⟨_,kp_binds X Fq,(.cons q0 (.cons q1 .nil))⟩)
def ke(S:Sta):FuncData:=Es S.τ
theorem KR:S.K.lookup tV=some (fnO (ke S)):=by kernel_rfl
theorem KS:codeIn S.K (ke S).code (ke S).qualname=true:=by kernel_rfl
theorem KT:keepIn S.K (.ref tV)=true:=by kernel_rfl
def KU:List (Str×NameKind):=[(⟨⟨Jt⟩⟩,.local),(⟨⟨Sy⟩⟩,.local),(⟨⟨Sz⟩⟩,.local),(⟨⟨SB⟩⟩,.local),(⟨⟨SD⟩⟩,.local),(⟨⟨SE⟩⟩,.local),(⟨⟨Jd⟩⟩,.local),(⟨⟨SF⟩⟩,.local),(⟨⟨wM⟩⟩,.local),(⟨⟨SG⟩⟩,.local),(⟨⟨BU⟩⟩,.local),(⟨⟨qP⟩⟩,GI),(⟨⟨ou⟩⟩,GI),(⟨⟨qQ⟩⟩,GI),(⟨⟨oj⟩⟩,GI)]
theorem fQ:eP.scope.names=KU:=by kernel_rfl
theorem mE:ac eP "ip_addrs" 0 .local:= .of fQ
theorem fW:ac eP "networks" 1 .local:= .of fQ
theorem gY:ac eP "network_a" 2 .local:= .of fQ
theorem gZ:ac eP "network_b" 3 .local:= .of fQ
theorem dy:ac eP "min_network" 4 .local:= .of fQ
theorem dz:ac eP "max_network" 5 .local:= .of fQ
theorem gz:ac eP "ipnum" 7 .local:= .of fQ
theorem dv:ac eP "prefixlen" 8 .local:= .of fQ
theorem jY:ac eP "lowest_ipnum" 9 .local:= .of fQ
theorem qB:ac eP "width" 10 .local:= .of fQ
theorem Do:ac eP "len" 11 GI:= .of fQ
theorem l9:ac eP "IPNetwork" 14 GI:= .of fQ
theorem KV:br eP [("ip_addrs",v0)] [some v0,none,none,none,none,none,none,none,none,none,none,none,none,none,none]:=(.cons (.nil (l:=eI 15) rfl) mE .zero)
theorem KW {v0:V}{vs:List V}{ks:List (Str×V)}{P:PX}{hp:List ai}(hb:Binds S (ke S) vs ks [("ip_addrs",v0)])(h:WL S (d+1) eP xQ (fun o σ'=>P (de o) σ'.hp) no ⟨[some v0,none,none,none,none,none,none,none,none,none,none,none,none,none,none],hp⟩)(hd:d<1000):WFn S d (.ref tV) vs ks P no hp:=cW (fd:=ke S) (body:=xQ) (bl:=[("ip_addrs",v0)]) rfl KR KS hd rfl hb KV (co) h
theorem Fr:∀T,peek S.K T (bindArgs (ke S) ⟨[x0],[]⟩)=some ([("ip_addrs",x0)]:List (Str×Value)):=by intro T;kernel_rfl
theorem Ft:Binds S (ke S) [a0] [] [("ip_addrs",a0)]:=fun ρ n s vs' ks' X r1 r2=>r1.oneE fun _ q0=>r2.nilE (⟨_,kp_binds X Fr,(.cons q0 .nil)⟩)
def jl(S:Sta):FuncData:=Et S.τ
theorem HI:S.K.lookup rl=some (fnO (jl S)):=by kernel_rfl
theorem HJ:codeIn S.K (jl S).code (jl S).qualname=true:=by kernel_rfl
theorem yD:keepIn S.K (.ref rl)=true:=by kernel_rfl
def HK:List (Str×NameKind):=[(⟨⟨B3⟩⟩,.local),(⟨⟨Js⟩⟩,.local),(⟨⟨SH⟩⟩,.local),(⟨⟨SI⟩⟩,.local),(⟨⟨SJ⟩⟩,.local),(⟨⟨BU⟩⟩,.local),(⟨⟨Jv⟩⟩,.local),(⟨⟨oj⟩⟩,GI),(⟨⟨MC⟩⟩,GI),(⟨⟨MB⟩⟩,GI)]
theorem gc:fc.scope.names=HK:=by kernel_rfl
theorem dp:ac fc "start" 0 .local:= .of gc
theorem i5:ac fc "end" 1 .local:= .of gc
theorem aX:ac fc "cidr_list" 2 .local:= .of gc
theorem dG:ac fc "iprange" 3 .local:= .of gc
theorem bJ:ac fc "cidr_span" 4 .local:= .of gc
theorem i9:ac fc "width" 5 .local:= .of gc
theorem eE:ac fc "exclude" 6 .local:= .of gc
theorem eS:ac fc "IPNetwork" 7 GI:= .of gc
theorem nJ:ac fc "spanning_cidr" 8 GI:= .of gc
theorem gd:ac fc "cidr_partition" 9 GI:= .of gc
theorem HL:br fc [("end",v1),("start",v0)] [some v0,some v1,none,none,none,none,none,none,none,none]:=(.cons (.cons (.nil (l:=eI 10) rfl) dp .zero) i5 (.succ .zero))
theorem HM {v0 v1:V}{vs:List V}{ks:List (Str×V)}{P:PX}{hp:List ai}(hb:Binds S (jl S) vs ks [("start",v0),("end",v1)])(h:WL S (d+1) fc Bg (fun o σ'=>P (de o) σ'.hp) no ⟨[some v0,some v1,none,none,none,none,none,none,none,none],hp⟩)(hd:d<1000):WFn S d (.ref rl) vs ks P no hp:=cW (fd:=jl S) (body:=Bg) (bl:=[("end",v1),("start",v0)]) rfl HI HJ hd rfl hb HL (co) h
theorem Dp:∀T,peek S.K T (bindArgs (jl S) ⟨[x0,x1],[]⟩)=some ([("start",x0),("end",x1)]:List (Str×Value)):=by intro T;kernel_rfl
theorem Dq:Binds S (jl S) [a0,a1] [] [("start",a0),("end",a1)]:=fun ρ n s vs' ks' X r1 r2=>r1.twoE fun _ _ q0 q1=>r2.nilE (⟨_,kp_binds X Dp,(.cons q0 (.cons q1 .nil))⟩)
def iy(S:Sta):FuncData:=Eu S.τ
theorem Fu:S.K.lookup oQ=some (fnO (iy S)):=by kernel_rfl
theorem Fv:codeIn S.K (iy S).code (iy S).qualname=true:=by kernel_rfl
theorem Fw:keepIn S.K (.ref oQ)=true:=by kernel_rfl
def Fx:List (Str×NameKind):=[(⟨⟨wO⟩⟩,.local),(⟨⟨qS⟩⟩,.local),(⟨⟨s9⟩⟩,.local),(⟨⟨Jw⟩⟩,.local),(⟨⟨BY⟩⟩,.local),(⟨⟨B5⟩⟩,GI)]
theorem jz:gP.scope.names=Fx:=by kernel_rfl
theorem g9:ac gP "kind" 0 .local:= .of jz
theorem cE:ac gP "low" 1 .local:= .of jz
theorem lc:ac gP "high" 2 .local:= .of jz
theorem iI:ac gP "found" 3 .local:= .of jz
theorem eO:ac gP "size" 4 .local:= .of jz
theorem yE:ac gP "min" 5 GI:= .of jz
theorem Fy:br gP [("high",v2),("low",v1),("kind",v0)] [some v0,some v1,some v2,none,none,none]:=(.cons (.cons (.cons (.nil (l:=eI 6) rfl) g9 .zero) cE (.succ .zero)) lc (.succ (.succ .zero)))
theorem Fz {v0 v1 v2:V}{vs:List V}{ks:List (Str×V)}{P:PX}{hp:List ai}(hb:Binds S (iy S) vs ks [("kind",v0),("low",v1),("high",v2)])(h:WL S (d+1) gP xR (fun o σ'=>P (de o) σ'.hp) no ⟨[some v0,some v1,some v2,none,none,none],hp⟩)(hd:d<1000):WFn S d (.ref oQ) vs ks P no hp:=cW (fd:=iy S) (body:=xR) (bl:=[("high",v2),("low",v1),("kind",v0)]) rfl Fu Fv hd rfl hb Fy (co) h
theorem AL:∀T,peek S.K T (bindArgs (iy S) ⟨[x0,x1,x2],[]⟩)=some ([("kind",x0),("low",x1),("high",x2)]:List (Str×Value)):=by intro T;kernel_rfl
theorem AM:Binds S (iy S) [a0,a1,a2] [] [("kind",a0),("low",a1),("high",a2)]:=fun ρ n s vs' ks' X r1 r2=>r1.threeE fun _ _ _ q0 q1 q2=>r2.nilE (⟨_,kp_binds X AL,(.cons q0 (.cons q1 (.cons q2 .nil)))⟩)
def kf(S:Sta):FuncData:=Ev S.τ
theorem KX:S.K.lookup tW=some (fnO (kf S)):=by kernel_rfl
theorem KY:codeIn S.K (kf S).code (kf S).qualname=true:=by kernel_rfl
theorem KZ:keepIn S.K (.ref tW)=true:=by kernel_rfl
def K2:List (Str×NameKind):=[(⟨⟨SK⟩⟩,.local)]
theorem K3:tX.scope.names=K2:=by kernel_rfl
theorem rW:ac tX "nets" 0 .local:= .of K3
theorem K4:br tX [("nets",v0)] [some v0]:=(.cons (.nil (l:=eI 1) rfl) rW .zero)
theorem K5 {v0:V}{vs:List V}{ks:List (Str×V)}{P:PX}{hp:List ai}(hb:Binds S (kf S) vs ks [("nets",v0)])(h:WL S (d+1) tX Fb (fun o σ'=>P (de o) σ'.hp) no ⟨[some v0],hp⟩)(hd:d<1000):WFn S d (.ref tW) vs ks P no hp:=cW (fd:=kf S) (body:=Fb) (bl:=[("nets",v0)]) rfl KX KY hd rfl hb K4 (co) h
theorem FA:∀T,peek S.K T (bindArgs (kf S) ⟨[x0],[]⟩)=some ([("nets",x0)]:List (Str×Value)):=by intro T;kernel_rfl
theorem FD:Binds S (kf S) [a0] [] [("nets",a0)]:=fun ρ n s vs' ks' X r1 r2=>r1.oneE fun _ q0=>r2.nilE (⟨_,kp_binds X FA,(.cons q0 .nil)⟩)
def jm(S:Sta):FuncData:=Ew S.τ
theorem HN:S.K.lookup rm=some (fnO (jm S)):=by kernel_rfl
theorem HO:codeIn S.K (jm S).code (jm S).qualname=true:=by kernel_rfl
theorem HP:keepIn S.K (.ref rm)=true:=by kernel_rfl
def HQ:List (Str×NameKind):=[(⟨⟨Jx⟩⟩,.local),(⟨⟨Jw⟩⟩,.local),(⟨⟨wO⟩⟩,.cell),(⟨⟨SL⟩⟩,.local),(⟨⟨B3⟩⟩,.local),(⟨⟨Jy⟩⟩,.cell),(⟨⟨SM⟩⟩,.local),(⟨⟨SN⟩⟩,GI),(⟨⟨MD⟩⟩,GI)]
theorem Dr:∀T,peek S.K T (bindArgs (jm S) ⟨[x0],[]⟩)=some ([("parts",x0)]:List (Str×Value)):=by intro T;kernel_rfl
theorem Ds:Binds S (jm S) [a0] [] [("parts",a0)]:=fun ρ n s vs' ks' X r1 r2=>r1.oneE fun _ q0=>r2.nilE (⟨_,kp_binds X Dr,(.cons q0 .nil)⟩)
def kL(S:Sta):FuncData:=Ey S.τ
theorem FE:S.K.lookup oR=some (fnO (kL S)):=by kernel_rfl
theorem Qh:codeIn S.K (kL S).code (kL S).qualname=true:=by kernel_rfl
def Qi:List (Str×NameKind):=[(⟨⟨SO⟩⟩,.local),(⟨⟨SP⟩⟩,.local),(⟨⟨SQ⟩⟩,.local),(⟨⟨SR⟩⟩,.local),(⟨⟨SS⟩⟩,.local),(⟨⟨Jx⟩⟩,.local),(⟨⟨ST⟩⟩,.local),(⟨⟨SU⟩⟩,.local),(⟨⟨SV⟩⟩,.local),(⟨⟨SW⟩⟩,.local),(⟨⟨wO⟩⟩,.local),(⟨⟨I5⟩⟩,.local),(⟨⟨SX⟩⟩,.local),(⟨⟨qS⟩⟩,.cell),(⟨⟨SY⟩⟩,.local),(⟨⟨s9⟩⟩,.local),(⟨⟨Jl⟩⟩,.local),(⟨⟨BY⟩⟩,.local),(⟨⟨Jm⟩⟩,GI),(⟨⟨qP⟩⟩,GI),(⟨⟨uB⟩⟩,GI),(⟨⟨B5⟩⟩,GI),(⟨⟨GE⟩⟩,GI),(⟨⟨qO⟩⟩,GI),(⟨⟨oj⟩⟩,GI),(⟨⟨MF⟩⟩,GI),(⟨⟨MA⟩⟩,GI),(⟨⟨MG⟩⟩,GI)]
theorem HR:∀T,peek S.K T (bindArgs (kL S) ⟨[x0],[]⟩)=some ([("script",x0)]:List (Str×Value)):=by intro T;kernel_rfl
theorem HS:Binds S (kL S) [a0] [] [("script",a0)]:=fun ρ n s vs' ks' X r1 r2=>r1.oneE fun _ q0=>r2.nilE (⟨_,kp_binds X HR,(.cons q0 .nil)⟩)
end
theorem aV(k:Nat):(0:Int)<2^k:=Int.pow_pos (by decide)
theorem qC(h:k≤w):(2:Int)^k≤2^w:=by
 have:=Nat.pow_le_pow_right (n:=2) (by decide) h
 exact_mod_cast this
theorem fy(k:Nat):((2^k:Nat):Int)=2^k:=by push_cast;rfl
theorem sK(hx:0≤x)(k:Nat):Builtin.bitAnd x (2^k-1)=x%2^k:=by
 haveI h0:=aV k;rw[bitAnd_pp hx (by exact fi1 (Y0 (.k 0) (.s X0 (.k 1))) [Y1 (.k 0) X0] rfl h0)];haveI e:((2:Int)^k-1).toNat=2^k-1:=by
  have:=fy k;exact nAs (iOm (fi4 (Y0 X0 X1) [Y2 X2 X3,Y0 X3 (.i X1),Y2 X0 (.s X2 (.k 1))] rfl this.symm (iOl (lsa (2^k) 1)) (tnn (2^k-1) (fi1 (Y0 (.k 0) (.s X0 (.k 1))) [Y1 (.k 0) X0] rfl h0)))) (iOm (fi4 (Y0 X0 X1) [Y2 X2 X3,Y0 (.s X3 (.k 1)) X1,Y2 (.i X0) X2] rfl this (iSt (2^k-1)) (iOj (sac (2^k) 1 (iOm (fi2 (Y0 (.k 1) X0) [Y1 (.k 0) X1,Y2 X1 X0] rfl h0 this.symm))))))
 rw[e,Nat.and_two_pow_sub_one_eq_mod];have:=fy k
 push_cast
 rw[Int.toNat_of_nonneg hx]
theorem HT(h:k≤w):Builtin.bitXor (2^w-1) (2^k-1)=2^w-2^k:=by
 haveI h0:=aV k;haveI h1:=qC h;rw[bitXor_and,sK (by exact fi2 (Y0 (.k 0) (.s X0 (.k 1))) [Y1 (.k 0) X1,Y0 X1 X0] rfl h0 h1)];have:((2:Int)^w-1)%2^k=2^k-1:=by
  haveI e:(2:Int)^w=2^k*2^(w-k):=by rw[←Int.pow_add];congr 1;exact nAs (fj3 (Y0 X0 (.a X1 X2)) [Y0 X0 (.a X2 X1)] rfl (lsa w k)) (fj3 (Y0 (.a X0 X1) X2) [Y2 (.a X1 X0) X2] rfl (sac w k h))
  haveI e2:(2:Int)^w-1=(2^k-1)+2^k*(2^(w-k)-1):=by rw[e,Int.mul_sub];exact iAs (fi2 (Y0 (.s X0 (.k 1)) (.a (.s X1 (.k 1)) (.s X0 (.n X1 1)))) [] rfl) (fi2 (Y0 (.a (.s X0 (.k 1)) (.s X1 (.n X0 1))) (.s X1 (.k 1))) [] rfl)
  rw[e2,Int.add_mul_emod_self_left];exact Int.emod_eq_of_lt (fi1 (Y0 (.k 0) (.s X0 (.k 1))) [Y1 (.k 0) X0] rfl h0) (fi1 (Y1 (.s X0 (.k 1)) X0) [] rfl)
 rw[this];exact iAs (fi2 (Y0 (.s (.a (.s X0 (.k 1)) (.s X1 (.k 1))) (.m 2 (.s X1 (.k 1)))) (.s X0 X1)) [] rfl) (fi2 (Y0 (.s X0 X1) (.s (.a (.s X0 (.k 1)) (.s X1 (.k 1))) (.m 2 (.s X1 (.k 1))))) [] rfl)
theorem Dt(hv:v<2^w)(h:k≤w):v&&&(2^w-2^k)=v-v%2^k:=by
 haveI e1:2^w-2^k=2^k*(2^(w-k)-1):=by rw[Nat.mul_sub,←Nat.pow_add,Nat.mul_one];congr 2;exact nAs (fj3 (Y0 X0 (.a X1 X2)) [Y0 X0 (.a X2 X1)] rfl (lsa w k)) (fj3 (Y0 (.a X0 X1) X2) [Y2 (.a X1 X0) X2] rfl (sac w k h))
 haveI e2:v-v%2^k=2^k*(v / 2^k):=by have:=Nat.div_add_mod v (2^k);exact nAs (fj4 (Y0 X0 X1) [Y2 X2 (.a X1 X3),Y2 (.a X0 X3) X2] rfl this.symm (sac v (v%2^k) (fj3 (Y0 X0 X1) [Y2 (.a X2 X0) X1] rfl this))) (fj4 (Y0 X0 X1) [Y2 (.a X0 X2) X3,Y0 X3 (.a X1 X2)] rfl this (lsa v (v%2^k)))
 rw[e1,e2];apply Nat.eq_of_testBit_eq;intro j;rw[Nat.testBit_and,Nat.testBit_two_pow_mul,Nat.testBit_two_pow_mul,Nat.testBit_two_pow_sub_one,Nat.testBit_div_two_pow]
 by_cases hj:k≤j
 ·simp only[ge_iff_le,hj,decide_true,Bool.true_and];have:j-k+k=j:=nAs (fj3 (Y0 (.a X0 X1) X2) [Y2 (.a X0 X1) X2] rfl (sac j k hj)) ((lsa (j) (k)));rw[this]
  by_cases q:j-k<w-k
  ·simp[q]
  ·have:v.testBit j=false:=Nat.testBit_lt_two_pow (nLl hv (Nat.pow_le_pow_right (by decide) (fj5 (Y0 X0 X1) [Y2 (.a X2 X3) X1,Y0 X4 X2,Y0 X0 (.a X4 X3)] rfl this (nNl q) (lsa w k))));simp[this]
 ·simp[hj]
theorem Qj(h0:0≤v)(hv:v<2^w)(h:k≤w):Builtin.bitAnd v (2^w-2^k)=v-v%2^k:=by
 haveI h1:=qC h;haveI c1:=fy k;haveI c2:=fy w;rw[bitAnd_pp h0 (by exact fi2 (Y0 (.k 0) (.s X0 X1)) [Y0 X1 X0] rfl h1)];haveI e:((2:Int)^w-2^k).toNat=2^w-2^k:=nAs (iOm (fi6 (Y0 X0 X1) [Y2 X2 X3,Y2 X4 X5,Y0 X5 (.a X1 X2),Y2 X0 (.s X4 X3)] rfl c1 c2.symm (iOl (lsa (2^w) (2^k))) (tnn (2^w-2^k) (fi2 (Y0 (.k 0) (.s X0 X1)) [Y0 X1 X0] rfl h1)))) (iOm (fi6 (Y0 X0 X1) [Y2 X2 X3,Y2 X4 X5,Y0 (.s X5 X2) X1,Y2 (.a X0 X3) X4] rfl c1.symm c2 (iSt (2^w-2^k)) (iOj (sac (2^w) (2^k) (iOm (fi4 (Y0 X0 X1) [Y0 X2 X3,Y2 X0 X2,Y2 X3 X1] rfl h1 c1 c2.symm))))));rw[e,Dt (Int.ofNat_lt.mp (fi4 (Y1 X0 X1) [Y1 X2 X3,Y2 X3 X1,Y2 X0 X2] rfl hv c2.symm (tnn v h0))) h];have:v.toNat%2^k≤v.toNat:=Nat.mod_le _ _
 push_cast [this]
 rw[Int.toNat_of_nonneg h0]
theorem K6(h0:0≤v)(k:Nat):Builtin.bitAnd v (-(2^k))=v-v%2^k:=by
 haveI hp:=aV k;haveI c1:=fy k;have:Builtin.bitAnd v (-(2^k))=v-((v.toNat&&&(Builtin.bitNot (-(2^k))).toNat:Nat):Int):=by
  unfold Builtin.bitAnd;rw[dEt h0,dEf (by exact fun hz=>fi1 (0,3,.k 0,.k 0) [Y1 (.k 0) X0,Y0 (.k 0) (.g X0)] rfl hp hz)]
 rw[this];haveI e:(Builtin.bitNot (-(2^k))).toNat=2^k-1:=by unfold Builtin.bitNot;exact nAs (iOm (fi4 (Y0 X0 X1) [Y2 X2 X3,Y0 X3 (.i X1),Y2 X0 (.s (.g (.g X2)) (.k 1))] rfl c1.symm (iOl (lsa (2^k) 1)) (tnn (- -2^k-1) (fi1 (Y0 (.k 0) (.s (.g (.g X0)) (.k 1))) [Y1 (.k 0) X0] rfl hp)))) (iOm (fi4 (Y0 X0 X1) [Y2 X2 X3,Y0 (.s (.g (.g X3)) (.k 1)) X1,Y2 (.i X0) X2] rfl c1 (iSt (- -2^k-1)) (iOj (sac (2^k) 1 (iOm (fi2 (Y0 (.k 1) X0) [Y1 (.k 0) X1,Y2 X1 X0] rfl hp c1.symm))))))
 rw[e,Nat.and_two_pow_sub_one_eq_mod]
 push_cast
 rw[Int.toNat_of_nonneg h0]
theorem K7(h0:0≤v)(k:Nat):Builtin.bitOr v (2^k-1)=v-v%2^k+(2^k-1):=by
 rw[bitOr_and,sK h0];exact iAs (fi3 (Y0 (.s (.a X0 (.s X1 (.k 1))) X2) (.a (.s X0 X2) (.s X1 (.k 1)))) [] rfl) (fi3 (Y0 (.a (.s X0 X1) (.s X2 (.k 1))) (.s (.a X0 (.s X2 (.k 1))) X1)) [] rfl)
section
variable {S:Sta} {d:Nat}
theorem pv {P:PV}{v w:V}{σ:St}(e:v=w)(h:P w σ):P v σ:=e▸h
inductive Os1(suf:List (Option V))(hp:List ai):St→Prop
 |mk (a:Option V):Os1 suf hp ⟨none::a::suf,hp⟩
inductive Os2(suf:List (Option V))(hp:List ai):St→Prop
 |mk (a b:Option V):Os2 suf hp ⟨none::a::b::suf,hp⟩
inductive Os3(suf:List (Option V))(hp:List ai):St→Prop
 |mk (a b c:Option V):Os3 suf hp ⟨none::a::b::c::suf,hp⟩
noncomputable abbrev kAt(w:α)(σ:St)(v:α)(σ':St):Prop:=v=w∧σ'=σ
theorem o9(h:WEx S d c e (kAt w σ) X σ)(hp:P w σ):WEx S d c e P X σ:=h.mono fun v σ' e=>by obtain⟨rfl,rfl⟩:=e;exact hp
theorem Qk(h:WB S d c e (kAt w σ) X σ)(hp:P w σ):WB S d c e P X σ:=h.mono fun v σ' e=>by obtain⟨rfl,rfl⟩:=e;exact hp
theorem pszq {P:St→Prop}{loc:List (Option V)}{hp:List ai}{i:Nat}{vs ws:List V}(e:vs=ws)(h:P ⟨loc,hp.set i (.list ws)⟩):P ⟨loc,hp.set i (.list vs)⟩:=e▸h
theorem wZ(h:v=f x):l.map f++[v]=(l++[x]).map f:=by subst h;simp
theorem bw {c:FC}{X:PX}{lo:List (Option V)}{hp:List ai}{i:Nat}{vs ws:List V}{v:V}{P:PV}(hi:hp[i]?=some (.list vs))(e:vs++[v]=ws)(hz:vs.length≤100000)(p:P .none ⟨lo,hp.set i (.list ws)⟩):aI S d c (.top (.builtin "list.append")) [.obj i,v] [] P X ⟨lo,hp⟩:=lW hi hz (e▸p)
theorem PFn.ga {lo:List (Option V)}{hp:List ai}{f:Value}{vs:List V}{x:V}{P:PV}(h:PFn S d f vs [] (·=x))(hP:P x ⟨lo,hp⟩)(hx:x.hand=true:=by rfl)(h1:nobs vs=true:=by rfl):WFn S d f vs [] (km P lo) no hp:=h.frame h1 rfl fun v e=>by subst e;exact⟨hx,hP⟩
structure aA(S:Sta)(m:Addr)(w:Nat)(ver:Int):Prop where
 width:∀{d:Nat} {c:FC} {X:PX} {σ:St} {P:PV},P (.int w) σ→WGA S d c (.top (.ref m)) "width" P X σ
 version:∀{d:Nat} {c:FC} {X:PX} {σ:St} {P:PV},P (.int ver) σ→WGA S d c (.top (.ref m)) "version" P X σ
 max_int:∀{d:Nat} {c:FC} {X:PX} {σ:St} {P:PV},P (.int (2^w-1)) σ→WGA S d c (.top (.ref m)) "max_int" P X σ
 kind:(m=m4∧w=32∧ver=4)∨(m=m6∧w=128∧ver=6)
theorem pb:aA S m4 32 4:=⟨fun h=>zP h,fun h=>v9 h,fun h=>wc h,.inl ⟨rfl,rfl,rfl⟩⟩
theorem Du:aA S m6 128 6:=⟨fun h=>zT h,fun h=>wf h,fun h=>wi h,.inr ⟨rfl,rfl,rfl⟩⟩
theorem aA.le(M:aA S m w ver):w≤128:=by rcases M.kind with ⟨_,h,_⟩|⟨_,h,_⟩<;>lia
structure cF(w:Nat)(v:Int)(p:Nat):Prop where
 lo:0≤v
 hi:v<2^w
 pf:p≤w
structure bS(w:Nat)(v:Int):Prop where
 lo:0≤v
 hi:v<2^w
theorem yF {w p:Nat}(h:p≤w):(1:Int)*2^((w:Int)-(p:Int)).toNat=2^(w-p):=by
 rw[Int.one_mul];congr 1;lia
theorem uh(ok:cF w v p):Builtin.bitAnd v (Builtin.bitXor (2^w-1) (2^(w-p)-1))=v-v%2^(w-p):=by
 rw[HT (nSl ..)];exact Qj ok.lo ok.hi (nSl ..)
section
variable {c:FC} {X:PX} {σ:St}
theorem nO(e:du σ.hp v=some (.ref aU))(h:P (.bool true) σ):aI S d c (.top (.builtin "isinstance")) [v,.top (.ref 2317)] [] P X σ:=gn e rn (by kernel_rfl) h
theorem rH(e:du σ.hp v=some (.ref aU))(h:P (.bool false) σ):aI S d c (.top (.builtin "isinstance")) [v,.top (.ref aM)] [] P X σ:=gn e rn (by kernel_rfl) h
theorem rI(e:du σ.hp v=some (.ref aU))(h:P (.bool true) σ):aI S d c (.top (.builtin "isinstance")) [v,.top (.ref aU)] [] P X σ:=gn e rn (by kernel_rfl) h
theorem sL(e:du σ.hp v=some (.ref aM))(h:P (.bool true) σ):aI S d c (.top (.builtin "isinstance")) [v,.top (.ref aM)] [] P X σ:=gn e xT (by kernel_rfl) h
theorem u9(e:du σ.hp v=some (.ref aM))(h:P (.bool false) σ):aI S d c (.top (.builtin "isinstance")) [v,.top (.ref cu)] [] P X σ:=gn e xT (by kernel_rfl) h
theorem va(e:du σ.hp v=some (.ref cu))(h:P (.bool true) σ):aI S d c (.top (.builtin "isinstance")) [v,.top (.ref cu)] [] P X σ:=gn e Fc (by kernel_rfl) h
theorem wD(e:du σ.hp v=some (.type "str"))(h:P (.bool false) σ):aI S d c (.top (.builtin "isinstance")) [v,.top (.ref 2317)] [] P X σ:=gn e rfl (by kernel_rfl) h
theorem sM(e:du σ.hp v=some (.type "str"))(h:P (.bool false) σ):aI S d c (.top (.builtin "isinstance")) [v,.top (.ref aM)] [] P X σ:=gn e rfl (by kernel_rfl) h
theorem sN(e:du σ.hp v=some (.type "str"))(h:P (.bool false) σ):aI S d c (.top (.builtin "isinstance")) [v,.top (.ref aU)] [] P X σ:=gn e rfl (by kernel_rfl) h
theorem lD(e:du σ.hp v=some (.type "str"))(h:P (.bool true) σ):aI S d c (.top (.builtin "isinstance")) [v,.top (.type "str")] [] P X σ:=gn e rfl (by kernel_rfl) h
theorem yG(e:du σ.hp v=some (.type "str"))(h:P (.bool false) σ):aI S d c (.top (.builtin "isinstance")) [v,.top (.type "tuple")] [] P X σ:=gn e rfl (by kernel_rfl) h
theorem pQ(e:du σ.hp v=some (.type "int"))(h:P (.bool false) σ):aI S d c (.top (.builtin "isinstance")) [v,.top (.ref 2317)] [] P X σ:=gn e rfl (by kernel_rfl) h
theorem lE(e:du σ.hp v=some (.type "int"))(h:P (.bool false) σ):aI S d c (.top (.builtin "isinstance")) [v,.top (.type "str")] [] P X σ:=gn e rfl (by kernel_rfl) h
theorem kN(e:du σ.hp v=some (.type "tuple"))(h:P (.bool false) σ):aI S d c (.top (.builtin "isinstance")) [v,.top (.ref aM)] [] P X σ:=gn e rfl (by kernel_rfl) h
theorem kO(e:du σ.hp v=some (.type "tuple"))(h:P (.bool false) σ):aI S d c (.top (.builtin "isinstance")) [v,.top (.ref aU)] [] P X σ:=gn e rfl (by kernel_rfl) h
theorem nQ(e:du σ.hp v=some (.type "tuple"))(h:P (.bool true) σ):aI S d c (.top (.builtin "isinstance")) [v,.top (.type "tuple")] [] P X σ:=gn e rfl (by kernel_rfl) h
theorem HU(e:du σ.hp v=some (.ref aU))(h:P (.bool false) σ):aI S d c (.top (.builtin "isinstance")) [v,.tup [.top (.ref aM),.top (.ref cu)]] [] P X σ:=ql e rn (by kernel_rfl) h
theorem K8(e:du σ.hp v=some (.ref aM))(h:P (.bool true) σ):aI S d c (.top (.builtin "isinstance")) [v,.tup [.top (.ref aM),.top (.ref cu)]] [] P X σ:=ql e xT (by kernel_rfl) h
theorem K9(e:du σ.hp v=some (.ref cu))(h:P (.bool true) σ):aI S d c (.top (.builtin "isinstance")) [v,.tup [.top (.ref aM),.top (.ref cu)]] [] P X σ:=ql e Fc (by kernel_rfl) h
theorem La(e:du σ.hp v=some (.type "str"))(h:P (.bool false) σ):aI S d c (.top (.builtin "isinstance")) [v,.tup [.top (.ref aM),.top (.ref cu)]] [] P X σ:=ql e rfl (by kernel_rfl) h
end
theorem bO(M:aA S m w ver)(hd:d<980)(ok:cF w v p):PFn S d (.ref mv) [aY m v p] [] (·= .int ver):=by
 refine uc qy ?_ (dd0 hd rfl);refine s_r (cN (av n_version_self rfl ?_));refine cD (.inr rfl) (aA.version (by assumption) ?_);exact⟨rfl,rfl⟩
theorem wE(M:aA S m w ver)(hd:d<980)(ok:bS w a):PFn S d (.ref mv) [qq m a b] [] (·= .int ver):=by
 refine uc qy ?_ (dd0 hd rfl);refine s_r (cN (av n_version_self rfl ?_));refine pK (.inr rfl) (aA.version (by assumption) ?_);exact⟨rfl,rfl⟩
theorem cq(M:aA S m w ver)(hd:d<980)(ok:cF w v p):PFn S d (.ref mU) [aY m v p] [] (·= .int p):=by
 refine yt u5 ?_ (dd0 hd rfl);refine s_r (av n_prefixlen_self rfl (fu (.inr rfl) ?_));exact⟨rfl,rfl⟩
theorem jZ {w:Nat}{ver:Int}{v:Int}{p:Nat}(M:aA S m w ver)(hd:d<990)(ok:cF w v p):PFn S d (.ref oO) [aY m v p] [] (·= .int (2^(w-p)-1)):=by
 obtain⟨h0,h1,h2⟩:=ok;have hw:=M.le;refine As wy ?_ (dd0 hd rfl);refine s_r (am (am (af (am (cN (av n_hostmask_self rfl ?_))))));refine cD (.inr rfl) (aA.width (by assumption) ?_);refine av n_hostmask_self rfl (fu (.inr rfl) (bu ?_));refine j1 (fi2 (Y0 (.k 0) (.s X0 X1)) [Y0 X1 X0] rfl (iOl h2)) (fi2 (Y0 (.s X0 X1) (.k 1000000)) [Y0 X0 (.k 128),Y0 (.k 0) X1] rfl (iOl hw) (iNn p)) (by decide) ?_;refine af (bu ?_);exact⟨congrArg (fun z=>V.int (z-1)) (yF h2),rfl⟩
theorem bX(M:aA S m w ver)(hd:d<980)(ok:cF w v p):PFn S d (.ref oN) [aY m v p] [] (·= .int (v-v%2^(w-p))):=by
 refine Am ww ?_ (dd0 hd rfl);refine s_r (am (av n_netFirst_self rfl ?_));refine io (.inr rfl) ?_;refine am (cN (av n_netFirst_self rfl ?_));refine cD (.inr rfl) (aA.max_int (by assumption) (av n_netFirst_self rfl ?_));refine jI (.inr rfl) (PFn.ga (jZ (by assumption) (dd (k:=2) hd rfl) (by assumption)) ?_);refine JC (cU ?_);exact⟨congrArg V.int (uh ok),rfl⟩
theorem dH {w:Nat}{ver:Int}{v:Int}{p:Nat}(M:aA S m w ver)(hd:d<980)(ok:cF w v p):PFn S d (.ref qo) [aY m v p] [] (·= .int (v-v%2^(w-p)+(2^(w-p)-1))):=by
 obtain⟨h0,h1,h2⟩:=ok;have hw:=M.le;refine Dd yv ?_ (dd0 hd rfl);refine s_a (am (am (af (am (cN (av n_netLast_self rfl ?_))))));refine cD (.inr rfl) (aA.width (by assumption) ?_);refine av n_netLast_self rfl (fu (.inr rfl) (bu ?_));refine j1 (fi2 (Y0 (.k 0) (.s X0 X1)) [Y0 X1 X0] rfl (iOl h2)) (fi2 (Y0 (.s X0 X1) (.k 1000000)) [Y0 X0 (.k 128),Y0 (.k 0) X1] rfl (iOl hw) (iNn p)) (by decide) ?_;refine af (bu (ag kF .z1 (s_r (am (av n_netLast_self rfl ?_)))));refine io (.inr rfl) ?_;refine aa kF rfl (lQ ?_);exact⟨congrArg V.int (by rw[yF h2];exact K7 h0 _),rfl⟩
theorem AN(M:aA S m w ver)(hd:d<980)(ok:bS w a):PFn S d (.ref oP) [qq m a b] [] (·= .int a):=by
 refine AC wA ?_ (dd0 hd rfl);refine s_r (cN (av n_rngFirst_self rfl (jJ (.inr rfl) ?_)));refine dL (.inr rfl) ?_;exact⟨rfl,rfl⟩
theorem Dv(M:aA S m w ver)(hd:d<980)(ok:bS w a):PFn S d (.ref qp) [qq m a b] [] (·= .int b):=by
 refine Dl yC ?_ (dd0 hd rfl);refine s_r (cN (av n_rngLast_self rfl (oX (.inr rfl) ?_)));refine dL (.inr rfl) ?_;exact⟨rfl,rfl⟩
end
section
variable {S:Sta} {d:Nat}
noncomputable abbrev sO(m:Addr)(v p:Int):ai:= .inst aM [("_value",.int v),("_module",.top (.ref m)),("_prefixlen",.int p)]
noncomputable abbrev pe(m:Addr)(v:Int):ai:= .inst aU [("_value",.int v),("_module",.top (.ref m))]
theorem Lb(hd:d<990)(h:P .none [.inst aU [("_value",.none),("_module",.none)]]):WFn S d (.ref iF) [.obj 0] [] P no [.inst aU []]:=by
 refine rT pO ?_ (dd0 hd rfl);refine dl (bh (aa n_BaseInit_self rfl ?_));refine fL rfl fK (by repeat' exact fG) (blE rfl) .zero ?_;refine dl (bh (aa n_BaseInit_self rfl ?_));refine fL rfl fe (by repeat' first|exact fG|exact dE|apply gQ|kernel_rfl) (blE rfl) .zero (ae ?_);exact h
theorem Ql(hd:d<990)(h:P .none [.inst aM [("_value",.none),("_module",.none)]]):WFn S d (.ref iF) [.obj 0] [] P no [.inst aM []]:=by
 refine rT pO ?_ (dd0 hd rfl);refine dl (bh (aa n_BaseInit_self rfl ?_));refine et rfl gv (by repeat' exact fG) (blE rfl) .zero ?_;refine dl (bh (aa n_BaseInit_self rfl ?_));refine et rfl fM (by repeat' first|exact fG|exact dE|apply gQ|kernel_rfl) (blE rfl) .zero (ae ?_);exact h
theorem Lc:∃cd,clsIn S.K aU=some cd:=oSm Kn
theorem i6(hb:Binds S (be S) vs ks [("self",.obj 0),("addr",v1),("version",v2),("flags",v3)])(h:WL S (d+1) bC (tQ.drop 1) (fun o σ'=>P (de o) σ'.hp) no ⟨[some (.obj 0),some v1,some v2,some v3,none,none,none,none,none,none,none,none,none,none,none,none,none,none],[.inst aU [("_value",.none),("_module",.none)]]⟩)(hd:d<980):WFn S d (.ref eZ) vs ks P no [.inst aU []]:=by
 obtain⟨cd,hcd⟩:=Lc (S:=S);refine xw (fd:=be S) (i:=0) (f2:=iF) (D:=aU) (C:=aU) (cc:=2325) (cda:=2337) (cl:= .type "cell") (cld:=none) (csl:= #[]) (ccl:= .type "code") (cdd:=none) (ccs:= #[]) (cvs:= #[(.str "__init__" (S.τ 13000339)),(.str "IPAddress.__init__" (S.τ 13000340)),(.str "/claim/cut.py" (S.τ 13000341)),(.int (506) 0),(.int (4) 0),(.int (0) 0),(.int (0) 0),(.int (3) 0),(.ref 2332),(.bool true),(.int (181) 0),(.ref 2333),.none,(.ref 2334),(.ref 2335),(.ref 2336),(.int (Int.ofNat (S.τ 13000348)) 0),(.int (506) 0),(.str "/claim/cut.py" (S.τ 13000349))]) (rest:=tQ.drop 1) (bl:=List.reverse [("self",.obj 0),("addr",v1),("version",v2),("flags",v3)]) rfl Ab Ac (dd0 hd rfl) rfl ?_ Ae (co) rfl (by kernel_rfl) hcd rfl rfl rfl (by kernel_rfl) (by kernel_rfl) (by kernel_rfl) (by kernel_rfl) rfl (by kernel_rfl) rfl (by kernel_rfl) (by kernel_rfl) oZ.g oZ.b sH.kind o7.kind n_AddrInit_self.kind (by kernel_rfl) ?_ (by intro _;kernel_rfl)
 ·exact hb
 ·exact Lb (dd hd rfl) h
theorem Qm:∃cd,clsIn S.K aM=some cd:=oSm nH
theorem jN(hb:Binds S (bQ S) vs ks [("self",.obj 0),("addr",v1),("version",v2),("flags",v3),("expand_partial",v4)])(h:WL S (d+1) bG (vF.drop 1) (fun o σ'=>P (de o) σ'.hp) no ⟨[some (.obj 0),some v1,some v2,some v3,some v4,none,none,none,none,none,none,none,none,none,none,none,none,none,none,none],[.inst aM [("_value",.none),("_module",.none)]]⟩)(hd:d<980):WFn S d (.ref fU) vs ks P no [.inst aM []]:=by
 obtain⟨cd,hcd⟩:=Qm (S:=S);refine xw (fd:=bQ S) (i:=0) (f2:=iF) (D:=aM) (C:=aM) (cc:=2628) (cda:=2641) (cl:= .type "cell") (cld:=none) (csl:= #[]) (ccl:= .type "code") (cdd:=none) (ccs:= #[]) (cvs:= #[(.str "__init__" (S.τ 13000693)),(.str "IPNetwork.__init__" (S.τ 13000694)),(.str "/claim/cut.py" (S.τ 13000695)),(.int (766) 0),(.int (4) 0),(.int (0) 0),(.int (1) 0),(.int (3) 0),(.ref 2636),(.bool true),(.int (181) 0),(.ref 2637),.none,(.ref 2638),(.ref 2639),(.ref 2640),(.int (Int.ofNat (S.τ 13000706)) 0),(.int (766) 0),(.str "/claim/cut.py" (S.τ 13000707))]) (rest:=vF.drop 1) (bl:=List.reverse [("self",.obj 0),("addr",v1),("version",v2),("flags",v3),("expand_partial",v4)]) rfl CY CZ (dd0 hd rfl) rfl ?_ C8 (co) rfl (by kernel_rfl) hcd rfl rfl rfl (by kernel_rfl) (by kernel_rfl) (by kernel_rfl) (by kernel_rfl) rfl (by kernel_rfl) rfl (by kernel_rfl) (by kernel_rfl) oZ.g oZ.b uf.kind pU.kind n_NetInit_self.kind (by kernel_rfl) ?_ (by intro _;kernel_rfl)
 ·exact hb
 ·exact Ql (dd hd rfl) h
end
section
variable {S:Sta} {d:Nat}
theorem Ld(hd:d<970)(ok:bS 32 k)(hb:Binds S (be S) vs ks [("self",.obj 0),("addr",.int k),("version",.int 4),("flags",.int 0)])(h:P .none [pe m4 k]):WFn S d (.ref eZ) vs ks P no [.inst aU []]:=by
 have M:=pb (S:=S);obtain⟨h0,h1⟩:=ok;refine i6 hb ?_ (dd0 hd rfl);refine s_i (al (cC bp rfl (hZ (am (am (au dF fZ (au dU iG ?_)))))));refine lQ (au bg dC (lQ (ko (cU ?_))));refine dB (aC (by rfl) ?_);refine cX (bK (al (cC bp rfl (au bg dC (cU ?_)))));refine dB (fD (by rfl) (aC (by rfl) ?_));refine cX (al (aQ aR ao (aa az rfl (au eQ l0 ?_))));refine pQ rfl (aK ?_);refine aC (by rfl) ?_;refine s_i (fF bj rfl (bh (er rfl (kb ?_))));refine dt (by rfl) ?_;refine s_i (dR bj rfl (el (kb ?_)));refine dt (by rfl) ?_;refine dl (au jL iX (aa n_AddrInit_self rfl ?_));refine fL rfl fe (by repeat' first|exact fG|exact dE|apply gQ|kernel_rfl) (blE rfl) .zero ?_;refine ae (cX (bK (al (aQ aR ao (aa az rfl (gK fg gw ?_))))));refine lE rfl (aK ?_);refine fD (by rfl) (aC (by rfl) ?_);refine cX (bz (av n_AddrInit_self rfl ?_));refine cm (.inl ⟨_,rfl,rfl⟩) ?_;refine bh (ju rfl (kb ?_));refine aC (by rfl) ?_;refine s_i (al (aQ aR ao (aa az rfl (gK fg gw ?_))));refine lE rfl (aK ?_);refine aC (by rfl) ?_;refine s_i (im (af (aQ iH jK (aa az rfl (wT (hY ?_))))));refine⟨_,rfl,?_⟩;refine qr (by simpa using h0) ?_;refine cN (av n_AddrInit_self rfl ?_);refine cm (.inl ⟨_,rfl,rfl⟩) (aA.max_int (by assumption) (hY ?_));refine⟨_,rfl,?_⟩;refine dt (by simpa using(by exact fi2 (Y0 X0 (.s X1 (.k 1))) [Y1 X0 X1] rfl h1:k≤2^32-1)) ?_;refine dl (aQ iH jK (aa az rfl (wT (aa n_AddrInit_self rfl ?_))));refine fL rfl fK (by repeat' exact dE) (blE rfl) .zero ?_;refine ae (ae (ae (ae (ae ?_))));exact h
theorem Le(hd:d<970)(ok:bS 128 k)(hb:Binds S (be S) vs ks [("self",.obj 0),("addr",.int k),("version",.int 6),("flags",.int 0)])(h:P .none [pe m6 k]):WFn S d (.ref eZ) vs ks P no [.inst aU []]:=by
 have M:=Du (S:=S);obtain⟨h0,h1⟩:=ok;refine i6 hb ?_ (dd0 hd rfl);refine s_i (al (cC bp rfl (hZ (am (am (au dF fZ (au dU iG ?_)))))));refine lQ (au bg dC (lQ (ko (cU ?_))));refine dB (aC (by rfl) ?_);refine cX (bK (al (cC bp rfl (au bg dC (cU ?_)))));refine dB (fD (by rfl) (aC (by rfl) ?_));refine cX (al (aQ aR ao (aa az rfl (au eQ l0 ?_))));refine pQ rfl (aK ?_);refine aC (by rfl) ?_;refine s_i (fF bj rfl (bh (er rfl (kb ?_))));refine dt (by rfl) ?_;refine s_i (dR bj rfl (el (kb ?_)));refine aC (by rfl) ?_;refine s_i (dR bj rfl (el (kb ?_)));refine dt (by rfl) ?_;refine dl (au o8 mW (aa n_AddrInit_self rfl ?_));refine fL rfl fe (by repeat' first|exact fG|exact dE|apply gQ|kernel_rfl) (blE rfl) .zero ?_;refine ae (ae (cX (bK (al (aQ aR ao (aa az rfl (gK fg gw ?_)))))));refine lE rfl (aK ?_);refine fD (by rfl) (aC (by rfl) ?_);refine cX (bz (av n_AddrInit_self rfl ?_));refine cm (.inl ⟨_,rfl,rfl⟩) ?_;refine bh (ju rfl (kb ?_));refine aC (by rfl) ?_;refine s_i (al (aQ aR ao (aa az rfl (gK fg gw ?_))));refine lE rfl (aK ?_);refine aC (by rfl) ?_;refine s_i (im (af (aQ iH jK (aa az rfl (wT (hY ?_))))));refine⟨_,rfl,?_⟩;refine qr (by simpa using h0) ?_;refine cN (av n_AddrInit_self rfl ?_);refine cm (.inl ⟨_,rfl,rfl⟩) (aA.max_int (by assumption) (hY ?_));refine⟨_,rfl,?_⟩;refine dt (by simpa using(by exact fi2 (Y0 X0 (.s X1 (.k 1))) [Y1 X0 X1] rfl h1:k≤2^128-1)) ?_;refine dl (aQ iH jK (aa az rfl (wT (aa n_AddrInit_self rfl ?_))));refine fL rfl fK (by repeat' exact dE) (blE rfl) .zero ?_;refine ae (ae (ae (ae (ae ?_))));exact h
theorem HV(M:aA S m w ver)(hd:d<970)(hb:Binds S (be S) vs ks [("self",.obj 0),("addr",dj m k),("version",.none),("flags",.int 0)])(h:P .none [pe m k]):WFn S d (.ref eZ) vs ks P no [.inst aU []]:=by
 refine i6 hb ?_ (dd0 hd rfl);refine s_i (al (cC bp rfl (hZ (am (am (au dF fZ (au dU iG ?_)))))));refine lQ (au bg dC (lQ (ko (cU ?_))));refine dB (aC (by rfl) ?_);refine cX (bK (al (cC bp rfl (au bg dC (cU ?_)))));refine dB (fD (by rfl) (aC (by rfl) ?_));refine cX (al (aQ aR ao (aa az rfl (au eQ l0 ?_))));refine nO rfl (aK ?_);refine dt (by rfl) ?_;refine s_i (bK (fF bj rfl (bh (er rfl (kb ?_)))));refine fD (by rfl) (aC (by rfl) ?_);refine ae (dl (av az rfl ?_));refine dL (.inr rfl) (aa n_AddrInit_self rfl ?_);refine fL rfl fK (by repeat' exact dE) (blE rfl) .zero ?_;refine dl (av az rfl ?_);refine cm (.inr rfl) (aa n_AddrInit_self rfl ?_);refine fL rfl fe (by repeat' first|exact fG|exact dE|apply gQ|kernel_rfl) (blE rfl) .zero ?_;refine ae (ae ?_);exact h
theorem HW(M:aA S m w ver)(hd:d<970)(hb:Binds S (be S) vs ks [("self",.obj 0),("addr",dj m k),("version",.int ver),("flags",.int 0)])(h:P .none [pe m k]):WFn S d (.ref eZ) vs ks P no [.inst aU []]:=by
 refine i6 hb ?_ (dd0 hd rfl);refine s_i (al (cC bp rfl (hZ (am (am (au dF fZ (au dU iG ?_)))))));refine lQ (au bg dC (lQ (ko (cU ?_))));refine dB (aC (by rfl) ?_);refine cX (bK (al (cC bp rfl (au bg dC (cU ?_)))));refine dB (fD (by rfl) (aC (by rfl) ?_));refine cX (al (aQ aR ao (aa az rfl (au eQ l0 ?_))));refine nO rfl (aK ?_);refine dt (by rfl) ?_;refine s_i (bK (fF bj rfl (bh (er rfl (kb ?_)))));refine ls (by rfl) ?_;refine bK (fF bj rfl (cN (av az rfl ?_)));refine cm (.inr rfl) (aA.version (by assumption) ?_);refine sg (kb ?_);refine fD (by simp) ?_;refine aC (by rfl) ?_;refine ae (dl (av az rfl ?_));refine dL (.inr rfl) (aa n_AddrInit_self rfl ?_);refine fL rfl fK (by repeat' exact dE) (blE rfl) .zero ?_;refine dl (av az rfl ?_);refine cm (.inr rfl) (aa n_AddrInit_self rfl ?_);refine fL rfl fe (by repeat' first|exact fG|exact dE|apply gQ|kernel_rfl) (blE rfl) .zero ?_;refine ae (ae ?_);exact h
theorem bL(h:PFn S d f vs ks (·=x))(hP:P x σ)(hk:keepIn S.K f=true)(h1:nobs vs=true:=by rfl)(h2:nobf ks=true:=by rfl):aI S d c (.top f) vs ks P X σ:=PD h (fun v e=>by subst e;exact hP) hk h1 h2
theorem Lf:(["_value","_module"]:List Str).Nodup:=by decide
theorem mkA(h:∀P:V→List ai→Prop,P .none [pe m k]→WFn S (d+1) (.ref eZ) (.obj 0::vs) ks P no [.inst aU []])(h1:nobs vs=true:=by rfl)(h2:nobf ks=true:=by rfl):PFn S d (.ref aU) vs ks (·=dj m k):=
 uJ Kq Kr Ks (h _ ⟨rfl,_,[("_value",.int k),("_module",.top (.ref m))],rfl,Lf,.nobf rfl,rfl⟩) h1 h2
theorem Qn:(["_value","_module","_prefixlen"]:List Str).Nodup:=by decide
theorem mkN(h:∀P:V→List ai→Prop,P .none [sO m k p]→WFn S (d+1) (.ref fU) (.obj 0::vs) ks P no [.inst aM []])(h1:nobs vs=true:=by rfl)(h2:nobf ks=true:=by rfl):PFn S d (.ref aM) vs ks (·=aY m k p):=
 uJ PT PU PW (h _ ⟨rfl,_,[("_value",.int k),("_module",.top (.ref m)),("_prefixlen",.int p)],rfl,Qn,.nobf rfl,rfl⟩) h1 h2
theorem FF(M:aA S m w ver)(hd:d<970)(ok:bS w k)(hb:Binds S (be S) vs ks [("self",.obj 0),("addr",.int k),("version",.int ver),("flags",.int 0)])(h:P .none [pe m k]):WFn S d (.ref eZ) vs ks P no [.inst aU []]:=by
 rcases M.kind with ⟨rfl,rfl,rfl⟩|⟨rfl,rfl,rfl⟩
 ·exact Ld hd ok hb h
 ·exact Le hd ok hb h
section
variable {m:Addr} {w:Nat} {ver:Int} (M:aA S m w ver) (hd:d<960)
include M hd
theorem yH(ok:bS w k):PFn S d (.ref aU) [.int k,.int ver] [] (·=dj m k):=mkA fun P h=>FF M (dd hd rfl) ok wm h
theorem Bj(ok:bS w k):PFn S d (.ref aU) [.int k] [("version",.int ver)] (·=dj m k):=mkA fun P h=>FF M (dd hd rfl) ok wu h
theorem Qo:PFn S d (.ref aU) [dj m k] [("flags",.int 0)] (·=dj m k):=mkA fun P h=>HV M (dd hd rfl) wo h
theorem Lg:PFn S d (.ref aU) [dj m k,.int ver] [("flags",.int 0)] (·=dj m k):=mkA fun P h=>HW M (dd hd rfl) pP h
end
theorem Dw(M:aA S m w ver)(hd:d<980)(ok:cF w v p):PFn S d (.ref lI) [.top (.ref m),.tup [.int v,.int p],.int 0] [("expand_partial",.bool false)] (·= .tup [.int v,.int p]):=by
 obtain⟨h0,h1,h2⟩:=ok;have h3:v≤2^w-1:=fi2 (Y0 X0 (.s X1 (.k 1))) [Y1 X0 X1] rfl h1;refine sJ ue ?_ (dd0 hd rfl);refine s_i (al (aQ fV ao (aa cZ rfl (gK k9 sD ?_))));refine nQ rfl (aK ?_);refine dt (by rfl) ?_;refine s_i (bz (aQ rU ir (aa cZ rfl ?_)));refine qk (blE rfl) ?_;refine af (sg (kb ?_));refine aC (by rfl) ?_;refine ae (ay (eH (aa cZ rfl ?_)));refine dh (by exact .inl rfl) rfl ?_;refine a_n dN .z4 (a_n cg .z5 (s_i (lr (im (af (aa dN rfl (hY ?_)))))));refine⟨_,rfl,?_⟩;refine qr (by simpa using h0) (av d8 rfl (aA.max_int (by assumption) (hY ?_)));refine⟨_,rfl,?_⟩;refine aC (by simpa using h3) ?_;refine cX (lr (im (af (aa cg rfl (hY ?_)))));refine⟨_,rfl,?_⟩;refine qr (by exact dEt (iNn _)) (av d8 rfl (aA.width (by assumption) (hY ?_)));refine⟨_,rfl,?_⟩;refine aC (by simp;exact h2) ?_;refine ae (cX (al (cC i8 rfl (au j9 gR (cU ?_)))));refine dB (aC (by rfl) ?_);refine je (bc (aa dN rfl (aa cg rfl ?_)));exact⟨rfl,rfl⟩
theorem Dx(M:aA S m w ver)(hd:d<980)(ok:cF w v p):PFn S d (.ref lI) [.top (.ref m),.tup [.int v,.int p],.int 0] [] (·= .tup [.int v,.int p]):=by
 obtain⟨h0,h1,h2⟩:=ok;have h3:v≤2^w-1:=fi2 (Y0 X0 (.s X1 (.k 1))) [Y1 X0 X1] rfl h1;refine sJ CX ?_ (dd0 hd rfl);refine s_i (al (aQ fV ao (aa cZ rfl (gK k9 sD ?_))));refine nQ rfl (aK ?_);refine dt (by rfl) ?_;refine s_i (bz (aQ rU ir (aa cZ rfl ?_)));refine qk (blE rfl) ?_;refine af (sg (kb ?_));refine aC (by rfl) ?_;refine ae (ay (eH (aa cZ rfl ?_)));refine dh (by exact .inl rfl) rfl ?_;refine a_n dN .z4 (a_n cg .z5 (s_i (lr (im (af (aa dN rfl (hY ?_)))))));refine⟨_,rfl,?_⟩;refine qr (by simpa using h0) (av d8 rfl (aA.max_int (by assumption) (hY ?_)));refine⟨_,rfl,?_⟩;refine aC (by simpa using h3) ?_;refine cX (lr (im (af (aa cg rfl (hY ?_)))));refine⟨_,rfl,?_⟩;refine qr (by exact dEt (iNn _)) (av d8 rfl (aA.width (by assumption) (hY ?_)));refine⟨_,rfl,?_⟩;refine aC (by simp;exact h2) ?_;refine ae (cX (al (cC i8 rfl (au j9 gR (cU ?_)))));refine dB (aC (by rfl) ?_);refine je (bc (aa dN rfl (aa cg rfl ?_)));exact⟨rfl,rfl⟩
theorem Qp(M:aA S m w ver)(hd:d<940)(hb:Binds S (bQ S) vs ks [("self",.obj 0),("addr",aY m v p),("version",.none),("flags",.int 0),("expand_partial",.bool false)])(h:P .none [sO m v p]):WFn S d (.ref fU) vs ks P no [.inst aM []]:=by
 refine jN hb ?_ (dd0 hd rfl);refine s_i (al (cC cp rfl (hZ (au d9 gR (ko (cU ?_))))));refine dB (aC (by rfl) ?_);refine ae (ay (eH (bc (bh (bh (bh ?_))))));refine dh (by exact .inl rfl) rfl ?_;refine a_n aW .z5 (a_n aH .z6 (a_n aJ .z7 (s_i (al (aQ bv ao (aa aN rfl (au dV aD ?_)))))));refine sL rfl (aK ?_);refine dt (by rfl) ?_;refine s_a (av aN rfl ?_);refine io (.inr rfl) ?_;refine ag aW .z5 (s_a (av aN rfl ?_));refine cD (.inr rfl) ?_;refine ag aJ .z7 (s_a (av aN rfl (fu (.inr rfl) (ag aH .z6 (s_i (al (cC cp rfl ?_)))))));refine au d9 gR (cU ?_);refine dB (aC (by rfl) ?_);refine ae (ae (dl (aa aW rfl (aa n_NetInit_self rfl ?_))));refine et rfl gv (by repeat' exact dE) (blE rfl) .zero ?_;refine dl (aa aH rfl (aa n_NetInit_self rfl ?_));refine et rfl ft (by repeat' first|exact fG|exact dE|apply gQ|kernel_rfl) (blE rfl) .zero ?_;refine dl (aa aJ rfl (aa n_NetInit_self rfl ?_));refine et rfl fM (by repeat' first|exact fG|exact dE|apply gQ|kernel_rfl) (blE rfl) .zero (ae ?_);exact h
theorem Qq(M:aA S m w ver)(hd:d<940)(hb:Binds S (bQ S) vs ks [("self",.obj 0),("addr",dj m v),("version",.none),("flags",.int 0),("expand_partial",.bool false)])(h:P .none [sO m v w]):WFn S d (.ref fU) vs ks P no [.inst aM []]:=by
 refine jN hb ?_ (dd0 hd rfl);refine s_i (al (cC cp rfl (hZ (au d9 gR (ko (cU ?_))))));refine dB (aC (by rfl) ?_);refine ae (ay (eH (bc (bh (bh (bh ?_))))));refine dh (by exact .inl rfl) rfl ?_;refine a_n aW .z5 (a_n aH .z6 (a_n aJ .z7 (s_i (al (aQ bv ao (aa aN rfl (au dV aD ?_)))))));refine rH rfl (aK ?_);refine aC (by rfl) ?_;refine s_i (al (aQ bv ao (aa aN rfl (au fE cI ?_))));refine rI rfl (aK ?_);refine dt (by rfl) ?_;refine s_a (av aN rfl ?_);refine dL (.inr rfl) ?_;refine ag aW .z5 (s_a (av aN rfl ?_));refine cm (.inr rfl) ?_;refine ag aJ .z7 (s_a (av aJ rfl ?_));refine aA.width (by assumption) ?_;refine ag aH .z6 (ae (ae (dl (aa aW rfl (aa n_NetInit_self rfl ?_)))));refine et rfl gv (by repeat' exact dE) (blE rfl) .zero ?_;refine dl (aa aH rfl (aa n_NetInit_self rfl ?_));refine et rfl ft (by repeat' first|exact fG|exact dE|apply gQ|kernel_rfl) (blE rfl) .zero ?_;refine dl (aa aJ rfl (aa n_NetInit_self rfl ?_));refine et rfl fM (by repeat' first|exact fG|exact dE|apply gQ|kernel_rfl) (blE rfl) .zero (ae ?_);exact h
theorem Lh(hd:d<940)(ok:cF 32 v p)(hb:Binds S (bQ S) vs ks [("self",.obj 0),("addr",.tup [.int v,.int p]),("version",.int 4),("flags",.int 0),("expand_partial",.bool false)])(h:P .none [sO m4 v p]):WFn S d (.ref fU) vs ks P no [.inst aM []]:=by
 refine jN hb ?_ (dd0 hd rfl);refine s_i (al (cC cp rfl (hZ (au d9 gR (ko (cU ?_))))));refine dB (aC (by rfl) ?_);refine ae (ay (eH (bc (bh (bh (bh ?_))))));refine dh (by exact .inl rfl) rfl ?_;refine a_n aW .z5 (a_n aH .z6 (a_n aJ .z7 (s_i (al (aQ bv ao (aa aN rfl (au dV aD ?_)))))));refine kN rfl (aK ?_);refine aC (by rfl) ?_;refine s_i (al (aQ bv ao (aa aN rfl (au fE cI ?_))));refine kO rfl (aK ?_);refine aC (by rfl) ?_;refine s_i (dR di rfl (el (kb ?_)));refine dt (by rfl) ?_;refine ay (eH (bH eM ip (au ia iX (aa aN rfl (aa cp rfl (aa fv rfl ?_))))));refine bL (Dw pb (dd hd rfl) ok) ?_ sI;refine dh (by exact .inl rfl) rfl ?_;refine a_n aW .z5 (a_n aH .z6 (s_a (au ia iX (ag aJ .z7 (ae (ae (ae ?_)))))));refine dl (aa aW rfl (aa n_NetInit_self rfl ?_));refine et rfl gv (by repeat' exact dE) (blE rfl) .zero ?_;refine dl (aa aH rfl (aa n_NetInit_self rfl ?_));refine et rfl ft (by repeat' first|exact fG|exact dE|apply gQ|kernel_rfl) (blE rfl) .zero ?_;refine dl (aa aJ rfl (aa n_NetInit_self rfl ?_));refine et rfl fM (by repeat' first|exact fG|exact dE|apply gQ|kernel_rfl) (blE rfl) .zero (ae ?_);exact h
theorem Li(hd:d<940)(ok:cF 128 v p)(hb:Binds S (bQ S) vs ks [("self",.obj 0),("addr",.tup [.int v,.int p]),("version",.int 6),("flags",.int 0),("expand_partial",.bool false)])(h:P .none [sO m6 v p]):WFn S d (.ref fU) vs ks P no [.inst aM []]:=by
 refine jN hb ?_ (dd0 hd rfl);refine s_i (al (cC cp rfl (hZ (au d9 gR (ko (cU ?_))))));refine dB (aC (by rfl) ?_);refine ae (ay (eH (bc (bh (bh (bh ?_))))));refine dh (by exact .inl rfl) rfl ?_;refine a_n aW .z5 (a_n aH .z6 (a_n aJ .z7 (s_i (al (aQ bv ao (aa aN rfl (au dV aD ?_)))))));refine kN rfl (aK ?_);refine aC (by rfl) ?_;refine s_i (al (aQ bv ao (aa aN rfl (au fE cI ?_))));refine kO rfl (aK ?_);refine aC (by rfl) ?_;refine s_i (dR di rfl (el (kb ?_)));refine aC (by rfl) ?_;refine s_i (dR di rfl (el (kb ?_)));refine dt (by rfl) ?_;refine ay (eH (bH eM ip (au jW mW (aa aN rfl (aa cp rfl ?_)))));refine bL (Dx Du (dd hd rfl) ok) ?_ sI;refine dh (by exact .inl rfl) rfl ?_;refine a_n aW .z5 (a_n aH .z6 (s_a (au jW mW (ag aJ .z7 (ae (ae (ae ?_)))))));refine ae (dl (aa aW rfl (aa n_NetInit_self rfl ?_)));refine et rfl gv (by repeat' exact dE) (blE rfl) .zero ?_;refine dl (aa aH rfl (aa n_NetInit_self rfl ?_));refine et rfl ft (by repeat' first|exact fG|exact dE|apply gQ|kernel_rfl) (blE rfl) .zero ?_;refine dl (aa aJ rfl (aa n_NetInit_self rfl ?_));refine et rfl fM (by repeat' first|exact fG|exact dE|apply gQ|kernel_rfl) (blE rfl) .zero (ae ?_);exact h
theorem FG(M:aA S m w ver)(hd:d<940)(ok:cF w v p)(hb:Binds S (bQ S) vs ks [("self",.obj 0),("addr",.tup [.int v,.int p]),("version",.int ver),("flags",.int 0),("expand_partial",.bool false)])(h:P .none [sO m v p]):WFn S d (.ref fU) vs ks P no [.inst aM []]:=by
 rcases M.kind with ⟨rfl,rfl,rfl⟩|⟨rfl,rfl,rfl⟩
 ·exact Lh hd ok hb h
 ·exact Li hd ok hb h
section
variable {m:Addr} {w:Nat} {ver:Int} (M:aA S m w ver) (hd:d<930)
include M hd
theorem nS:PFn S d (.ref aM) [aY m v p] [] (·=aY m v p):=mkN fun P h=>Qp M (dd hd rfl) l7 h
theorem vb:PFn S d (.ref aM) [dj m v] [] (·=aY m v w):=mkN fun P h=>Qq M (dd hd rfl) l7 h
theorem iJ(ok:cF w v p):PFn S d (.ref aM) [.tup [.int v,.int p]] [("version",.int ver)] (·=aY m v p):=mkN fun P h=>FG M (dd hd rfl) ok yk h
theorem Qr(ok:cF w v p):PFn S d (.ref aM) [.tup [.int v,.int p],.int ver] [] (·=aY m v p):=mkN fun P h=>FG M (dd hd rfl) ok ym h
end
end
section
variable {S:Sta} {d:Nat}
noncomputable def pg(w:Nat)(ver v:Int)(p:Nat):List Int:=[ver,v-v%2^(w-p),(p:Int)-1,v-(v-v%2^(w-p))]
theorem yI(M:aA S m w ver)(hd:d<970)(ok:cF w v p):PFn S d (.ref sw) [aY m v p] [] (·= .tup ((pg w ver v p).map .int)):=by
 refine Fp Av ?_ (dd0 hd rfl);refine s_a (am (av n_netKey_self rfl (fu (.inr rfl) (af (bu (ag iZ .z1 (s_a ?_)))))));refine am (av n_netKey_self rfl ?_);refine io (.inr rfl) ?_;refine am (cN (av n_netKey_self rfl ?_));refine cD (.inr rfl) (aA.max_int (by assumption) (av n_netKey_self rfl ?_));refine jI (.inr rfl) (PFn.ga (jZ (by assumption) (dd (k:=2) hd rfl) (by assumption)) ?_);refine JC (cU (ag ka .z2 (s_a (am (av n_netKey_self rfl ?_)))));refine io (.inr rfl) ?_;refine aa ka rfl (bu (ag kH .z3 (s_r (bc (cN (av n_netKey_self rfl ?_))))));refine cD (.inr rfl) (aA.version (by assumption) ?_);refine aa ka rfl (aa iZ rfl (aa kH rfl ?_));haveI e:=uh ok;rw[e];exact⟨rfl,rfl⟩
theorem VF(M:aA S m w ver)(hd:d<960)(ok:cF w v p)(ok2:cF w v2 p2):PFn S d (.ref xN) [aY m v p,aY m v2 p2] [] (·= .bool (ltI (pg w ver v p) (pg w ver v2 p2))):=by
 refine Tz KI ?_ (dd0 hd rfl);refine ay (oH (s_r (Cg (cy n_lt_self rfl (xx (.inr rfl) (iW _) mz mA (by kernel_rfl) ?_)))));refine bL (yI M (dd hd rfl) ok) ?_ mB;refine cy ub rfl (xx (.inr rfl) (iW _) mz mA (by kernel_rfl) ?_);refine bL (yI M (dd hd rfl) ok2) ?_ mB;refine To (dd hd rfl) ?_;exact⟨rfl,rfl⟩
theorem TM:findIn S.K (.ref aM) "__lt__" =some (some (.ref xN)):=aS
theorem TN:typeIn S.K (.ref xN)=some (.type "function"):=by kernel_rfl
section
variable {c:FC} {X:PX} {σ:St}
theorem TO(M:aA S m w ver)(hd:d<950)(ok:cF w v p)(ok2:cF w v2 p2)(h:P (.bool (ltI (pg w ver v p) (pg w ver v2 p2))) σ):WO2 S d c (compareOp .Lt) (aY m v p) (aY m v2 p2) RelV P X σ:=
 Tn TM TN (.inr rfl) (.inr rfl) (dd0 hd rfl) ((VF M (dd hd rfl) ok ok2).frame rfl rfl fun v e=>⟨_,e,h⟩)
end
noncomputable abbrev VG(m:Addr)(a b:Int):ai:= .inst cu [("_start",dj m a),("_module",.top (.ref m)),("_end",dj m b)]
theorem VH(M:aA S m w ver)(hd:d<940)(hab:a≤b)(h:P .none [VG m a b]):WFn S d (.ref mV) [.obj 0,dj m a,dj m b] [] P no [.inst cu []]:=by
 refine yA u7 ?_ (dd0 hd rfl);refine dl (bH jy cI (aa lg rfl (aa iR rfl ?_)));refine bL (Qo M (dd hd rfl)) ?_ jx;refine aa n_RangeInit_self rfl (x6 rfl xZ (by repeat' exact fG) (blE rfl) .zero ?_);refine dl (cN (av n_RangeInit_self rfl ?_));refine jJ (.inl ⟨_,rfl,rfl⟩) (cm (.inr rfl) (aa n_RangeInit_self rfl ?_));refine x6 rfl v6 (by repeat' first|exact fG|exact dE|apply gQ|kernel_rfl) (blE rfl) .zero ?_;refine dl (bH jy cI (aa mD rfl (cN (av n_RangeInit_self rfl ?_))));refine pK (.inl ⟨_,rfl,rfl⟩) (aA.version (by assumption) (aa iR rfl ?_));refine bL (Lg M (dd hd rfl)) ?_ jx;refine aa n_RangeInit_self rfl (x6 rfl Cv (by repeat' first|exact fG|exact dE|apply gQ|kernel_rfl) (blE rfl) .zero ?_);refine s_i (bz (cN (av n_RangeInit_self rfl ?_)));refine jJ (.inl ⟨_,rfl,rfl⟩) (dL (.inr rfl) ?_);refine cN (av n_RangeInit_self rfl ?_);refine oX (.inl ⟨_,rfl,rfl⟩) (dL (.inr rfl) ?_);refine lS (kb ?_);refine aC (by simpa using hab) ?_;refine ae (ae ?_);exact h
theorem Qs:(["_start","_module","_end"]:List Str).Nodup:=by decide
theorem Qt(M:aA S m w ver)(hd:d<930)(hab:a≤b):PFn S d (.ref cu) [dj m a,dj m b] [] (·=qq m a b):=
 uJ Qa Qc Qd (VH M (dd hd rfl) hab ⟨rfl,_,[("_start",dj m a),("_module",.top (.ref m)),("_end",dj m b)],rfl,Qs,.nobf rfl,rfl⟩) rfl rfl
end
noncomputable def fl(v:Int)(k:Nat):Int:=v-v%2^k
theorem ev(v:Int)(k:Nat):fl v k=2^k*(v / 2^k):=by
 have:=Int.emod_add_mul_ediv v (2^k);unfold fl;exact iAs (fi3 (Y0 (.s X0 X1) X2) [Y2 X0 (.a X1 X2)] rfl this.symm) (fi3 (Y0 X0 (.s X1 X2)) [Y2 (.a X2 X0) X1] rfl this)
theorem rq(h:a≤b)(v:Int):fl (fl v a) b=fl v b:=by
 obtain⟨c,rfl⟩:=Nat.exists_eq_add_of_le h;rw[ev _ (a+c),ev v (a+c),ev v a]
 congr 1
 rw[Int.pow_add,Int.mul_ediv_mul_of_pos _ _ (aV a),Int.ediv_ediv_of_nonneg (iLl (aV a))]
theorem vc(v:Int):fl v 0=v:=by unfold fl;lia
theorem iz(h:0≤v)(k:Nat):0≤fl v k:=by
 rw[ev];exact Int.mul_nonneg (iLl (aV k)) (Int.ediv_nonneg h (iLl (aV k)))
theorem lF(v:Int)(k:Nat):fl v k≤v:=by
 have:=Int.emod_nonneg v (Int.ne_of_gt (aV k));unfold fl;exact fi2 (Y0 (.s X0 X1) X0) [Y0 (.k 0) X1] rfl this
noncomputable def cP(a b:Int)(w:Nat):Nat→Nat
 |0=>0
 |p+1=>if a<fl b (w-(p+1))then cP a b w p else p+1
theorem sP(a b:Int)(w:Nat):∀p,cP a b w p≤p
 |0=>nRe _
 |p+1=>by
  unfold cP;split
  ·exact Nat.le_succ_of_le (sP a b w p)
  ·exact nRe _
section
variable {S:Sta} {d:Nat}
theorem fA(h:P .none σ):gl S d c none P X σ:=h
theorem jO(h:WEx S d c e P X σ):gl S d c (some e) P X σ:=h
theorem FH(h:WL S d c els P no σ):lU S d c target body els G P [] σ:=h
theorem dq(w:Nat)(v:Int):v-v%2^(w-w)=v:=by simp
theorem mF(w:Nat)(v:Int):v-v%2^(w-w)+(2^(w-w)-1)=v:=by simp
theorem gA(h:bS w v):cF w v w:=⟨h.lo,h.hi,nRe _⟩
theorem ph(h:bS w v)(hp:p≤w):cF w (fl v (w-p)) p:=⟨iz h.lo _,Int.lt_of_le_of_lt (lF v _) h.hi,hp⟩
theorem ui(h:p=0∨¬a<fl b (w-p)):cP a b w p=p:=by
 cases p with
 |zero=>rfl
 |succ q=>
  unfold cP;rcases h with h|h
  ·cases h
  ·rw[if_neg h]
theorem yJ(w:Nat)(ver v:Int):pg w ver v w=[ver,v,(w:Int)-1,0]:=by simp[pg]
theorem Qu(w:Nat)(ver a b:Int):ltI (pg w ver a w) (pg w ver b w)=decide (a<b):=by
 rw[yJ,yJ]
 by_cases h:a=b
 ·subst h;simp[ltI]
 ·simp[ltI,h]
theorem FI(h0:0≤v2)(hp:p≤w)(h1:0<p):Builtin.bitAnd (fl v2 (w-p)) (-(1*2^((w:Int)-((p:Int)-1)).toNat))=fl v2 (w-(p-1)):=by
 haveI e:((w:Int)-((p:Int)-1)).toNat=w-(p-1):=by lia
 rw[e,Int.one_mul,K6 (iz h0 _)];exact rq (fj [w-p,w-(p-1),w,p-1,p] (Y0 X0 X1) [Y0 X2 (.a X1 X3),Y0 X3 X4,Y2 (.a X0 X4) X2] rfl (lsa w (p-1)) (nSl p 1) (sac w p hp)) v2
inductive SpI(m:Addr)(w:Nat)(v1 v2:Int):Nat→St→Prop
 |mk {p:Nat} (hp:p≤w) (hs:cP v1 v2 w p=cP v1 v2 w w):SpI m w v1 v2 p ⟨[some (.list [aY m v1 w,aY m v2 w]),some (.list [aY m v1 w,aY m v2 w]),some (aY m v1 w),some (aY m v2 w),some (aY m v1 w),some (aY m v2 w),none,some (.int (fl v2 (w-p))),some (.int (p:Nat)),some (.int v1),some (.int w),none,none,none,none],[]⟩
theorem SpI.at(h:SpI m w v1 v2 p σ)(q:σ'=σ):SpI m w v1 v2 p σ':=q▸h
theorem vM(M:aA S m w ver)(hd:d<900)(ok1:bS w v1)(ok2:bS w v2):WL S (d+1) eP (xQ.drop 5) (fun o σ'=>de o=aY m (fl v2 (w-cP v1 v2 w w)) (cP v1 v2 w w)∧σ'.hp=[]) no ⟨[some (.list [aY m v1 w,aY m v2 w]),some (.list [aY m v1 w,aY m v2 w]),some (aY m v1 w),some (aY m v2 w),some (aY m v1 w),some (aY m v2 w),none,none,none,none,none,none,none,none,none],[]⟩:=by
 haveI ho1:=gA ok1;haveI ho2:=gA ok2;haveI hw:=M.le;refine ay (tG (qX (aa fW rfl (jO (af (fA (fA ?_)))))));refine⟨_,some 2,none,none,.inr rfl,blE rfl,.int 2 (by decide) (by decide),.none,.none,by decide,?_⟩;refine⟨[],.inr rfl,FH ?_⟩;refine cX (bz (av dy rfl ?_));refine bx (.inr rfl) (PFn.ga (bO (by assumption) (dd (k:=2) hd rfl) (by assumption)) ?_);refine av dz rfl ?_;refine bx (.inr rfl) (PFn.ga (bO (by assumption) (dd (k:=2) hd rfl) (by assumption)) ?_);refine sg (kb ?_);refine aC (by simp) ?_;refine k8 (av dz rfl ?_);refine dm (.inr rfl) (PFn.ga (dH (by assumption) (dd (k:=2) hd rfl) (by assumption)) ?_);refine ag gz .z7 (s_a (av dz rfl ?_));refine bV (.inr rfl) (PFn.ga (cq (by assumption) (dd (k:=2) hd rfl) (by assumption)) ?_);refine ag dv .z8 (s_a (av dy rfl ?_));refine bA (.inr rfl) (PFn.ga (bX (by assumption) (dd (k:=2) hd rfl) (by assumption)) ?_);refine ag jY .z9 (s_a (cN (av dz rfl ?_)));refine cD (.inr rfl) (aA.width (by assumption) ?_);refine ag qB .z10 (ay ?_);haveI eA:v2-v2%2^(w-w)+(2^(w-w)-1)=fl v2 (w-w):=by rw[mF,Nat.sub_self,vc]
 haveI eB:v1-v1%2^(w-w)=v1:=dq w v1;refine nv (SpI m w v1 v2) w (.at (.mk (nRe _) rfl) (by rw[eA,eB])) ?_
 rintro p _ ⟨hp,hs⟩
 refine bK (dR dv rfl (lS (kb ?_)));refine lu (fun h1=>?_) (fun h1=>?_)
 ·
  refine bK (fF gz rfl (aa jY rfl (lS (kb ?_))));refine lu (fun h2=>?_) (fun h2=>?_)
  ·
   refine nw (Ha (by rfl) ?_);refine ay (iE dv rfl (af (tB (ag dv .z8 (ay (iE gz rfl (hZ ?_)))))));refine am (af (cC qB rfl (aa dv rfl (bu ?_))));refine j1 (fi2 (Y0 (.k 0) (.s X0 (.s X1 (.k 1)))) [Y0 X1 X0] rfl (iOl hp)) (fi2 (Y0 (.s X0 (.s X1 (.k 1))) (.k 1000000)) [Y0 X0 (.k 128),Y1 (.k 0) X1] rfl (iOl hw) (dtr h1)) (by decide) ?_;refine mr (PL (ag gz .z7 (ae ?_)));haveI hp1:0<p:=by simpa using h1
   haveI e1:(p:Int)-1=((p-1:Nat):Int):=iAs (fi2 (Y0 (.s X0 (.k 1)) X1) [Y0 X0 (.i X1)] rfl (iOl (lsa p 1))) (fi2 (Y0 X0 (.s X1 (.k 1))) [Y2 (.i X0) X1] rfl (iOj (sac p 1 (iOm (fi1 (Y0 (.k 1) X0) [Y1 (.k 0) X0] rfl (dtr h1))))));haveI e2:=FI ok2.lo hp hp1;refine⟨p-1,fj2 (Y1 X0 X1) [Y2 (.i X0) X1] rfl (sac p 1 (fj1 (Y0 (.k 1) X0) [Y1 (.k 0) X0] rfl hp1)),.at (.mk (fj3 (Y0 X0 X1) [Y0 X2 X1,Y0 X0 X2] rfl hp (nSl p 1)) ?_) (by rw[e2,e1])⟩;rw[←hs];obtain⟨q,rfl⟩:∃q,p=q+1:=⟨p-1,nAs ((lsa (p) (1))) (fj2 (Y0 (.i X0) X1) [Y2 (.i X0) X1] rfl (sac p 1 (fj1 (Y0 (.k 1) X0) [Y1 (.k 0) X0] rfl hp1)))⟩;haveI h2':v1<fl v2 (w-(q+1)):=by simpa using h2
   show cP v1 v2 w q=cP v1 v2 w (q+1);conv=>rhs;unfold cP
   rw[if_pos h2']
  ·
   refine PB (by rfl) ?_;refine je (bH l9 aD (bc (aa gz rfl (aa dv rfl (av dy rfl ?_)))));refine bx (.inr rfl) (PFn.ga (bO (by assumption) (dd (k:=2) hd rfl) (by assumption)) ?_);refine bL (iJ M (dd hd rfl) (ph ok2 hp)) ?_ dw;have hsp:cP v1 v2 w w=p:=hs.symm.trans (ui (.inr (by simpa using h2)));rw[hsp];exact⟨rfl,rfl⟩
 ·
  refine PB (by rfl) ?_;refine je (bH l9 aD (bc (aa gz rfl (aa dv rfl (av dy rfl ?_)))));refine bx (.inr rfl) (PFn.ga (bO (by assumption) (dd (k:=2) hd rfl) (by assumption)) ?_);refine bL (iJ M (dd hd rfl) (ph ok2 hp)) ?_ dw;haveI hsp:cP v1 v2 w w=p:=hs.symm.trans (ui (.inl (by haveI h3:¬(0:Int)<p:=(by simpa using h1);exact nAs (iOm (fi1 (Y0 X0 (.k 0)) [Y0 X0 (.k 0)] rfl (Int.not_lt.mp h3))) (iOm (fi1 (Y0 (.k 0) X0) [Y0 (.k 0) X0] rfl (iNn p))))));rw[hsp];exact⟨rfl,rfl⟩
theorem Lj(M:aA S m w ver)(hd:d<900)(ok1:bS w v1)(ok2:bS w v2)(h:v1≤v2):PFn S d (.ref tV) [.list [aY m v1 w,aY m v2 w]] [] (·=aY m (fl v2 (w-cP v1 v2 w w)) (cP v1 v2 w w)):=by
 haveI ho1:=gA ok1;haveI ho2:=gA ok2;haveI hw:=M.le;refine KW Ft ?_ (dd0 hd rfl);refine ay ?_;refine EY (gO.of (cel:=[]) rfl) ?_ (by(intro env e1 e2;cases env;dsimp only at e1 e2;subst e1 e2;kernel_rfl));refine aa mE rfl ?_;refine⟨_,_,lH (.inr rfl),blE rfl,?_⟩;refine jw (a_n (ac.of (i:=1) (k:= .local) (l:=uZ)) .z1 (jF ?_));refine⟨fun _=>?_,fun q=>by cases q⟩;refine bH (ac.of (i:=2) (k:=GI) (l:=uZ)) aD (aa (ac.of (i:=1) (k:= .local) (l:=uZ)) rfl ?_);refine bL (nS M (dd hd rfl)) ?_ dw;refine⟨.inr rfl,?_⟩;refine jw (a_n (ac.of (i:=1) (k:= .local) (l:=uZ)) .z1 (jF ?_));refine⟨fun _=>?_,fun q=>by cases q⟩;refine bH (ac.of (i:=2) (k:=GI) (l:=uZ)) aD (aa (ac.of (i:=1) (k:= .local) (l:=uZ)) rfl ?_);refine bL (nS M (dd hd rfl)) ?_ dw;refine⟨.inr rfl,?_⟩;refine tJ (ag fW .z1 (s_i (bz (aQ Do ir (aa fW rfl (wU (.inr rfl) (blE rfl) (af ?_)))))));refine uH (kb ?_);refine aC (by rfl) ?_;refine k8 (d0 fW rfl (af (dD (.inr rfl) (by decide) rfl (blE rfl) (ag gY .z2 (s_a (d0 fW rfl (af ?_)))))));refine dD (.inr rfl) (by decide) rfl (blE rfl) (ag gZ .z3 (s_i (fF gY rfl (aa gZ rfl ?_))));refine TO M (dd hd rfl) ho1 ho2 (kb ?_);refine jd (fun h1=>?_) (fun h1=>?_)
 ·
  refine s_a (aa gY rfl (ag dy .z4 (s_a (aa gZ rfl (ag dz .z5 (ae ?_))))));exact vM M hd ok1 ok2
 ·
  haveI q9:v1=v2:=by rw[Qu]at h1;have:=of_decide_eq_false h1;exact iAs (h) ((Int.not_lt.mp (dfa h1)))
  subst q9;refine s_a (aa gZ rfl (ag dy .z4 (s_a (aa gY rfl (ag dz .z5 (ae ?_))))));exact vM M hd ok1 ok2
end
noncomputable def cQ(e:Int)(w:Nat):Nat→Nat→List (Int×Nat)
 |_,0=>[]
 |q,n+1=>(if fl e (w-(q-1))+2^(w-q)≤e then [(fl e (w-(q-1)),q)]else [])++cQ e w (q+1) n
noncomputable def cA(e:Int)(w:Nat):Nat→Nat→List (Int×Nat)
 |_,0=>[]
 |q,n+1=>(if fl e (w-(q-1))+2^(w-q)≤e then []else [(fl e (w-(q-1))+2^(w-q),q)])++cA e w (q+1) n
theorem vd:cQ e w q (n+1)=(if fl e (w-(q-1))+2^(w-q)≤e then [(fl e (w-(q-1)),q)]else [])++cQ e w (q+1) n:=rfl
theorem ve:cA e w q (n+1)=(if fl e (w-(q-1))+2^(w-q)≤e then []else [(fl e (w-(q-1))+2^(w-q),q)])++cA e w (q+1) n:=rfl
theorem rt(v:Int)(k:Nat):v<fl v k+2^k:=by
 have:=Int.emod_lt_of_pos v (aV k);unfold fl;exact fi3 (Y1 X0 (.a (.s X0 X1) X2)) [Y1 X1 X2] rfl this
theorem uj(h:fl e (k+1)+2^k≤e):fl e k=fl e (k+1)+2^k:=by
 have h1:=ev e (k+1);haveI h2:=ev e k;haveI h3:=rt e (k+1);haveI h4:=aV k;have e1:(2:Int)^(k+1)=2*2^k:=by rw[Int.pow_succ];exact iAs (fi1 (Y0 (.n X0 2) (.m 2 X0)) [] rfl) (fi1 (Y0 (.m 2 X0) (.n X0 2)) [] rfl)
 haveI h5:e / 2^k=2*(e / 2^(k+1))+1:=by
  refine iAs ?_ ?_
  ·refine Int.le_of_lt_add_one ((Int.ediv_lt_iff_lt_mul h4).mpr ?_);rw[h1,e1]at h3;rw[Int.add_mul,Int.add_mul,Int.mul_assoc];have:e / (2*2^k)*2^k=2^k*(e / (2*2^k)):=Int.mul_comm ..;rw[e1,this];rw[Int.mul_assoc]at h3;exact fi3 (Y1 X0 (.a (.a (.m 2 X1) (.m 1 X2)) (.m 1 X2))) [Y1 X0 (.a (.m 2 X1) (.m 2 X2))] rfl h3
  ·refine(Int.le_ediv_iff_mul_le h4).mpr ?_;rw[h1,e1,Int.mul_assoc]at h;rw[Int.add_mul,Int.mul_assoc,e1];have:e / (2*2^k)*2^k=2^k*(e / (2*2^k)):=Int.mul_comm ..;rw[this];exact fi3 (Y0 (.a (.m 2 X0) (.m 1 X1)) X2) [Y0 (.a (.m 2 X0) X1) X2] rfl h
 rw[h2,h5,h1,e1,Int.mul_add,←Int.mul_assoc];have:(2:Int)^k*2=2*2^k:=Int.mul_comm ..;rw[this];exact iAs (fi2 (Y0 (.a X0 (.n X1 1)) (.a X0 X1)) [] rfl) (fi2 (Y0 (.a X0 X1) (.a X0 (.n X1 1))) [] rfl)
theorem uk(h:¬fl e (k+1)+2^k≤e):fl e k=fl e (k+1):=by
 have h1:=ev e (k+1);haveI h2:=ev e k;haveI h3:=lF e (k+1);haveI h4:=aV k;have e1:(2:Int)^(k+1)=2*2^k:=by rw[Int.pow_succ];exact iAs (fi1 (Y0 (.n X0 2) (.m 2 X0)) [] rfl) (fi1 (Y0 (.m 2 X0) (.n X0 2)) [] rfl)
 haveI h5:e / 2^k=2*(e / 2^(k+1)):=by
  refine iAs ?_ ?_
  ·refine Int.le_of_lt_add_one ((Int.ediv_lt_iff_lt_mul h4).mpr ?_);rw[h1,e1,Int.mul_assoc]at h;rw[Int.add_mul,Int.mul_assoc,e1];have:e / (2*2^k)*2^k=2^k*(e / (2*2^k)):=Int.mul_comm ..;rw[this];exact fi3 (Y1 X0 (.a (.m 2 X1) (.m 1 X2))) [Y1 X0 (.a (.m 2 X1) X2)] rfl (Int.not_le.mp h)
  ·refine(Int.le_ediv_iff_mul_le h4).mpr ?_;rw[h1,e1,Int.mul_assoc]at h3;rw[Int.mul_assoc,e1];have:e / (2*2^k)*2^k=2^k*(e / (2*2^k)):=Int.mul_comm ..;rw[this];exact h3
 rw[h2,h5,h1,e1,←Int.mul_assoc];have:(2:Int)^k*2=2*2^k:=Int.mul_comm ..;rw[this]
theorem pi(h:fl e (w-(q-1))+2^(w-q)≤e):cQ e w q (n+1)=(fl e (w-(q-1)),q)::cQ e w (q+1) n:=by
 show(if _ then _ else _)++_=_;rw[if_pos h];rfl
theorem pj(h:¬fl e (w-(q-1))+2^(w-q)≤e):cQ e w q (n+1)=cQ e w (q+1) n:=by
 show(if _ then _ else _)++_=_;rw[if_neg h];rfl
theorem pk(h:fl e (w-(q-1))+2^(w-q)≤e):cA e w q (n+1)=cA e w (q+1) n:=by
 show(if _ then _ else _)++_=_;rw[if_pos h];rfl
theorem ma(h:¬fl e (w-(q-1))+2^(w-q)≤e):cA e w q (n+1)=(fl e (w-(q-1))+2^(w-q),q)::cA e w (q+1) n:=by
 show(if _ then _ else _)++_=_;rw[if_neg h];rfl
theorem yK(h:e<2^w)(hk:k≤w):fl e k+2^k≤2^w:=by
 obtain⟨c,rfl⟩:=Nat.exists_eq_add_of_le hk;rw[ev];haveI h1:e / 2^k<2^c:=Int.ediv_lt_of_lt_mul (aV k) (by rw[Int.mul_comm,←Int.pow_add];exact h);haveI h2:2^k*(e / 2^k+1)≤2^k*(2:Int)^c:=Int.mul_le_mul_of_nonneg_left (by assumption) (iLl (aV k));rw[Int.mul_add,←Int.pow_add]at h2;exact fi3 (Y0 (.a X0 X1) X2) [Y0 (.a X0 (.n X1 1)) X2] rfl h2
theorem Bk(h0:0<q)(hq:q≤w)(h:fl e (w-(q-1))+2^(w-q)≤e):fl e (w-(q+1-1))=fl e (w-(q-1))+2^(w-q):=by
 have e1:w-(q-1)=(w-q)+1:=nAs (fj5 (Y0 X0 (.i X1)) [Y0 X2 (.a X1 X3),Y0 X3 (.i X4),Y2 (.a X0 X4) X2] rfl (lsa w q) (lsa q 1) (sac w (q-1) (fj3 (Y0 X0 X1) [Y0 X2 X1,Y0 X0 X2] rfl hq (nSl q 1)))) (fj5 (Y0 (.i X0) X1) [Y0 X2 (.a X1 X3),Y2 (.a X0 X4) X2,Y2 (.i X3) X4] rfl (lsa w (q-1)) (sac w q hq) (sac q 1 (fj1 (Y0 (.k 1) X0) [Y1 (.k 0) X0] rfl h0)));rw[e1]at h⊢;exact uj h
theorem vf(h0:0<q)(hq:q≤w)(h:¬fl e (w-(q-1))+2^(w-q)≤e):fl e (w-(q+1-1))=fl e (w-(q-1)):=by
 have e1:w-(q-1)=(w-q)+1:=nAs (fj5 (Y0 X0 (.i X1)) [Y0 X2 (.a X1 X3),Y0 X3 (.i X4),Y2 (.a X0 X4) X2] rfl (lsa w q) (lsa q 1) (sac w (q-1) (fj3 (Y0 X0 X1) [Y0 X2 X1,Y0 X0 X2] rfl hq (nSl q 1)))) (fj5 (Y0 (.i X0) X1) [Y0 X2 (.a X1 X3),Y2 (.a X0 X4) X2,Y2 (.i X3) X4] rfl (lsa w (q-1)) (sac w q hq) (sac q 1 (fj1 (Y0 (.k 1) X0) [Y1 (.k 0) X0] rfl h0)));rw[e1]at h⊢;exact uk h
section
variable {S:Sta} {d:Nat}
noncomputable def bI(m:Addr)(l:List (Int×Nat)):List V:=l.map fun x=>aY m x.1 x.2
theorem fB(h:P [] σ):WEs S d c X [] P σ:=h
theorem mG(m:Addr)(l:List (Int×Nat))(x:Int×Nat):bI m (l++[x])=bI m l++[aY m x.1 x.2]:=by simp[bI]
theorem cK(m:Addr)(l:List (Int×Nat)):(bI m l).length=l.length:=by simp[bI]
theorem FJ(h:bS w e)(hq:q≤w):cF w (fl e (w-(q-1))) q:=⟨iz h.lo _,Int.lt_of_le_of_lt (lF e _) h.hi,hq⟩
theorem FK(h:bS w e)(h0:0<q)(hq:q≤w):cF w (fl e (w-(q-1))+2^(w-q)) q:=by
 have h1:=yK (k:=w-(q-1)) h.hi (nSl ..);have e1:w-(q-1)=(w-q)+1:=Uj h0 hq;rw[e1]at h1⊢;have e2:(2:Int)^(w-q+1)=2*2^(w-q):=by rw[Int.pow_succ];exact iAs (fi1 (Y0 (.n X0 2) (.m 2 X0)) [] rfl) (fi1 (Y0 (.m 2 X0) (.n X0 2)) [] rfl)
 rw[e2]at h1;have:=aV (w-q);have:=iz h.lo (w-q+1);exact⟨by lia,by lia,hq⟩
inductive po(m:Addr)(w:Nat)(ver v e:Int)(p:Nat):Nat→St→Prop
 |mk {n:Nat} (q:Nat) (L R:List (Int×Nat)) (mt:Option V) (hn:n=w+1-q) (hq1:p+1≤q) (hq2:q≤w) (hL:L.length≤q) (hR:R.length≤q) (eL:L++cQ e w q (w+1-q)=cQ e w (p+1) (w-p)) (eR:R++cA e w q (w+1-q)=cA e w (p+1) (w-p)):po m w ver v e p n ⟨[some (aY m v p),some (aY m e w),some (.obj 1),some (.obj 2),some (.int (q:Nat)),some (.int w),some (.int (fl e (w-(p+1-1)))),some (.int ver),some (.int (fl e (w-(q-1)))),some (.int (fl e (w-(q-1))+2^(w-q))),mt,none],[.list [],.list (bI m L),.list (bI m R)]⟩
theorem po.at(h:po m w ver v e p n σ)(q:σ'=σ):po m w ver v e p n σ':=q▸h
theorem HX(M:aA S m w ver)(hd:d<900)(ok:cF w v p)(oke:bS w e)(hpw:p+1≤w)(hin:fl e (w-p)=fl v (w-p)):(P (.tup [.obj 1,.list [aY m e w],.obj 3]) [.list [],.list (bI m (cQ e w (p+1) (w-p))),.list (bI m (cA e w (p+1) (w-p))),.list (bI m (cA e w (p+1) (w-p))).reverse])→WFn S d (.ref nF) [aY m v p,aY m e w] [] P no [.list []]:=by
 have hoe:=gA oke;have hw:=M.le;intro h;refine Bi vL ?_ (dd0 hd rfl);refine s_a (bH da aD (aa aZ rfl ?_));refine bL (nS M (dd hd rfl)) ?_ dw;refine ag aZ .zero (s_a (bH da aD (aa aE rfl ?_)));refine bL (nS M (dd hd rfl)) ?_ dw;refine ag aE .z1 (s_i (bz (av aE rfl ?_)));refine dm (.inr rfl) (PFn.ga (dH (by assumption) (dd (k:=2) hd rfl) (by assumption)) ?_);refine av aZ rfl ?_;refine bA (.inr rfl) (PFn.ga (bX (by assumption) (dd (k:=2) hd rfl) (by assumption)) ?_);refine uH (kb ?_);refine aC (by rw[mF];exact dEf (by have h9:=lF e (w-p);rw[hin]at h9;unfold fl at h9;exact fun hz=>fi3 (0,3,.k 0,.k 0) [Y0 (.s X0 X1) X2,Y1 X2 (.s X0 X1)] rfl h9 hz)) ?_;refine s_i (bz (av aZ rfl ?_));refine dm (.inr rfl) (PFn.ga (dH (by assumption) (dd (k:=2) hd rfl) (by assumption)) ?_);refine av aE rfl ?_;refine bA (.inr rfl) (PFn.ga (bX (by assumption) (dd (k:=2) hd rfl) (by assumption)) ?_);refine uH (kb ?_);refine aC (by rw[dq];exact dEf (by have h9:=rt e (w-p);rw[hin]at h9;unfold fl at h9;exact fun hz=>fi4 (0,3,.k 0,.k 0) [Y1 X0 (.a (.s X1 X2) X3),Y1 (.a (.s X1 X2) (.s X3 (.k 1))) X0] rfl h9 hz)) ?_;refine ae (cX (bz (av aZ rfl ?_)));refine bV (.inr rfl) (PFn.ga (cq (by assumption) (dd (k:=2) hd rfl) (by assumption)) ?_);refine av aE rfl ?_;refine bV (.inr rfl) (PFn.ga (cq (by assumption) (dd (k:=2) hd rfl) (by assumption)) ?_);refine uI (kb ?_);refine aC (by exact dEf (fun hz=>fi [↑p,↑w] (0,3,.k 0,.k 0) [Y0 (.i X0) X1,Y0 X1 X0] rfl (iOl hpw) hz)) ?_;refine k8 (gu (fB ?_));refine lV (.cons .nil) ?_;refine ag e8 .z2 (s_a (gu (fB ?_)));refine lV (.cons (.cons .nil)) ?_;refine ag eu .z3 (s_a (am (av aZ rfl ?_)));refine bV (.inr rfl) (PFn.ga (cq (by assumption) (dd (k:=2) hd rfl) (by assumption)) ?_);refine af (dQ (ag ak .z4 (s_a (cN (av aZ rfl ?_)))));refine cD (.inr rfl) (aA.width (by assumption) ?_);refine ag aB .z5 (s_a (av aZ rfl ?_));refine bA (.inr rfl) (PFn.ga (bX (by assumption) (dd (k:=2) hd rfl) (by assumption)) ?_);refine ag dk .z6 (s_a (av aE rfl ?_));refine bx (.inr rfl) (PFn.ga (bO (by assumption) (dd (k:=2) hd rfl) (by assumption)) ?_);refine ag fh .z7 (s_a (aa dk rfl (ag cJ .z8 (s_a (cC dk rfl (am (af ?_)))))));refine cC aB rfl (aa ak rfl (bu ?_));refine mq (fi2 (Y0 (.k 0) (.s X0 (.i X1))) [Y0 (.i X1) X0] rfl (iOl hpw)) (fi2 (Y0 (.s X0 (.i X1)) (.k 1000000)) [Y0 X0 (.k 128),Y0 (.k 0) X1] rfl (iOl hw) (iNn p)) (by decide) ?_;refine dQ (ag bM .z9 (ay ?_));have g1:((w:Int)-((p:Int)+1)).toNat=w-(p+1):=m9 w p;have g2:v-v%2^(w-p)=fl e (w-(p+1-1)):=hin.symm;rw[g1,g2];refine nv (po m w ver v e p) (w+1-(p+1)) (.mk (p+1) [] [] none rfl (nRe _) hpw (nZl _) (nZl _) (by rw[Nat.add_sub_add_right];rfl) (by rw[Nat.add_sub_add_right];rfl)) ?_
 rintro _ _ ⟨q,L,R,mt,rfl,hq1,hq2,hL,hR,eL,eR⟩
 refine bz (av aE rfl ?_);refine bV (.inr rfl) (PFn.ga (cq (by assumption) (dd (k:=2) hd rfl) (by assumption)) ?_);refine aa ak rfl (uI (kb ?_));refine Ha (by exact dEt (fi2 (Y0 X0 X1) [Y0 X0 X1] rfl (iOl hq2))) ?_;refine s_i (bz (av aE rfl ?_));refine bA (.inr rfl) (PFn.ga (bX (by assumption) (dd (k:=2) hd rfl) (by assumption)) ?_);refine aa bM rfl (uI (kb ?_));refine jd (fun h1=>?_) (fun h1=>?_)
 ·
  refine s_e (cy e8 rfl (bo rfl (bH da aD (bc (aa cJ rfl (aa ak rfl (aa fh rfl ?_)))))));refine bL (iJ M (dd hd rfl) (FJ oke hq2)) ?_ dw;refine bw rfl (mG m L (fl e (w-(q-1)),q)).symm (by rw[cK];exact fj3 (Y0 X0 (.k 100000)) [Y0 X1 (.k 128),Y0 X2 X1,Y0 X0 X2] rfl hw hq2 hL) ?_;refine s_a (aa bM rfl (ag bN .z10 (ae (ay (iE ak rfl (af (lR ?_)))))));refine ag ak .z4 (s_i (fF ak rfl (aa aB rfl (lS (kb ?_)))));refine jd (fun h2=>?_) (fun h2=>?_)
  ·
   refine ay (qV (s_r (bc (aa e8 rfl (fS (aa aE rfl (oK ?_)))))));refine aa eu rfl (fA (fA (jO (hZ (af (mr ?_))))));refine⟨_,none,none,some (-1),.inl ⟨_,rfl,rfl⟩,by simp only[cK];exact fj3 (Y0 X0 (.k 100000)) [Y0 X1 (.k 128),Y0 X2 X1,Y0 X0 X2] rfl hw hq2 hR,.none,.none,.int (-1) (by decide) (by decide),by decide,?_⟩;have hq3:(w:Int)<(q:Int)+1:=by simpa using h2
   have f3:w+1-q=0+1:=nAs (iOm (fi3 (Y0 X0 (.i (.k 0))) [Y1 X1 (.i X2),Y2 (.a X0 X2) (.i X1)] rfl (dtr h2) (iOj (sac (w+1) q (iOm (fi2 (Y0 X0 (.i X1)) [Y0 X0 X1] rfl (iOl hq2))))))) (iOm (fi3 (Y0 (.i (.k 0)) X0) [Y0 X1 X2,Y0 (.i X2) (.a X0 X1)] rfl (iOl hq2) (iOl (lsa (w+1) q))));have hh:fl e (w-(q-1))+2^(w-q)≤e:=by rw[dq]at h1;simpa using h1
   rw[f3,pi hh]at eL;rw[f3,pk hh]at eR;rw[oM];rw[←eL,←eR]at h;rw[show(fl e (w-(q-1)),q)::cQ e w (q+1) 0=[(fl e (w-(q-1)),q)]from rfl]at h;rw[show R++cA e w (q+1) 0=R from List.append_nil _]at h;exact h
  ·
   have hq9:¬(w:Int)<(q:Int)+1:=by simpa using h2
   refine k8 (aa bN rfl (ag cJ .z8 (s_a (cC bN rfl (am (af (cC aB rfl ?_)))))));refine aa ak rfl (bu ?_);refine mq (fi2 (Y0 (.k 0) (.s X0 (.i X1))) [Y0 (.i X1) X0] rfl (Int.not_lt.mp hq9)) (fi2 (Y0 (.s X0 (.i X1)) (.k 1000000)) [Y0 X0 (.k 128),Y0 (.k 0) X1] rfl (iOl hw) (iNn q)) (by decide) ?_;refine dQ (ag bM .z9 (ae ?_));have hq3:¬(w:Int)<(q:Int)+1:=by simpa using h2
   have f2:((w:Int)-((q:Int)+1)).toNat=w-(q+1):=m9 w q;have f3:w+1-q=(w+1-(q+1))+1:=n9 (by exact fj2 (Y1 X0 (.i X1)) [Y0 X0 X1] rfl hq2);have hh:fl e (w-(q-1))+2^(w-q)≤e:=by rw[dq]at h1;simpa using h1
   have f1:=Bk (by exact fj2 (Y1 (.k 0) X0) [Y0 (.i X1) X0] rfl hq1) hq2 hh;rw[f3,pi hh]at eL;rw[f3,pk hh]at eR;exact⟨w+1-(q+1),by lia,po.at (.mk (q+1) (L++[(fl e (w-(q-1)),q)]) R _ rfl (by lia) (by lia) (by rw[lAp];show _+1≤_;lia) (by lia) (by rw[←eL];simp) eR) (by rw[f1,f2];rfl)⟩
 ·
  refine s_e (cy eu rfl (bo rfl (bH da aD (bc (aa bM rfl (aa ak rfl (aa fh rfl ?_)))))));refine bL (iJ M (dd hd rfl) (FK oke (fj2 (Y1 (.k 0) X0) [Y0 (.i X1) X0] rfl hq1) hq2)) ?_ dw;refine bw rfl (mG m R (fl e (w-(q-1))+2^(w-q),q)).symm (by rw[cK];exact fj3 (Y0 X0 (.k 100000)) [Y0 X1 (.k 128),Y0 X2 X1,Y0 X0 X2] rfl hw hq2 hR) ?_;refine s_a (aa cJ rfl (ag bN .z10 (ae (ay (iE ak rfl (af (lR ?_)))))));refine ag ak .z4 (s_i (fF ak rfl (aa aB rfl (lS (kb ?_)))));refine jd (fun h3=>?_) (fun h3=>?_)
  ·
   refine ay (qV (s_r (bc (aa e8 rfl (fS (aa aE rfl (oK ?_)))))));refine aa eu rfl (fA (fA (jO (hZ (af (mr ?_))))));refine⟨_,none,none,some (-1),.inl ⟨_,rfl,rfl⟩,by rw[cK,lAp];show _+1≤_;exact fj3 (Y0 (.i X0) (.k 100000)) [Y0 X1 (.k 128),Y0 X2 X1,Y0 X0 X2] rfl hw hq2 hR,.none,.none,.int (-1) (by decide) (by decide),by decide,?_⟩;have hq3:(w:Int)<(q:Int)+1:=by simpa using h3
   have f3:w+1-q=0+1:=nAs (iOm (fi3 (Y0 X0 (.i (.k 0))) [Y1 X1 (.i X2),Y2 (.a X0 X2) (.i X1)] rfl (dtr h3) (iOj (sac (w+1) q (iOm (fi2 (Y0 X0 (.i X1)) [Y0 X0 X1] rfl (iOl hq2))))))) (iOm (fi3 (Y0 (.i (.k 0)) X0) [Y0 X1 X2,Y0 (.i X2) (.a X0 X1)] rfl (iOl hq2) (iOl (lsa (w+1) q))));have hh:¬fl e (w-(q-1))+2^(w-q)≤e:=by rw[dq]at h1;simpa using h1
   rw[f3,pj hh]at eL;rw[f3,ma hh]at eR;rw[oM];rw[←eL,←eR]at h;rw[show(fl e (w-(q-1))+2^(w-q),q)::cA e w (q+1) 0=[(fl e (w-(q-1))+2^(w-q),q)]from rfl]at h;rw[show L++cQ e w (q+1) 0=L from List.append_nil _]at h;exact h
  ·
   have hq9:¬(w:Int)<(q:Int)+1:=by simpa using h3
   refine k8 (aa bN rfl (ag cJ .z8 (s_a (cC bN rfl (am (af (cC aB rfl ?_)))))));refine aa ak rfl (bu ?_);refine mq (fi2 (Y0 (.k 0) (.s X0 (.i X1))) [Y0 (.i X1) X0] rfl (Int.not_lt.mp hq9)) (fi2 (Y0 (.s X0 (.i X1)) (.k 1000000)) [Y0 X0 (.k 128),Y0 (.k 0) X1] rfl (iOl hw) (iNn q)) (by decide) ?_;refine dQ (ag bM .z9 (ae ?_));have hq3:¬(w:Int)<(q:Int)+1:=by simpa using h3
   have f2:((w:Int)-((q:Int)+1)).toNat=w-(q+1):=m9 w q;have f3:w+1-q=(w+1-(q+1))+1:=n9 (by exact fj2 (Y1 X0 (.i X1)) [Y0 X0 X1] rfl hq2);have hh:¬fl e (w-(q-1))+2^(w-q)≤e:=by rw[dq]at h1;simpa using h1
   have f1:=vf (by exact fj2 (Y1 (.k 0) X0) [Y0 (.i X1) X0] rfl hq1) hq2 hh;rw[f3,pj hh]at eL;rw[f3,ma hh]at eR;exact⟨w+1-(q+1),by lia,po.at (.mk (q+1) L (R++[(fl e (w-(q-1))+2^(w-q),q)]) _ rfl (by lia) (by lia) (by lia) (by rw[lAp];show _+1≤_;lia) eL (by rw[←eR];simp)) (by rw[f1,f2];rfl)⟩
inductive sQ(m:Addr)(w:Nat)(ver v e:Int)(p:Nat):Nat→St→Prop
 |mk {n:Nat} (q:Nat) (L R:List (Int×Nat)) (mt:Option V) (hn:n=w+1-q) (hq1:p+1≤q) (hq2:q≤w) (hL:L.length≤q) (hR:R.length≤q) (eL:L++cQ e w q (w+1-q)=cQ e w (p+1) (w-p)) (eR:R++cA e w q (w+1-q)=cA e w (p+1) (w-p)):sQ m w ver v e p n ⟨[some (aY m v p),some (aY m e w),some (.obj 0),some (.obj 1),some (.int (q:Nat)),some (.int w),some (.int (fl e (w-(p+1-1)))),some (.int ver),some (.int (fl e (w-(q-1)))),some (.int (fl e (w-(q-1))+2^(w-q))),mt,none],[.list (bI m L),.list (bI m R)]⟩
theorem sQ.at(h:sQ m w ver v e p n σ)(q:σ'=σ):sQ m w ver v e p n σ':=q▸h
theorem Lk(M:aA S m w ver)(hd:d<900)(ok:cF w v p)(oke:bS w e)(hpw:p+1≤w)(hin:fl e (w-p)=fl v (w-p)):(P (.tup [.obj 0,.list [aY m e w],.obj 2]) [.list (bI m (cQ e w (p+1) (w-p))),.list (bI m (cA e w (p+1) (w-p))),.list (bI m (cA e w (p+1) (w-p))).reverse])→WFn S d (.ref nF) [aY m v p,aY m e w] [] P no []:=by
 have hoe:=gA oke;have hw:=M.le;intro h;refine Bi vL ?_ (dd0 hd rfl);refine s_a (bH da aD (aa aZ rfl ?_));refine bL (nS M (dd hd rfl)) ?_ dw;refine ag aZ .zero (s_a (bH da aD (aa aE rfl ?_)));refine bL (nS M (dd hd rfl)) ?_ dw;refine ag aE .z1 (s_i (bz (av aE rfl ?_)));refine dm (.inr rfl) (PFn.ga (dH (by assumption) (dd (k:=2) hd rfl) (by assumption)) ?_);refine av aZ rfl ?_;refine bA (.inr rfl) (PFn.ga (bX (by assumption) (dd (k:=2) hd rfl) (by assumption)) ?_);refine uH (kb ?_);refine aC (by rw[mF];exact dEf (by have h9:=lF e (w-p);rw[hin]at h9;unfold fl at h9;exact fun hz=>fi3 (0,3,.k 0,.k 0) [Y0 (.s X0 X1) X2,Y1 X2 (.s X0 X1)] rfl h9 hz)) ?_;refine s_i (bz (av aZ rfl ?_));refine dm (.inr rfl) (PFn.ga (dH (by assumption) (dd (k:=2) hd rfl) (by assumption)) ?_);refine av aE rfl ?_;refine bA (.inr rfl) (PFn.ga (bX (by assumption) (dd (k:=2) hd rfl) (by assumption)) ?_);refine uH (kb ?_);refine aC (by rw[dq];exact dEf (by have h9:=rt e (w-p);rw[hin]at h9;unfold fl at h9;exact fun hz=>fi4 (0,3,.k 0,.k 0) [Y1 X0 (.a (.s X1 X2) X3),Y1 (.a (.s X1 X2) (.s X3 (.k 1))) X0] rfl h9 hz)) ?_;refine ae (cX (bz (av aZ rfl ?_)));refine bV (.inr rfl) (PFn.ga (cq (by assumption) (dd (k:=2) hd rfl) (by assumption)) ?_);refine av aE rfl ?_;refine bV (.inr rfl) (PFn.ga (cq (by assumption) (dd (k:=2) hd rfl) (by assumption)) ?_);refine uI (kb ?_);refine aC (by exact dEf (fun hz=>fi [↑p,↑w] (0,3,.k 0,.k 0) [Y0 (.i X0) X1,Y0 X1 X0] rfl (iOl hpw) hz)) ?_;refine k8 (gu (fB ?_));refine lV .nil ?_;refine ag e8 .z2 (s_a (gu (fB ?_)));refine lV (.cons .nil) ?_;refine ag eu .z3 (s_a (am (av aZ rfl ?_)));refine bV (.inr rfl) (PFn.ga (cq (by assumption) (dd (k:=2) hd rfl) (by assumption)) ?_);refine af (dQ (ag ak .z4 (s_a (cN (av aZ rfl ?_)))));refine cD (.inr rfl) (aA.width (by assumption) ?_);refine ag aB .z5 (s_a (av aZ rfl ?_));refine bA (.inr rfl) (PFn.ga (bX (by assumption) (dd (k:=2) hd rfl) (by assumption)) ?_);refine ag dk .z6 (s_a (av aE rfl ?_));refine bx (.inr rfl) (PFn.ga (bO (by assumption) (dd (k:=2) hd rfl) (by assumption)) ?_);refine ag fh .z7 (s_a (aa dk rfl (ag cJ .z8 (s_a (cC dk rfl (am (af ?_)))))));refine cC aB rfl (aa ak rfl (bu ?_));refine mq (fi2 (Y0 (.k 0) (.s X0 (.i X1))) [Y0 (.i X1) X0] rfl (iOl hpw)) (fi2 (Y0 (.s X0 (.i X1)) (.k 1000000)) [Y0 X0 (.k 128),Y0 (.k 0) X1] rfl (iOl hw) (iNn p)) (by decide) ?_;refine dQ (ag bM .z9 (ay ?_));have g1:((w:Int)-((p:Int)+1)).toNat=w-(p+1):=m9 w p;have g2:v-v%2^(w-p)=fl e (w-(p+1-1)):=hin.symm;rw[g1,g2];refine nv (sQ m w ver v e p) (w+1-(p+1)) (.mk (p+1) [] [] none rfl (nRe _) hpw (nZl _) (nZl _) (by rw[Nat.add_sub_add_right];rfl) (by rw[Nat.add_sub_add_right];rfl)) ?_
 rintro _ _ ⟨q,L,R,mt,rfl,hq1,hq2,hL,hR,eL,eR⟩
 refine bz (av aE rfl ?_);refine bV (.inr rfl) (PFn.ga (cq (by assumption) (dd (k:=2) hd rfl) (by assumption)) ?_);refine aa ak rfl (uI (kb ?_));refine Ha (by exact dEt (fi2 (Y0 X0 X1) [Y0 X0 X1] rfl (iOl hq2))) ?_;refine s_i (bz (av aE rfl ?_));refine bA (.inr rfl) (PFn.ga (bX (by assumption) (dd (k:=2) hd rfl) (by assumption)) ?_);refine aa bM rfl (uI (kb ?_));refine jd (fun h1=>?_) (fun h1=>?_)
 ·
  refine s_e (cy e8 rfl (bo rfl (bH da aD (bc (aa cJ rfl (aa ak rfl (aa fh rfl ?_)))))));refine bL (iJ M (dd hd rfl) (FJ oke hq2)) ?_ dw;refine bw rfl (mG m L (fl e (w-(q-1)),q)).symm (by rw[cK];exact fj3 (Y0 X0 (.k 100000)) [Y0 X1 (.k 128),Y0 X2 X1,Y0 X0 X2] rfl hw hq2 hL) ?_;refine s_a (aa bM rfl (ag bN .z10 (ae (ay (iE ak rfl (af (lR ?_)))))));refine ag ak .z4 (s_i (fF ak rfl (aa aB rfl (lS (kb ?_)))));refine jd (fun h2=>?_) (fun h2=>?_)
  ·
   refine ay (qV (s_r (bc (aa e8 rfl (fS (aa aE rfl (oK ?_)))))));refine aa eu rfl (fA (fA (jO (hZ (af (mr ?_))))));refine⟨_,none,none,some (-1),.inl ⟨_,rfl,rfl⟩,by simp only[cK];exact fj3 (Y0 X0 (.k 100000)) [Y0 X1 (.k 128),Y0 X2 X1,Y0 X0 X2] rfl hw hq2 hR,.none,.none,.int (-1) (by decide) (by decide),by decide,?_⟩;have hq3:(w:Int)<(q:Int)+1:=by simpa using h2
   have f3:w+1-q=0+1:=nAs (iOm (fi3 (Y0 X0 (.i (.k 0))) [Y1 X1 (.i X2),Y2 (.a X0 X2) (.i X1)] rfl (dtr h2) (iOj (sac (w+1) q (iOm (fi2 (Y0 X0 (.i X1)) [Y0 X0 X1] rfl (iOl hq2))))))) (iOm (fi3 (Y0 (.i (.k 0)) X0) [Y0 X1 X2,Y0 (.i X2) (.a X0 X1)] rfl (iOl hq2) (iOl (lsa (w+1) q))));have hh:fl e (w-(q-1))+2^(w-q)≤e:=by rw[dq]at h1;simpa using h1
   rw[f3,pi hh]at eL;rw[f3,pk hh]at eR;rw[oM];rw[←eL,←eR]at h;rw[show(fl e (w-(q-1)),q)::cQ e w (q+1) 0=[(fl e (w-(q-1)),q)]from rfl]at h;rw[show R++cA e w (q+1) 0=R from List.append_nil _]at h;exact h
  ·
   have hq9:¬(w:Int)<(q:Int)+1:=by simpa using h2
   refine k8 (aa bN rfl (ag cJ .z8 (s_a (cC bN rfl (am (af (cC aB rfl ?_)))))));refine aa ak rfl (bu ?_);refine mq (fi2 (Y0 (.k 0) (.s X0 (.i X1))) [Y0 (.i X1) X0] rfl (Int.not_lt.mp hq9)) (fi2 (Y0 (.s X0 (.i X1)) (.k 1000000)) [Y0 X0 (.k 128),Y0 (.k 0) X1] rfl (iOl hw) (iNn q)) (by decide) ?_;refine dQ (ag bM .z9 (ae ?_));have hq3:¬(w:Int)<(q:Int)+1:=by simpa using h2
   have f2:((w:Int)-((q:Int)+1)).toNat=w-(q+1):=m9 w q;have f3:w+1-q=(w+1-(q+1))+1:=n9 (by exact fj2 (Y1 X0 (.i X1)) [Y0 X0 X1] rfl hq2);have hh:fl e (w-(q-1))+2^(w-q)≤e:=by rw[dq]at h1;simpa using h1
   have f1:=Bk (by exact fj2 (Y1 (.k 0) X0) [Y0 (.i X1) X0] rfl hq1) hq2 hh;rw[f3,pi hh]at eL;rw[f3,pk hh]at eR;exact⟨w+1-(q+1),by lia,sQ.at (.mk (q+1) (L++[(fl e (w-(q-1)),q)]) R _ rfl (by lia) (by lia) (by rw[lAp];show _+1≤_;lia) (by lia) (by rw[←eL];simp) eR) (by rw[f1,f2];rfl)⟩
 ·
  refine s_e (cy eu rfl (bo rfl (bH da aD (bc (aa bM rfl (aa ak rfl (aa fh rfl ?_)))))));refine bL (iJ M (dd hd rfl) (FK oke (fj2 (Y1 (.k 0) X0) [Y0 (.i X1) X0] rfl hq1) hq2)) ?_ dw;refine bw rfl (mG m R (fl e (w-(q-1))+2^(w-q),q)).symm (by rw[cK];exact fj3 (Y0 X0 (.k 100000)) [Y0 X1 (.k 128),Y0 X2 X1,Y0 X0 X2] rfl hw hq2 hR) ?_;refine s_a (aa cJ rfl (ag bN .z10 (ae (ay (iE ak rfl (af (lR ?_)))))));refine ag ak .z4 (s_i (fF ak rfl (aa aB rfl (lS (kb ?_)))));refine jd (fun h3=>?_) (fun h3=>?_)
  ·
   refine ay (qV (s_r (bc (aa e8 rfl (fS (aa aE rfl (oK ?_)))))));refine aa eu rfl (fA (fA (jO (hZ (af (mr ?_))))));refine⟨_,none,none,some (-1),.inl ⟨_,rfl,rfl⟩,by rw[cK,lAp];show _+1≤_;exact fj3 (Y0 (.i X0) (.k 100000)) [Y0 X1 (.k 128),Y0 X2 X1,Y0 X0 X2] rfl hw hq2 hR,.none,.none,.int (-1) (by decide) (by decide),by decide,?_⟩;have hq3:(w:Int)<(q:Int)+1:=by simpa using h3
   have f3:w+1-q=0+1:=nAs (iOm (fi3 (Y0 X0 (.i (.k 0))) [Y1 X1 (.i X2),Y2 (.a X0 X2) (.i X1)] rfl (dtr h3) (iOj (sac (w+1) q (iOm (fi2 (Y0 X0 (.i X1)) [Y0 X0 X1] rfl (iOl hq2))))))) (iOm (fi3 (Y0 (.i (.k 0)) X0) [Y0 X1 X2,Y0 (.i X2) (.a X0 X1)] rfl (iOl hq2) (iOl (lsa (w+1) q))));have hh:¬fl e (w-(q-1))+2^(w-q)≤e:=by rw[dq]at h1;simpa using h1
   rw[f3,pj hh]at eL;rw[f3,ma hh]at eR;rw[oM];rw[←eL,←eR]at h;rw[show(fl e (w-(q-1))+2^(w-q),q)::cA e w (q+1) 0=[(fl e (w-(q-1))+2^(w-q),q)]from rfl]at h;rw[show L++cQ e w (q+1) 0=L from List.append_nil _]at h;exact h
  ·
   have hq9:¬(w:Int)<(q:Int)+1:=by simpa using h3
   refine k8 (aa bN rfl (ag cJ .z8 (s_a (cC bN rfl (am (af (cC aB rfl ?_)))))));refine aa ak rfl (bu ?_);refine mq (fi2 (Y0 (.k 0) (.s X0 (.i X1))) [Y0 (.i X1) X0] rfl (Int.not_lt.mp hq9)) (fi2 (Y0 (.s X0 (.i X1)) (.k 1000000)) [Y0 X0 (.k 128),Y0 (.k 0) X1] rfl (iOl hw) (iNn q)) (by decide) ?_;refine dQ (ag bM .z9 (ae ?_));have hq3:¬(w:Int)<(q:Int)+1:=by simpa using h3
   have f2:((w:Int)-((q:Int)+1)).toNat=w-(q+1):=m9 w q;have f3:w+1-q=(w+1-(q+1))+1:=n9 (by exact fj2 (Y1 X0 (.i X1)) [Y0 X0 X1] rfl hq2);have hh:¬fl e (w-(q-1))+2^(w-q)≤e:=by rw[dq]at h1;simpa using h1
   have f1:=vf (by exact fj2 (Y1 (.k 0) X0) [Y0 (.i X1) X0] rfl hq1) hq2 hh;rw[f3,pj hh]at eL;rw[f3,ma hh]at eR;exact⟨w+1-(q+1),by lia,sQ.at (.mk (q+1) L (R++[(fl e (w-(q-1))+2^(w-q),q)]) _ rfl (by lia) (by lia) (by lia) (by rw[lAp];show _+1≤_;lia) eL (by rw[←eR];simp)) (by rw[f1,f2];rfl)⟩
theorem jA(m:Addr)(l:List (Int×Nat)):nobs (bI m l)=true:=lP fun v hv=>by
 obtain⟨x,_,rfl⟩:=lMm hv;rfl
theorem HY(h:nobs l=true):nobs l.reverse=true:=lP fun v hv=>GY h v (List.mem_reverse.mp hv)
theorem Bl(M:aA S m w ver)(hd:d<900)(ok:cF w v p)(oke:bS w e)(hpw:p+1≤w)(hin:fl e (w-p)=fl v (w-p)):
  PFn S d (.ref nF) [aY m v p,aY m e w] [] (·= .tup [.list (bI m (cQ e w (p+1) (w-p))),.list [aY m e w],.list (bI m (cA e w (p+1) (w-p))).reverse]):=
 PFn.sealed (Lk M hd ok oke hpw hin ⟨_,.tup (.cons (.list rfl (gJ.nobs (jA m _))) (.cons (.nob rfl) (.cons (.list rfl (gJ.nobs (HY (jA m _)))) .nil))),rfl⟩)
end
noncomputable def bB(v1 v2:Int)(w:Nat):List (Int×Nat):=
 let P:=cP v1 v2 w w;let P':=if fl v2 (w-P)<v1 then P+1 else P
 (if fl v2 (w-P)<v1 then(cA (v1-1) w (P+2) (w-(P+1))).reverse else [])++
  (if v2<fl v2 (w-P')+(2^(w-P')-1)then cQ (v2+1) w (P'+1) (w-P')else [(fl v2 (w-P'),P')])
theorem lG(a b:Int)(w:Nat):∀p,(cP a b w p=0∨¬a<fl b (w-cP a b w p))∧(cP a b w p<p→a<fl b (w-(cP a b w p+1)))
 |0=>⟨.inl rfl,fun h=>absurd h (Nat.lt_irrefl _)⟩
 |p+1=>by
  unfold cP
  by_cases h:a<fl b (w-(p+1))
  ·rw[if_pos h];haveI h1:=(lG a b w p).1;haveI h2:=(lG a b w p).2;refine⟨h1,fun q=>?_⟩
   by_cases e:cP a b w p<p
   ·exact h2 e
   ·have:=sP a b w p;haveI e':cP a b w p=p:=nAs (fj2 (Y0 X0 X1) [Y1 X0 (.i X1)] rfl q) ((nNl e));rw[e'];exact h
  ·rw[if_neg h];exact⟨.inr h,fun q=>absurd q (Nat.lt_irrefl _)⟩
theorem ru(h1:fl b k≤e)(h2:e<fl b k+2^k):fl e k=fl b k:=by
 haveI h4:=aV k;rw[ev b]at *;rw[ev e]
 congr 1
 refine iAs ?_ ?_
 ·refine Int.le_of_lt_add_one ((Int.ediv_lt_iff_lt_mul h4).mpr ?_);rw[Int.add_mul,Int.mul_comm];exact fi3 (Y1 X0 (.a X1 (.m 1 X2))) [Y1 X0 (.a X1 X2)] rfl h2
 ·refine(Int.le_ediv_iff_mul_le h4).mpr ?_;rw[Int.mul_comm];exact h1
theorem Qv(h0:0≤b)(h:b<2^w):fl b w=0:=by
 rw[ev,Int.ediv_eq_zero_of_lt h0 h,Int.mul_zero]
structure mc(v1 v2:Int)(w P:Nat):Prop where
 le:P≤w
 lo:fl v2 (w-P)≤v1
 hi:v2<fl v2 (w-P)+2^(w-P)
 half:P<w→v1<fl v2 (w-(P+1))
theorem qD(h0:0≤v1)(h12:v1≤v2)(h:v2<2^w):mc v1 v2 w (cP v1 v2 w w):=by
 haveI h1:=(lG v1 v2 w w).1;haveI h2:=(lG v1 v2 w w).2;refine⟨sP ..,?_,rt _ _,h2⟩;rcases h1 with h1|h1
 ·rw[h1,Nat.sub_zero,Qv (Int.le_trans (by assumption) (by assumption)) h];exact h0
 ·exact(Int.not_lt.mp h1)
theorem mc.low(H:mc v1 v2 w P)(h:fl v2 (w-P)<v1)(h12:v1≤v2):P+1≤w∧fl (v1-1) (w-P)=fl v2 (w-P)∧¬fl (v1-1) (w-(P+1-1))+2^(w-(P+1))≤v1-1∧fl (v1-1) (w-(P+1-1))+2^(w-(P+1))=fl v2 (w-(P+1)):=by
 have hw:P+1≤w:=by
  have:=H.le;refine Nat.lt_of_le_of_ne H.le fun e=>?_
  rw[e,Nat.sub_self,vc]at h;exact fi2 (0,3,.k 0,.k 0) [Y1 X0 X1,Y0 X1 X0] rfl h h12
 haveI h1:fl (v1-1) (w-P)=fl v2 (w-P):=ru (fi2 (Y0 X0 (.s X1 (.k 1))) [Y1 X0 X1] rfl h) (by have:=H.hi;exact fi4 (Y1 (.s X0 (.k 1)) (.a X1 X2)) [Y0 X0 X3,Y1 X3 (.a X1 X2)] rfl h12 this);haveI hh:=H.half (by assumption);haveI e1:w-P=(w-(P+1))+1:=nAs (fj4 (Y0 X0 (.i X1)) [Y0 X2 (.a X1 (.i X3)),Y2 (.a X0 X3) X2] rfl (lsa w (P+1)) (sac w P (fj2 (Y0 X0 X1) [Y0 (.i X0) X1] rfl hw))) (fj4 (Y0 (.i X0) X1) [Y0 X2 (.a X1 X3),Y2 (.a X0 (.i X3)) X2] rfl (lsa w P) (sac w (P+1) hw));haveI h2:fl v2 (w-P)+2^(w-(P+1))=fl v2 (w-(P+1)):=by
  by_cases q:fl v2 ((w-(P+1))+1)+2^(w-(P+1))≤v2
  ·rw[e1];exact(uj q).symm
  ·have:=uk q;rw[←e1]at this;lia
 haveI e2:P+1-1=P:=rfl;rw[e2,h1];exact⟨hw,rfl,fun hz=>fi4 (0,3,.k 0,.k 0) [Y1 X0 X1,Y2 X1 (.a X2 X3),Y0 (.a X2 X3) (.s X0 (.k 1))] rfl hh h2.symm hz,h2⟩
theorem mH(hQ:Q≤w)(h:v2<fl v2 (w-Q)+(2^(w-Q)-1)):Q+1≤w∧fl (v2+1) (w-Q)=fl v2 (w-Q):=by
 refine⟨?_,ru (by have:=lF v2 (w-Q);exact fi2 (Y0 X0 (.i X1)) [Y0 X0 X1] rfl this) (fi3 (Y1 (.i X0) (.a X1 X2)) [Y1 X0 (.a X1 (.s X2 (.k 1)))] rfl h)⟩;refine Nat.lt_of_le_of_ne hQ fun e=>?_
 rw[e,Nat.sub_self,vc]at h;simp at h
theorem mI(e:Int)(w:Nat):∀n q,(cQ e w q n).length≤n
 |0,_=>nRe _
 |n+1,q=>by
  have:=mI e w n (q+1);rw[vd];rw[lAp];split<;>simp<;>lia
theorem kP(e:Int)(w:Nat):∀n q,(cA e w q n).length≤n
 |0,_=>nRe _
 |n+1,q=>by
  have:=kP e w n (q+1);rw[ve];rw[lAp];split<;>simp<;>lia
theorem fl_self(v:Int)(k:Nat):fl v k-fl v k%2^k=fl v k:=rq (nRe _) v
section
variable {S:Sta} {d:Nat}
theorem ku(m:Addr)(a b:List (Int×Nat)):bI m (a++b)=bI m a++bI m b:=by simp[bI]
theorem qE(m:Addr)(a:List (Int×Nat)):bI m a.reverse=(bI m a).reverse:=by simp[bI]
theorem yL(h0:0≤v2)(ok:bS w v1)(h:fl v2 k<v1):bS w (v1-1):=⟨by have:=iz h0 k;exact fi2 (Y0 (.k 0) (.s X0 (.k 1))) [Y1 X1 X0,Y0 (.k 0) X1] rfl h this,by have:=ok.hi;exact fi2 (Y1 (.s X0 (.k 1)) X1) [Y1 X0 X1] rfl this⟩
theorem pp(ok:bS w v2)(h:v2<fl v2 (w-Q)+(2^(w-Q)-1)):bS w (v2+1):=⟨by have:=ok.lo;exact fi1 (Y0 (.k 0) (.i X0)) [Y0 (.k 0) X0] rfl this,by have:=yK (k:=w-Q) ok.hi (nSl ..);exact fi4 (Y1 (.i X0) X1) [Y1 X0 (.a X2 (.s X3 (.k 1))),Y0 (.a X2 X3) X1] rfl h this⟩
theorem FL(H:mc v1 v2 w P)(h:fl v2 (w-P)<v1)(h12:v1≤v2):(bI m (cA (v1-1) w (P+1) (w-P))).reverse=(bI m (cA (v1-1) w (P+2) (w-(P+1)))).reverse++[aY m (fl v2 (w-(P+1))) ((P+1:Nat):Int)]:=by
 obtain⟨h1,h2,h3,h4⟩:=H.low h h12;haveI e:w-P=(w-(P+1))+1:=nAs (fj4 (Y0 X0 (.i X1)) [Y0 X2 (.a X1 (.i X3)),Y2 (.a X0 X3) X2] rfl (lsa w (P+1)) (sac w P (fj2 (Y0 X0 X1) [Y0 (.i X0) X1] rfl h1))) (fj4 (Y0 (.i X0) X1) [Y0 X2 (.a X1 X3),Y2 (.a X0 (.i X3)) X2] rfl (lsa w P) (sac w (P+1) h1));rw[e,ma h3,h4];simp[bI]
theorem yM(M:aA S m w ver)(hd:d<890)(ok1:bS w v1)(ok2:bS w v2)(hle:v1≤v2):PFn S d (.ref rl) [dj m v1,dj m v2] [] (·= .list (bI m (bB v1 v2 w))):=by
 haveI ho1:=gA ok1;haveI ho2:=gA ok2;haveI hw:=M.le;haveI H0:=qD ok1.lo hle ok2.hi;generalize hP:cP v1 v2 w w=P at H0;have H:mc v1 v2 w P:=H0;haveI oS:=ph ok2 H.le;refine PFn.sealed ?_;refine HM Dq ?_ (dd0 hd rfl);refine s_a (gu (fB ?_));refine lV .nil ?_;refine ag aX .z2 (s_a (bH eS aD (aa dp rfl ?_)));refine bL (vb M (dd hd rfl)) ?_ dw;refine ag dp .zero (s_a (bH eS aD (aa i5 rfl ?_)));refine bL (vb M (dd hd rfl)) ?_ dw;refine ag i5 .z1 (s_a (fS (av dp rfl ?_)));refine bA (.inr rfl) (PFn.ga (bX (by assumption) (dd (k:=2) hd rfl) (by assumption)) ?_);rw[dq];refine av i5 rfl ?_;refine dm (.inr rfl) (PFn.ga (dH (by assumption) (dd (k:=2) hd rfl) (by assumption)) ?_);rw[mF];refine fB (ag dG .z3 (s_a (bH nJ t8 (fS (aa dp rfl (aa i5 rfl ?_))))));refine bL (Lj M (dd hd rfl) ok1 ok2 hle) ?_ KT;rw[hP];refine ag bJ .z4 (s_a (cN (av dp rfl ?_)));refine cD (.inr rfl) (aA.width (by assumption) ?_);refine ag i9 .z5 (s_i (bz (av bJ rfl ?_)));refine bA (.inr rfl) (PFn.ga (bX (by assumption) (dd (k:=2) hd rfl) (by assumption)) ?_);rw[fl_self];refine d0 dG rfl (af ?_);refine dD (.inr rfl) (by decide) rfl (blE rfl) ?_;refine uH (kb ?_);refine jd (fun h1=>?_) (fun h1=>?_)
 ·
  have hb:fl v2 (w-P)<v1:=by simpa using h1
  have lw:=H.low hb hle;refine s_a (bH eS aD (bc (am (d0 dG rfl (af ?_)))));refine dD (.inr rfl) (by decide) rfl (blE rfl) ?_;refine af (bu (aa i9 rfl (av dp rfl ?_)));refine bx (.inr rfl) (PFn.ga (bO (by assumption) (dd (k:=2) hd rfl) (by assumption)) ?_);refine bL (iJ M (dd hd rfl) (gA (yL ok2.lo ok1 hb))) ?_ dw;refine ag eE .z6 (s_a (ie (bH gd jg (aa bJ rfl (aa eE rfl ?_)))));refine xt (HX M (dd hd rfl) (ph ok2 H.le) (yL ok2.lo ok1 hb) lw.1 (lw.2.1.trans (rq (nRe _) v2).symm) ?_) u8;rw[FL H hb hle];refine af (eX (by decide) rfl (blE rfl) ?_);refine ag aX .z2 (s_a (cy aX rfl (Tr rfl ?_)));refine Tj rfl List.getLast?_concat (by rw[lAp,List.length_reverse,cK];have:=kP (v1-1) w (w-(P+1)) (P+2);show _+1≤_;exact fj3 (Y0 (.i X0) (.k 100000)) [Y0 X1 (.k 128),Y0 X0 X2,Y0 X2 X1] rfl hw this (nSl w (P+1))) ?_;rw[List.dropLast_concat];haveI oS1:=ph ok2 lw.1;refine ag bJ .z4 (cX (bz (av bJ rfl ?_)));refine dm (.inr rfl) (PFn.ga (dH (by assumption) (dd (k:=2) hd rfl) (by assumption)) ?_);rw[fl_self];refine d0 dG rfl (af ?_);refine dD (.inr rfl) (by decide) rfl (blE rfl) ?_;refine lS (kb ?_);refine jd (fun h2=>?_) (fun h2=>?_)
  ·
   have hl:v2<fl v2 (w-(P+1))+(2^(w-(P+1))-1):=by simpa using h2
   refine s_a (bH eS aD (bc (am (d0 dG rfl (af ?_)))));refine dD (.inr rfl) (by decide) rfl (blE rfl) ?_;refine af (dQ (aa i9 rfl (av dp rfl ?_)));refine bx (.inr rfl) (PFn.ga (bO (by assumption) (dd (k:=2) hd rfl) (by assumption)) ?_);refine bL (iJ M (dd hd rfl) (gA (pp (Q:=P+1) ok2 hl))) ?_ dw;refine ag eE .z6 (ay (iE aX rfl (ie (bH gd jg (aa bJ rfl (aa eE rfl ?_))))));refine bL (Bl M (dd hd rfl) (ph ok2 lw.1) (pp (Q:=P+1) ok2 hl) (mH lw.1 hl).1 ((mH lw.1 hl).2.trans (rq (nRe _) v2).symm)) ?_ u8;refine af (eX (by decide) rfl (blE rfl) ?_);refine Bb rfl (.inr rfl) (by rw[List.length_reverse,cK,cK];have:=kP (v1-1) w (w-(P+1)) (P+2);have:=mI (v2+1) w (w-(P+1)) (P+1+1);lia) ?_;refine ag aX .z2 (je (aa aX rfl ?_));have eC:bB v1 v2 w=(cA (v1-1) w (P+2) (w-(P+1))).reverse++cQ (v2+1) w (P+1+1) (w-(P+1)):=by
    unfold bB;simp only[hP];rw[if_pos hb,if_pos hb,if_pos hl]
   have eN:bI m (bB v1 v2 w)=(bI m (cA (v1-1) w (P+2) (w-(P+1)))).reverse++bI m (cQ (v2+1) w (P+1+1) (w-(P+1))):=by rw[eC,ku];(rw[qE];done)
   refine⟨.list (bI m (bB v1 v2 w)),?_,rfl⟩;rw[eN];exact .list (i:=3) rfl (gJ.nobs (by rw[←eN];exact jA m _))
  ·
   have hl:¬v2<fl v2 (w-(P+1))+(2^(w-(P+1))-1):=by simpa using h2
   refine s_e (cy aX rfl (bo rfl (aa bJ rfl ?_)));refine lW rfl (by rw[List.length_reverse,cK];have:=kP (v1-1) w (w-(P+1)) (P+2);exact fj3 (Y0 X0 (.k 100000)) [Y0 X1 (.k 128),Y0 X0 X2,Y0 X2 X1] rfl hw this (nSl w (P+1))) ?_;refine je (aa aX rfl ?_);have eC:bB v1 v2 w=(cA (v1-1) w (P+2) (w-(P+1))).reverse++[(fl v2 (w-(P+1)),P+1)]:=by
    unfold bB;simp only[hP];rw[if_pos hb,if_pos hb,if_neg hl]
   have eN:bI m (bB v1 v2 w)=(bI m (cA (v1-1) w (P+2) (w-(P+1)))).reverse++[aY m (fl v2 (w-(P+1))) ((P+1:Nat):Int)]:=by rw[eC,ku];(rw[qE];rfl)
   refine⟨.list (bI m (bB v1 v2 w)),?_,rfl⟩;rw[eN];exact .list (i:=3) rfl (gJ.nobs (by rw[←eN];exact jA m _))
 ·
  have hb:¬fl v2 (w-P)<v1:=by simpa using h1
  refine cX (bz (av bJ rfl ?_));refine dm (.inr rfl) (PFn.ga (dH (by assumption) (dd (k:=2) hd rfl) (by assumption)) ?_);rw[fl_self];refine d0 dG rfl (af ?_);refine dD (.inr rfl) (by decide) rfl (blE rfl) ?_;refine lS (kb ?_);refine jd (fun h3=>?_) (fun h3=>?_)
  ·
   have hl:v2<fl v2 (w-(P))+(2^(w-(P))-1):=by simpa using h3
   refine s_a (bH eS aD (bc (am (d0 dG rfl (af ?_)))));refine dD (.inr rfl) (by decide) rfl (blE rfl) ?_;refine af (dQ (aa i9 rfl (av dp rfl ?_)));refine bx (.inr rfl) (PFn.ga (bO (by assumption) (dd (k:=2) hd rfl) (by assumption)) ?_);refine bL (iJ M (dd hd rfl) (gA (pp (Q:=P) ok2 hl))) ?_ dw;refine ag eE .z6 (ay (iE aX rfl (ie (bH gd jg (aa bJ rfl (aa eE rfl ?_))))));refine bL (Bl M (dd hd rfl) (ph ok2 H.le) (pp (Q:=P) ok2 hl) (mH H.le hl).1 ((mH H.le hl).2.trans (rq (nRe _) v2).symm)) ?_ u8;refine af (eX (by decide) rfl (blE rfl) ?_);refine Bb rfl (.inr rfl) (by rw[cK];have:=mI (v2+1) w (w-P) (P+1);show 0+_≤_;exact fj3 (Y0 (.a (.k 0) X0) (.k 100000)) [Y0 X1 (.k 128),Y0 X0 X2,Y0 X2 X1] rfl hw this (nSl w P)) ?_;refine ag aX .z2 (je (aa aX rfl ?_));have eC:bB v1 v2 w=[]++cQ (v2+1) w (P+1) (w-(P)):=by
    unfold bB;simp only[hP];rw[if_neg hb,if_neg hb,if_pos hl]
   have eN:bI m (bB v1 v2 w)=[]++bI m (cQ (v2+1) w (P+1) (w-(P))):=by rw[eC,ku];rfl
   refine⟨.list (bI m (bB v1 v2 w)),?_,rfl⟩;rw[eN];exact .list (i:=0) rfl (gJ.nobs (by rw[←eN];exact jA m _))
  ·
   have hl:¬v2<fl v2 (w-(P))+(2^(w-(P))-1):=by simpa using h3
   refine s_e (cy aX rfl (bo rfl (aa bJ rfl ?_)));refine lW rfl (by decide) ?_;refine je (aa aX rfl ?_);haveI eC:bB v1 v2 w=[]++[(fl v2 (w-(P)),P)]:=by
    unfold bB;simp only[hP];rw[if_neg hb,if_neg hb,if_neg hl]
   haveI eN:bI m (bB v1 v2 w)=[]++[aY m (fl v2 (w-(P))) ((P:Nat):Int)]:=by rw[eC,ku];rfl
   refine⟨.list (bI m (bB v1 v2 w)),?_,rfl⟩;rw[eN];exact .list (i:=0) rfl (gJ.nobs (by rw[←eN];exact jA m _))
end
noncomputable def kQ(a:Int):Int:=Builtin.bitAnd a (-a)
theorem Dy(h:0<a):1≤kQ a∧kQ a≤a:=by
 unfold kQ;rw[bitAnd_pn (iLl (by assumption)) (by exact fun hz=>fi1 (0,3,.k 0,.k 0) [Y1 (.k 0) X0,Y0 (.k 0) (.g X0)] rfl h hz)];have e:(Builtin.bitNot (-a)).toNat=a.toNat-1:=by obtain⟨n,rfl⟩:=Int.eq_ofNat_of_zero_le (iLl h);unfold Builtin.bitNot;rw[Int.neg_neg,Int.toNat_natCast];exact uz n
 rw[e];have:a.toNat&&&(a.toNat-1)≤a.toNat-1:=Nat.and_le_right;exact⟨fi4 (Y0 (.k 1) (.s X0 X1)) [Y0 X1 X2,Y2 (.i X2) X3,Y2 X3 X0] rfl (iOl this) (iOj (sac a.toNat 1 (iOm (fi2 (Y0 (.k 1) X0) [Y1 (.k 0) X1,Y0 X1 X0] rfl h (iSt a))))) (tnn a (fi1 (Y0 (.k 0) X0) [Y1 (.k 0) X0] rfl h)),fi2 (Y0 (.s X0 X1) X0) [Y0 (.k 0) X1] rfl (iNn (a.toNat&&&a.toNat-1))⟩
noncomputable def dX(n:Int):Nat:=Builtin.Int.intBits n-1
theorem pq(h:0<n):Builtin.Int.intBits n=n.natAbs.log2+1:=by
 unfold Builtin.Int.intBits;rw[beq_eq_false_iff_ne.mpr (by exact fun hz=>fi1 (0,3,.k 0,.k 0) [Y1 (.k 0) X0,Y2 X0 (.k 0)] rfl h hz)];rfl
theorem vN(h:0<n):(2:Int)^dX n≤n:=by
 unfold dX;rw[pq h,Nat.add_sub_cancel];have:=Nat.log2_self_le (n:=n.natAbs) (by lia);have c:=fy n.natAbs.log2;lia
noncomputable def bsz(low high:Int):Int:=if low=0 then 2^dX (high-low+1)else(if kQ low<2^dX (high-low+1)then kQ low else 2^dX (high-low+1))
theorem nT(h0:0≤low)(h:low≤high):1≤bsz low high∧bsz low high≤high-low+1:=by
 have h1:=aV (dX (high-low+1));have h2:=vN (n:=high-low+1) (fi2 (Y1 (.k 0) (.i (.s X0 X1))) [Y0 X1 X0] rfl h);unfold bsz;split
 ·exact⟨fi1 (Y0 (.k 1) X0) [Y1 (.k 0) X0] rfl h1,h2⟩
 ·have:=Dy (a:=low) (by lia);split<;>lia
noncomputable def iK(W:Int)(high:Int):Nat→Int→List (Int×Int)
 |0,_=>[]
 |n+1,low=>if low≤high then(low,W+1-Builtin.Int.intBits (bsz low high))::iK W high n (low+bsz low high)else []
theorem Bm(h:0<n):1≤(Builtin.Int.intBits n:Int):=by rw[pq h];exact fi1 (Y0 (.k 1) (.i X0)) [Y0 (.k 0) X0] rfl (iNn n.natAbs.log2)
theorem Ll {n:Int}{k:Nat}(h0:0≤n)(h:n<2^k):(Builtin.Int.intBits n:Int)≤k:=by
 have:Builtin.Int.intBits n≤k:=PySem.intBits_le_iff.mpr (by have:=fy k;lia);exact fi2 (Y0 X0 X1) [Y0 X0 X1] rfl (iOl this)
theorem Bn(n:Int):(1:Int)*2^((Builtin.Int.intBits n:Int)-1).toNat=2^dX n:=by
 unfold dX;rw[Int.one_mul];congr 1;exact uz _
theorem HZ {lo high:Int}(h:lo=0):(1:Int)*2^((Builtin.Int.intBits (high-lo+1):Int)-1).toNat=bsz lo high:=by
 rw[Bn];unfold bsz;rw[if_pos h]
theorem Lm {lo high:Int}(h:lo≠0):(if Builtin.bitAnd lo (-lo)<(1:Int)*2^((Builtin.Int.intBits (high-lo+1):Int)-1).toNat then Builtin.bitAnd lo (-lo)else(1:Int)*2^((Builtin.Int.intBits (high-lo+1):Int)-1).toNat)=bsz lo high:=by
 rw[Bn];unfold bsz kQ;rw[if_neg h]
theorem jP {W high lo:Int}{n:Nat}(h:lo≤high):iK W high (n+1) lo=(lo,W+1-Builtin.Int.intBits (bsz lo high))::iK W high n (lo+bsz lo high):=by
 show(if _ then _ else _)=_;rw[if_pos h]
theorem gE {W high lo:Int}{n:Nat}(h:¬lo≤high):iK W high n lo=[]:=by
 cases n with
 |zero=>rfl
 |succ n=>show(if _ then _ else _)=_;rw[if_neg h]
theorem qF {W high:Int}:∀{n k:Nat} {lo:Int},0≤lo→(high+1-lo).toNat≤n→n≤k→iK W high n lo=iK W high k lo
 |0,k,lo,h0,h,_=>by rw[gE (n:=0) (by exact fun hz=>fi3 (0,3,.k 0,.k 0) [Y0 X0 (.k 0),Y0 X1 X2,Y0 (.s (.i X2) X1) X0] rfl (iOl h) hz (iSt (high+1-lo))),gE (by exact fun hz=>fi3 (0,3,.k 0,.k 0) [Y0 X0 (.k 0),Y0 X1 X2,Y0 (.s (.i X2) X1) X0] rfl (iOl h) hz (iSt (high+1-lo)))]
 |n+1,k,lo,h0,h,hk=>by
  by_cases q:lo≤high
  ·obtain⟨k',rfl⟩:∃k',k=k'+1:=⟨k-1,nAs ((lsa (k) (1))) (fj2 (Y0 (.i X0) X1) [Y2 (.i X0) X1] rfl (sac k 1 (fj2 (Y0 (.k 1) X0) [Y0 (.i X1) X0] rfl hk)))⟩;have:=nT h0 q;rw[jP q,jP q,qF (n:=n) (k:=k') (by exact fi2 (Y0 (.k 0) (.a X0 X1)) [Y0 (.k 0) X0,Y0 (.k 1) X1] rfl h0 this.1) (by rw[←Int.sub_sub];exact xd h this.1) (by exact fj2 (Y0 X0 X1) [Y0 (.i X0) (.i X1)] rfl hk)]
  ·rw[gE q,gE q]
noncomputable def cx(W low high:Int):List (Int×Int):=iK W high (high+1-low).toNat low
theorem md {W low high:Int}(h0:0≤low)(h:low≤high):cx W low high=(low,W+1-Builtin.Int.intBits (bsz low high))::cx W (low+bsz low high) high:=by
 unfold cx;have:=nT h0 h;obtain⟨k,e⟩:∃k,(high+1-low).toNat=k+1:=⟨(high+1-low).toNat-1,DY (fi2 (Y1 (.k 0) (.s (.i X0) X1)) [Y0 X1 X0] rfl h)⟩;rw[e,jP h]
 congr 1
 exact(qF (by exact fi2 (Y0 (.k 0) (.a X0 X1)) [Y0 (.k 0) X0,Y0 (.k 1) X1] rfl h0 this.1) (nRe _) (by rw[←Int.sub_sub];exact xd (Nat.le_of_eq e) this.1)).symm
theorem jQ(h:¬low≤high):cx W low high=[]:=gE h
section
variable {S:Sta} {d:Nat}
theorem AO(M:aA S m w ver)(hd:d<880)(ok1:bS w a)(ok2:bS w b)(hab:a≤b):PFn S d (.ref jG) [qq m a b] [] (·= .list (bI m (bB a b w))):=by
 refine AI wC ?_ (dd0 hd rfl);refine s_r (bH kI kE (av n_rngCidrs_self rfl (jJ (.inr rfl) (av n_rngCidrs_self rfl (oX (.inr rfl) ?_)))));refine bL (yM M (dd hd rfl) ok1 ok2 hab) ?_ yD;exact⟨rfl,rfl⟩
structure fC where
 m:Addr
 w:Nat
 ver:Int
 v:Int
 p:Nat
noncomputable def fC.val(x:fC):V:=aY x.m x.v x.p
structure fC.Ok(S:Sta)(x:fC):Prop where
 m:aA S x.m x.w x.ver
 n:cF x.w x.v x.p
noncomputable def mJ(x:fC):V:= .tup [.int x.ver,.int (fl x.v (x.w-x.p)),.int x.p]
theorem qG(f:α→β)(xs:List α):xs.filterMap (fun x=>some (f x))=xs.map f:=by
 induction xs with
 |nil=>rfl
 |cons x r ih=>rw[List.filterMap_cons,List.map_cons,ih]
theorem TQ {high lo:Int}(h:high<2^128)(h0:0≤lo):high-lo+1<2^129:=by
 have:(2:Int)^129=2*2^128:=by decide
 lia
noncomputable def sR(kind:Int)(x:Int×Int):V:= .tup [.int kind,.int x.1,.int x.2]
theorem vO(kind:Int)(l:List (Int×Int))(x:Int×Int):(l++[x]).map (sR kind)=l.map (sR kind)++[sR kind x]:=by simp
noncomputable def w6(k W:Int):Prop:=(k=4∧W=32)∨(k=6∧W=128)
inductive BI(k W low high:Int):Nat→St→Prop
 |mk {n:Nat} (lo:Int) (L:List (Int×Int)) (sz:Option V) (hn:n=(high+1-lo).toNat) (hlo:0≤lo) (eL:L++cx W lo high=cx W low high):BI k W low high n ⟨[some (.int k),some (.int lo),some (.int high),some (.obj 0),sz,none],[.list (L.map (sR k))]⟩
theorem kw4(h:w6 k W)(q:(k==4)=true):(32:Int)=W:=by
 rcases h with ⟨rfl,rfl⟩|⟨rfl,rfl⟩
 ·rfl
 ·cases q
theorem kw6(h:w6 k W)(q:(k==4)=false):(128:Int)=W:=by
 rcases h with ⟨rfl,rfl⟩|⟨rfl,rfl⟩
 ·cases q
 ·rfl
theorem FM(hk:w6 k W)(hd:d<880)(h0:0≤low)(hh:high<2^128)(hz:(cx W low high).length≤100000):PFn S d (.ref oQ) [.int k,.int low,.int high] [] (·= .list ((cx W low high).map (sR k))):=by
 refine PFn.sealed ?_;refine Fz AM ?_ (dd0 hd rfl);refine s_a (gu (fB ?_));refine lV .nil ?_;refine ag iI .z3 (ay ?_);refine nv (BI k W low high) (high+1-low).toNat (.mk low [] none rfl h0 rfl) ?_
 rintro _ _ ⟨lo,L,sz,rfl,hlo,eL⟩
 refine fF cE rfl (aa lc rfl (hY (kb ?_)));refine PC (fun h1=>?_) (fun h1=>?_)
 ·
  have hle:lo≤high:=by simpa using h1
  have hb1:=Bm (n:=high-lo+1) (fi2 (Y1 (.k 0) (.i (.s X0 X1))) [Y0 X1 X0] rfl (dtr h1));have hb2:=Ll (n:=high-lo+1) (k:=129) (fi2 (Y0 (.k 0) (.i (.s X0 X1))) [Y0 X1 X0] rfl (dtr h1)) (TQ hh hlo);refine s_a (am (af (am (qj (am (cC lc rfl (aa cE rfl ?_)))))));refine bu (af (dQ (tF (tD (af (bu ?_))))));refine j1 (fi1 (Y0 (.k 0) (.s X0 (.k 1))) [Y0 (.k 1) X0] rfl hb1) (fi1 (Y0 (.s X0 (.k 1)) (.k 1000000)) [Y0 X0 (.k 129)] rfl hb2) (by decide) ?_;refine ag eO .z4 (s_i (dR cE rfl (sg (kb ?_))));refine jd (fun h2=>?_) (fun h2=>?_)
  ·
   have hne:lo≠0:=by simpa using h2
   refine s_a (aQ yE ye (aa eO rfl (cC cE rfl (hZ (aa cE rfl (mr (cU ?_)))))));refine Ck (pv (congrArg V.int (Lm hne)) ?_);refine ag eO .z4 (ae (s_e (cy iI rfl (bo rfl (bc (aa g9 rfl (aa cE rfl ?_)))))));refine am (am ?_);refine o9 (w:= .int W) ?_ ?_
   ·
    refine jt (dR g9 rfl (el (kb ?_)));refine JG (fun q=>?_) (fun q=>?_)
    ·
     refine af ?_;exact⟨congrArg V.int (kw4 hk q),rfl⟩
    ·
     refine af ?_;exact⟨congrArg V.int (kw6 hk q),rfl⟩
   ·
    refine af (dQ (cy eO rfl (tF (tD (bu ?_)))));refine bw rfl (vO k L (lo,W+1-((Builtin.Int.intBits (bsz lo high):Nat):Int))).symm (by have h9:=congrArg List.length eL;rw[lAp]at h9;rw[lMa];exact fj3 (Y0 X0 (.k 100000)) [Y0 X1 (.k 100000),Y2 (.a X0 X2) X1] rfl hz h9) ?_;refine ay (iE cE rfl (aa eO rfl (lR (ag cE .z1 (ae ?_)))));have hp:=nT hlo hle;rw[md hlo hle]at eL;exact⟨(high+1-(lo+bsz lo high)).toNat,Int.ofNat_lt.mp (fi5 (Y1 X0 X1) [Y0 (.k 1) X2,Y0 (.s (.i X3) X4) X1,Y2 X0 (.s (.i X3) (.a X4 X2))] rfl hp.1 (iSt (high+1-lo)) (tnn (high+1-(lo+bsz lo high)) (fi3 (Y0 (.k 0) (.s (.i X0) (.a X1 X2))) [Y0 X2 (.i (.s X0 X1))] rfl hp.2))),.mk (lo+bsz lo high) (L++[((lo,W+1-((Builtin.Int.intBits (bsz lo high):Nat):Int)):Int×Int)]) _ rfl (fi2 (Y0 (.k 0) (.a X0 X1)) [Y0 (.k 0) X0,Y0 (.k 1) X1] rfl hlo hp.1) (by rw[←eL,List.append_assoc];rfl)⟩
  ·
   have q0:lo=0:=by simpa using h2
   rw[HZ (high:=high) q0];refine ae (s_e (cy iI rfl (bo rfl (bc (aa g9 rfl (aa cE rfl (am ?_)))))));refine am ?_;refine o9 (w:= .int W) ?_ ?_
   ·
    refine jt (dR g9 rfl (el (kb ?_)));refine JG (fun q=>?_) (fun q=>?_)
    ·
     refine af ?_;exact⟨congrArg V.int (kw4 hk q),rfl⟩
    ·
     refine af ?_;exact⟨congrArg V.int (kw6 hk q),rfl⟩
   ·
    refine af (dQ (cy eO rfl (tF (tD (bu ?_)))));refine bw rfl (vO k L (lo,W+1-((Builtin.Int.intBits (bsz lo high):Nat):Int))).symm (by have h9:=congrArg List.length eL;rw[lAp]at h9;rw[lMa];exact fj3 (Y0 X0 (.k 100000)) [Y0 X1 (.k 100000),Y2 (.a X0 X2) X1] rfl hz h9) ?_;refine ay (iE cE rfl (aa eO rfl (lR (ag cE .z1 (ae ?_)))));have hp:=nT hlo hle;rw[md hlo hle]at eL;exact⟨(high+1-(lo+bsz lo high)).toNat,Int.ofNat_lt.mp (fi5 (Y1 X0 X1) [Y0 (.k 1) X2,Y0 (.s (.i X3) X4) X1,Y2 X0 (.s (.i X3) (.a X4 X2))] rfl hp.1 (iSt (high+1-lo)) (tnn (high+1-(lo+bsz lo high)) (fi3 (Y0 (.k 0) (.s (.i X0) (.a X1 X2))) [Y0 X2 (.i (.s X0 X1))] rfl hp.2))),.mk (lo+bsz lo high) (L++[((lo,W+1-((Builtin.Int.intBits (bsz lo high):Nat):Int)):Int×Int)]) _ rfl (fi2 (Y0 (.k 0) (.a X0 X1)) [Y0 (.k 0) X0,Y0 (.k 1) X1] rfl hlo hp.1) (by rw[←eL,List.append_assoc];rfl)⟩
 ·
  refine je (aa iI rfl ?_);have hn:¬lo≤high:=by simpa using h1
  rw[jQ hn,List.append_nil]at eL;subst eL;exact⟨_,.list rfl (gJ.nobs (lP fun v hv=>by obtain⟨x,_,rfl⟩:=lMm hv;rfl)),rfl⟩
end
theorem Ln:(2^t*(2*m+1))&&&(2^t*(2*m+1)-1)=2^t*(2*m):=by
 have hp:0<2^t:=Nat.two_pow_pos t;have e:2^t*(2*m+1)-1=2^t*(2*m)+(2^t-1):=by rw[Nat.mul_add,Nat.mul_one];exact Nat.add_sub_assoc hp _
 have e0:2^t*(2*m+1)=2^t*(2*m+1)+0:=rfl;have e1:2^t*(2*m)=2^t*(2*m)+0:=rfl;rw[e];apply Nat.eq_of_testBit_eq;intro j;rw[Nat.testBit_and,Nat.testBit_two_pow_mul_add _ (Nat.sub_lt hp Nat.one_pos)];rw[e0,Nat.testBit_two_pow_mul_add _ hp,e1,Nat.testBit_two_pow_mul_add _ hp]
 by_cases h:j<t
 ·simp[h]
 ·simp only[h,if_false];cases q:j-t with
  |zero=>simp
  |succ i=>rw[Nat.testBit_succ,Nat.testBit_succ];simp[Nat.mul_add_div]
theorem vP(hm:0≤m):kQ (2^t*(2*m+1))=2^t:=by
 have h1:=aV t;obtain⟨n,rfl⟩:=Int.eq_ofNat_of_zero_le hm;have e:(2:Int)^t*(2*n+1)=((2^t*(2*n+1):Nat):Int):=by push_cast;rfl
 have hpos:0<2^t*(2*n+1):=Nat.mul_pos (Nat.two_pow_pos t) (Nat.succ_pos _);unfold kQ;rw[e];rw[bitAnd_pn (by exact fi1 (Y0 (.k 0) X0) [Y1 (.k 0) X0] rfl (iOt hpos)) (by exact fun hz=>fi1 (0,3,.k 0,.k 0) [Y1 (.k 0) X0,Y0 (.k 0) (.g X0)] rfl (iOt hpos) hz)];have e2:(Builtin.bitNot (-((2^t*(2*n+1):Nat):Int))).toNat=2^t*(2*n+1)-1:=by unfold Builtin.bitNot;rw[Int.neg_neg];exact uz _
 rw[e2,Int.toNat_natCast,Ln];have e3:2^t*(2*n+1)=2^t*(2*n)+2^t:=by rw[Nat.mul_add];exact nAs (fj2 (Y0 (.a X0 (.n X1 1)) (.a X0 X1)) [] rfl) (fj2 (Y0 (.a X0 X1) (.a X0 (.n X1 1))) [] rfl)
 rw[e3]
 push_cast
 exact iAs (fi2 (Y0 (.s (.a X0 X1) X0) X1) [] rfl) (fi2 (Y0 X0 (.s (.a X1 X0) X1)) [] rfl)
theorem vQ(h:0<n):n<2^(dX n+1):=by
 unfold dX;rw[pq h,Nat.add_sub_cancel];have:=Nat.lt_log2_self (n:=n.natAbs);have c:=fy (n.natAbs.log2+1);exact Int.lt_of_le_of_lt Int.le_natAbs (c▸iOt this)
theorem jR:(2:Int)^a<2^b↔a<b:=by
 have ca:=fy a;have cb:=fy b;have:2^a<2^b↔a<b:=Nat.pow_lt_pow_iff_right (by decide);exact Iff.trans (by rw[←ca,←cb];exact Int.ofNat_lt) this
theorem FN(h1:2^k≤n)(h2:n<2^(k+1)):dX n=k:=by
 have h0:=aV k;have a:=vN (n:=n) (Int.le_trans (by assumption) (by assumption));have b:=vQ (n:=n) (Int.le_trans (by assumption) (by assumption));have q1:k<dX n+1:=jR.mp (Int.lt_of_le_of_lt (by assumption) (by assumption));have q2:dX n<k+1:=jR.mp (Int.lt_of_le_of_lt (by assumption) (by assumption));exact nAs (fj2 (Y0 X0 X1) [Y1 X0 (.i X1)] rfl q2) (fj2 (Y0 X0 X1) [Y1 X0 (.i X1)] rfl q1)
theorem Lo(hm:0≤m)(h:2^t*(2*m+1)+2^t-1≤high):bsz (2^t*(2*m+1)) high=2^t:=by
 have hp:=aV t;have hpos:0<(2:Int)^t*(2*m+1):=Int.mul_pos hp (fi1 (Y1 (.k 0) (.i (.m 2 X0))) [(2,0,.k 0,X0)] rfl hm);unfold bsz;rw[if_neg (by exact fun hz=>fi1 (0,3,.k 0,.k 0) [Y1 (.k 0) X0,Y2 X0 (.k 0)] rfl hpos hz),vP hm]
 by_cases q:(2:Int)^t<2^dX (high-2^t*(2*m+1)+1)
 ·rw[if_pos q]
 ·rw[if_neg q];have a:=vQ (n:=high-2^t*(2*m+1)+1) (fi3 (Y1 (.k 0) (.i (.s X0 X1))) [Y0 (.s (.a X1 X2) (.k 1)) X0,Y1 (.k 0) X2] rfl h hp);have q1:¬t<dX (high-2^t*(2*m+1)+1):=fun z=>q (jR.mpr z)
  have q2:t<dX (high-2^t*(2*m+1)+1)+1:=jR.mp (fi4 (Y1 X0 X1) [Y0 (.s (.a X2 X0) (.k 1)) X3,Y1 (.i (.s X3 X2)) X1] rfl h a);have:dX (high-2^t*(2*m+1)+1)=t:=nAs ((nNl q1)) (fj2 (Y0 X0 X1) [Y1 X0 (.i X1)] rfl q2);rw[this]
theorem Bo(hm:0≤m)(h1:2^t*m+2^t-1≤high)(h2:high<2^t*m+2^(t+1)-1):bsz (2^t*m) high=2^t:=by
 have hp:=aV t;have hT:dX (high-2^t*m+1)=t:=FN (fi3 (Y0 X0 (.i (.s X1 X2))) [Y0 (.s (.a X2 X0) (.k 1)) X1] rfl h1) (fi3 (Y1 (.i (.s X0 X1)) X2) [Y1 X0 (.s (.a X1 X2) (.k 1))] rfl h2);unfold bsz;rw[hT]
 by_cases z:(2:Int)^t*m=0
 ·rw[if_pos z]
 ·rw[if_neg z];have hm':0<m:=by
   rcases Int.lt_or_eq_of_le hm with q|q
   ·exact q
   ·subst q;simp at z
  have key:∀k:Nat,∀m:Int,0<m→m≤k→∃(s:Nat) (n:Int),0≤n∧m=2^s*(2*n+1):=by
   intro k
   induction k with
   |zero=>intro m h1 h2;lia
   |succ k ih=>
    intro m h1 h2;rcases(by lia:m%2=0∨m%2=1)with q|q
    ·obtain⟨s,n,hn,e⟩:=ih (m / 2) (fi3 (2,1,.k 0,X0) [Y1 (.k 0) X1,Y2 X2 (.k 0),Y2 X1 (.a (.m 2 X0) X2)] rfl h1 q (Int.mul_ediv_add_emod m 2).symm) (fi4 (2,0,X0,X1) [Y1 (.k 0) X2,(2,0,X2,.i X1),Y2 (.k 0) X3,Y2 (.a (.m 2 X0) X3) X2] rfl h1 h2 q.symm (Int.mul_ediv_add_emod m 2));refine⟨s+1,n,hn,?_⟩;have:m=2*(m / 2):=iAs (fi3 (Y0 X0 (.m 2 X1)) [Y2 X2 (.k 0),Y2 X0 (.a (.m 2 X1) X2)] rfl q (Int.mul_ediv_add_emod m 2).symm) (fi3 (Y0 (.m 2 X0) X1) [Y2 (.k 0) X2,Y2 (.a (.m 2 X0) X2) X1] rfl q.symm (Int.mul_ediv_add_emod m 2));rw[this,e,Int.pow_succ];rw[Int.mul_comm (2^s) 2,Int.mul_assoc]
    ·exact⟨0,m / 2,fi3 (2,0,.k 0,X0) [Y1 (.k 0) X1,Y2 X2 (.k 1),Y2 X1 (.a (.m 2 X0) X2)] rfl h1 q (Int.mul_ediv_add_emod m 2).symm,by simp;exact iAs (fi3 (Y0 X0 (.i (.m 2 X1))) [Y2 X2 (.k 1),Y2 X0 (.a (.m 2 X1) X2)] rfl q (Int.mul_ediv_add_emod m 2).symm) (fi3 (Y0 (.i (.m 2 X0)) X1) [Y2 (.k 1) X2,Y2 (.a (.m 2 X0) X2) X1] rfl q.symm (Int.mul_ediv_add_emod m 2))⟩
  obtain⟨s,n,hn,e⟩:=key m.toNat m hm' ((iSt (m)));have e2:(2:Int)^t*m=2^(t+s)*(2*n+1):=by rw[e,Int.pow_add,Int.mul_assoc]
  rw[e2,vP hn,if_neg];intro q;have:=jR.mp q;exact fj2 (0,3,.k 0,.k 0) [Y1 (.a X0 X1) X0] rfl this
noncomputable def blL(e:Int):Nat→List (Int×Nat)
 |0=>[]
 |k+1=>(if fl e (k+1)+2^k≤e then [(fl e (k+1),k)]else [])++blL e k
noncomputable def blR(e:Int):Nat→List (Int×Nat)
 |0=>[]
 |k+1=>(if fl e (k+1)+2^k≤e then []else [(fl e (k+1)+2^k,k)])++blR e k
theorem Dz:blL e (k+1)=(if fl e (k+1)+2^k≤e then [(fl e (k+1),k)]else [])++blL e k:=rfl
theorem DA:blR e (k+1)=(if fl e (k+1)+2^k≤e then []else [(fl e (k+1)+2^k,k)])++blR e k:=rfl
theorem yN:∀{k:Nat},k≤w→cQ e w (w-k+1) k=(blL e k).map fun x=>(x.1,w-x.2)
 |0,_=>rfl
 |k+1,h=>by
  have e1:w-(k+1)+1=w-k:=(n9 h).symm;have e2:w-(w-k-1)=k+1:=by rw[Nat.sub_sub];exact Nat.sub_sub_self h
  have e3:w-(w-k)=k:=Nat.sub_sub_self (Nat.le_of_succ_le h);rw[e1];rw[vd,Dz];rw[e2,e3,lMp,yN (Nat.le_of_lt (by assumption))];split<;>rfl
theorem yO:∀{k:Nat},k≤w→cA e w (w-k+1) k=(blR e k).map fun x=>(x.1,w-x.2)
 |0,_=>rfl
 |k+1,h=>by
  have e1:w-(k+1)+1=w-k:=(n9 h).symm;have e2:w-(w-k-1)=k+1:=by rw[Nat.sub_sub];exact Nat.sub_sub_self h
  have e3:w-(w-k)=k:=Nat.sub_sub_self (Nat.le_of_succ_le h);rw[e1];rw[ve,DA];rw[e2,e3,lMp,yO (Nat.le_of_lt (by assumption))];split<;>rfl
theorem yP(j:Nat):(Builtin.Int.intBits (2^j):Int)=j+1:=by
 have h:=aV j;rw[pq h];have c:=fy j;have:((2:Int)^j).natAbs=2^j:=by lia
 rw[this,Nat.log2_two_pow];rfl
noncomputable def vg(w:Int)(x:Int×Nat):Int×Int:=(x.1,w-x.2)
theorem vh {w lo hi:Int}{j:Nat}(h0:0≤lo)(h:lo≤hi)(hb:bsz lo hi=2^j):cx w lo hi=vg w (lo,j)::cx w (lo+2^j) hi:=by
 rw[md h0 h,hb,yP];unfold vg
 congr 2
 exact iAs (fi2 (Y0 (.s (.i X0) (.i X1)) (.s X0 X1)) [] rfl) (fi2 (Y0 (.s X0 X1) (.s (.i X0) (.i X1))) [] rfl)
theorem pr {w:Int}:∀(k:Nat) (e x:Int),0≤x→2^k*x≤e→e<2^k*x+2^k→cx w (2^k*x) (e-1)=(blL e k).map (vg w)
 |0,e,x,hx,h1,h2=>by rw[jQ (by lia)];rfl
 |k+1,e,x,hx,h1,h2=>by
  have hp:=aV k;have e1:(2:Int)^(k+1)=2*2^k:=by rw[Int.pow_succ];exact iAs (fi1 (Y0 (.n X0 2) (.m 2 X0)) [] rfl) (fi1 (Y0 (.m 2 X0) (.n X0 2)) [] rfl)
  have e2:(2:Int)^(k+1)*x=2^k*(2*x):=by rw[Int.pow_succ,Int.mul_assoc]
  have hb:0≤(2:Int)^k*(2*x):=Int.mul_nonneg (iLl hp) (fi1 (Y0 (.k 0) (.m 2 X0)) [(2,0,.k 0,X0)] rfl hx);have hf:fl e (k+1)=2^k*(2*x):=by
   rw[←e2];have hf0:fl (2^(k+1)*x) (k+1)=2^(k+1)*x:=by
    unfold fl;rw[Int.mul_emod_right];exact iAs (fi1 (Y0 (.s X0 (.k 0)) X0) [] rfl) (fi1 (Y0 X0 (.s X0 (.k 0))) [] rfl)
   rw[←hf0];exact ru (by rw[hf0];exact h1) (by rw[hf0];exact h2)
  rw[e2,e1]at h2;rw[e2]at h1⊢;rw[Dz];rw[hf]
  by_cases q:2^k*(2*x)+2^k≤e
  ·rw[if_pos q];have hz:=Bo (t:=k) (m:=2*x) (high:=e-1) (fi1 (Y0 (.k 0) (.m 2 X0)) [(2,0,.k 0,X0)] rfl hx) (fi3 (Y0 (.s (.a X0 X1) (.k 1)) (.s X2 (.k 1))) [Y0 (.a X0 X1) X2] rfl q) (by rw[e1];exact fi3 (Y1 (.s X0 (.k 1)) (.s (.a X1 (.m 2 X2)) (.k 1))) [Y1 X0 (.a X1 (.m 2 X2))] rfl h2);rw[vh hb (by exact fi3 (Y0 X0 (.s X1 (.k 1))) [Y1 (.k 0) X2,Y0 (.a X0 X2) X1] rfl hp q) hz];have e3:(2:Int)^k*(2*x)+2^k=2^k*(2*x+1):=by rw[Int.mul_add,Int.mul_one]
   rw[e3,pr k e (2*x+1) (fi1 (Y0 (.k 0) (.i (.m 2 X0))) [(2,0,.k 0,X0)] rfl hx) (by rw[←e3];exact q) (by rw[←e3];exact fi3 (Y1 X0 (.a (.a X1 X2) X2)) [Y1 X0 (.a X1 (.m 2 X2))] rfl h2)];rfl
  ·rw[if_neg q,pr k e (2*x) (fi1 (Y0 (.k 0) (.m 2 X0)) [(2,0,.k 0,X0)] rfl hx) h1 ((Int.not_le.mp q))];rfl
theorem pt {w:Int}:∀(k:Nat) (e x hi:Int),0≤x→2^k*x≤e→e<2^k*x+2^k→2^k*x+2^k-1≤hi→cx w (e+1) hi=((blR e k).reverse).map (vg w)++cx w (2^k*x+2^k) hi
 |0,e,x,hi,hx,h1,h2,h3=>by
  have:e+1=2^0*x+2^0:=by lia
  rw[this];rfl
 |k+1,e,x,hi,hx,h1,h2,h3=>by
  have hp:=aV k;have e1:(2:Int)^(k+1)=2*2^k:=by rw[Int.pow_succ];exact iAs (fi1 (Y0 (.n X0 2) (.m 2 X0)) [] rfl) (fi1 (Y0 (.m 2 X0) (.n X0 2)) [] rfl)
  have e2:(2:Int)^(k+1)*x=2^k*(2*x):=by rw[Int.pow_succ,Int.mul_assoc]
  have hb:0≤(2:Int)^k*(2*x):=Int.mul_nonneg (iLl hp) (fi1 (Y0 (.k 0) (.m 2 X0)) [(2,0,.k 0,X0)] rfl hx);have hf:fl e (k+1)=2^k*(2*x):=by
   rw[←e2];have hf0:fl (2^(k+1)*x) (k+1)=2^(k+1)*x:=by
    unfold fl;rw[Int.mul_emod_right];exact iAs (fi1 (Y0 (.s X0 (.k 0)) X0) [] rfl) (fi1 (Y0 X0 (.s X0 (.k 0))) [] rfl)
   rw[←hf0];exact ru (by rw[hf0];exact h1) (by rw[hf0];exact h2)
  have e3:(2:Int)^k*(2*x)+2^k=2^k*(2*x+1):=by rw[Int.mul_add,Int.mul_one]
  rw[e2,e1]at h2 h3;rw[e2]at h1⊢;have e4:(2:Int)^k*(2*x)+2^(k+1)=2^k*(2*x+1)+2^k:=by rw[←e3,e1];exact iAs (fi2 (Y0 (.a X0 (.m 2 X1)) (.a (.a X0 X1) X1)) [] rfl) (fi2 (Y0 (.a (.a X0 X1) X1) (.a X0 (.m 2 X1))) [] rfl)
  rw[e4];rw[DA];rw[hf]
  by_cases q:2^k*(2*x)+2^k≤e
  ·rw[if_pos q,pt k e (2*x+1) hi (fi1 (Y0 (.k 0) (.i (.m 2 X0))) [(2,0,.k 0,X0)] rfl hx) (by rw[←e3];exact q) (by rw[←e3];exact fi3 (Y1 X0 (.a (.a X1 X2) X2)) [Y1 X0 (.a X1 (.m 2 X2))] rfl h2) (by rw[←e3];exact fi3 (Y0 (.s (.a (.a X0 X1) X1) (.k 1)) X2) [Y0 (.s (.a X0 (.m 2 X1)) (.k 1)) X2] rfl h3)];rfl
  ·rw[if_neg q,pt k e (2*x) hi (fi1 (Y0 (.k 0) (.m 2 X0)) [(2,0,.k 0,X0)] rfl hx) h1 ((Int.not_le.mp q)) (fi4 (2,0,.s (.a X0 X1) (.k 1),X2) [Y0 X0 X3,Y1 X3 (.a X0 (.m 2 X1)),(2,0,.s (.a X0 (.m 2 X1)) (.k 1),X2)] rfl h1 h2 h3),e3];have hz:=Lo (t:=k) (m:=x) (high:=hi) hx (by rw[←e3];exact fi3 (Y0 (.s (.a (.a X0 X1) X1) (.k 1)) X2) [Y0 (.s (.a X0 (.m 2 X1)) (.k 1)) X2] rfl h3);rw[vh (by rw[←e3];exact fi3 (2,0,.k 0,.a X0 X1) [Y0 X0 X2,Y1 X2 (.a X0 (.m 2 X1)),(2,0,.k 0,X0)] rfl h1 h2 hb) (by rw[←e3];exact fi3 (Y0 (.a X0 X1) X2) [Y0 (.s (.a X0 (.m 2 X1)) (.k 1)) X2,Y1 (.k 0) X1] rfl h3 hp) hz];simp
theorem FO {w:Int}{k:Nat}{x:Int}(hx:0≤x):cx w (2^k*x) (2^k*x+(2^k-1))=[vg w (2^k*x,k)]:=by
 have hp:=aV k;have hb:0≤(2:Int)^k*x:=Int.mul_nonneg (iLl hp) hx;have e1:(2:Int)^(k+1)=2*2^k:=by rw[Int.pow_succ];exact iAs (fi1 (Y0 (.n X0 2) (.m 2 X0)) [] rfl) (fi1 (Y0 (.m 2 X0) (.n X0 2)) [] rfl)
 rw[vh (j:=k) hb (by exact fi2 (Y0 X0 (.a X0 (.s X1 (.k 1)))) [Y1 (.k 0) X1] rfl hp) (Bo hx (by exact fi2 (Y0 (.s (.a X0 X1) (.k 1)) (.a X0 (.s X1 (.k 1)))) [] rfl) (by rw[e1];lia)),jQ (by exact fun hz=>fi2 (0,3,.k 0,.k 0) [Y0 (.a X0 X1) (.a X0 (.s X1 (.k 1)))] rfl hz)]
theorem jS(h0:0≤v1)(h12:v1≤v2)(h:v2<2^w):(bB v1 v2 w).map (fun x=>(x.1,(x.2:Int)))=cx w v1 v2:=by
 have H0:=qD h0 h12 h;unfold bB;generalize cP v1 v2 w w=P at H0⊢;have H:mc v1 v2 w P:=H0;dsimp only;have tail:∀Q:Nat,Q≤w→(if v2<fl v2 (w-Q)+(2^(w-Q)-1)then cQ (v2+1) w (Q+1) (w-Q)else [(fl v2 (w-Q),Q)]).map (fun x=>(x.1,(x.2:Int)))=cx w (fl v2 (w-Q)) v2:=by
  intro Q hQ;have hm:=ev v2 (w-Q);have hx:0≤v2 / 2^(w-Q):=Int.ediv_nonneg (Int.le_trans (by assumption) (by assumption)) (iLl (aV _));have hl:=lF v2 (w-Q);have hg:=rt v2 (w-Q)
  by_cases q:v2<fl v2 (w-Q)+(2^(w-Q)-1)
  ·rw[if_pos q];have e1:Q+1=w-(w-Q)+1:=by rw[Nat.sub_sub_self hQ]
   rw[e1,yN (nSl ..)];rw[hm]at q hl⊢;have:=pr (w:=(w:Int)) (w-Q) (v2+1) (v2 / 2^(w-Q)) hx (fi2 (Y0 X0 (.i X1)) [Y0 X0 X1] rfl hl) (fi3 (Y1 (.i X0) (.a X1 X2)) [Y1 X0 (.a X1 (.s X2 (.k 1)))] rfl q);rw[Int.add_sub_cancel]at this;rw[this,List.map_map];refine List.map_congr_left fun x hx'=>?_
   have hlt:∀k,∀y∈blL (v2+1) k,y.2<k:=by
    intro k
    induction k with
    |zero=>intro y hy;cases hy
    |succ k ih=>
     intro y hy;rw[Dz]at hy;rcases List.mem_append.mp hy with hy|hy
     ·split at hy
      ·rw[lMs hy];exact Nat.lt_succ_self k
      ·cases hy
     ·exact Nat.lt_succ_of_lt (ih y hy)
   have:=hlt _ x hx';show(x.1,((w-x.2:Nat):Int))=(x.1,(w:Int)-x.2)
   congr 1;exact Int.ofNat_sub (Nat.le_of_lt (nLl this (nSl ..)))
  ·rw[if_neg q];have e2:v2=fl v2 (w-Q)+(2^(w-Q)-1):=iAs (fi3 (Y0 X0 (.a X1 (.s X2 (.k 1)))) [Y1 X0 (.a X1 X2)] rfl hg) ((Int.not_lt.mp q));have:=FO (w:=(w:Int)) (k:=w-Q) hx;rw[←hm,←e2]at this;rw[this];show [(fl v2 (w-Q),(Q:Int))]=[(fl v2 (w-Q),(w:Int)-((w-Q:Nat):Int))]
   congr 2;rw[Int.ofNat_sub hQ,Int.sub_sub_self]
 by_cases hb:fl v2 (w-P)<v1
 ·rw[if_pos hb,if_pos hb,lMp,tail (P+1) (H.low hb h12).1];obtain⟨hw,g1,g2,g3⟩:=H.low hb h12;have e1:P+2=w-(w-(P+1))+1:=by rw[Nat.sub_sub_self hw]
  rw[e1,yO (nSl ..)];have f1:fl (v1-1) (w-(P+1))=fl v2 (w-P):=by
   have:=vf (Nat.succ_pos _) hw g2;rw[show P+1+1-1=P+1 from rfl]at this;rw[this];exact g1
  have hm:=ev (v1-1) (w-(P+1));have hx:0≤(v1-1) / 2^(w-(P+1)):=Int.ediv_nonneg (by have:=iz (v:=v2) (Int.le_trans (by assumption) (by assumption)) (w-P);exact fi2 (Y0 (.k 0) (.s X0 (.k 1))) [Y1 X1 X0,Y0 (.k 0) X1] rfl hb this) (iLl (aV _));have hl:=lF (v1-1) (w-(P+1));have hg:=rt (v1-1) (w-(P+1));have hmid:fl (v1-1) (w-(P+1))+2^(w-(P+1))=fl v2 (w-(P+1)):=by
   rw[f1];rw[show P+1-1=P from rfl,g1]at g3;exact g3
  have h2l:=lF v2 (w-(P+1));have R:=pt (w:=(w:Int)) (w-(P+1)) (v1-1) ((v1-1) / 2^(w-(P+1))) v2 hx (by rw[←hm];exact hl) (by rw[←hm];exact hg) (by rw[←hm];exact fi4 (Y0 (.s (.a X0 X1) (.k 1)) X2) [Y2 (.a X0 X1) X3,Y0 X3 X2] rfl hmid h2l);rw[←hm,hmid,Int.sub_add_cancel]at R;rw[R]
  congr 1
  rw[←List.map_reverse,List.map_map];refine List.map_congr_left fun x hx'=>?_
  have hlt:∀k,∀y∈blR (v1-1) k,y.2<k:=by
   intro k
   induction k with
   |zero=>intro y hy;cases hy
   |succ k ih=>
    intro y hy;rw[DA]at hy;rcases List.mem_append.mp hy with hy|hy
    ·split at hy
     ·cases hy
     ·rw[lMs hy];exact Nat.lt_succ_self k
    ·exact Nat.lt_succ_of_lt (ih y hy)
  have:=hlt _ x (List.mem_reverse.mp hx');show(x.1,((w-x.2:Nat):Int))=(x.1,(w:Int)-x.2)
  congr 1;exact Int.ofNat_sub (Nat.le_of_lt (nLl this (nSl ..)))
 ·rw[if_neg hb,if_neg hb,List.nil_append,tail P H.le];have:fl v2 (w-P)=v1:=by have:=H.lo;exact iAs (this) ((Int.not_lt.mp hb))
  rw[this]
theorem ul {v1 v2:Int}{w:Nat}(h0:0≤v1)(h:v2<2^w)(hw:w≤128):(cx w v1 v2).length≤257:=by
 by_cases h12:v1≤v2
 ·rw[←jS h0 h12 h,lMa];unfold bB;dsimp only;generalize cP v1 v2 w w=P;haveI a:∀c:Prop,∀[Decidable c],(if c then(cA (v1-1) w (P+2) (w-(P+1))).reverse else []).length≤128:=fun c _=>by
   split
   ·rw[List.length_reverse];have:=kP (v1-1) w (w-(P+1)) (P+2);exact fj3 (Y0 X0 (.k 128)) [Y0 X1 (.k 128),Y0 X0 X2,Y0 X2 X1] rfl hw this (nSl w (P+1))
   ·exact nZl _
  haveI b:∀Q:Nat,∀c:Prop,∀[Decidable c],(if c then cQ (v2+1) w (Q+1) (w-Q)else [(fl v2 (w-Q),Q)]).length≤129:=fun Q c _=>by
   split
   ·have:=mI (v2+1) w (w-Q) (Q+1);exact fj3 (Y0 X0 (.k 129)) [Y0 X1 (.k 128),Y0 X0 X2,Y0 X2 X1] rfl hw this (nSl w Q)
   ·show 1≤_;exact fj0 (Y0 (.k 1) (.k 129)) [] rfl
  rw[lAp];exact Nat.add_le_add (a _) (b _ _)
 ·rw[jQ h12];exact nZl _
noncomputable def InU(x:Int)(l:List (Int×Int)):Prop:=∃p∈l,p.1≤x∧x≤p.2
noncomputable def iT:Int→List (Int×Int)→Prop
 |_,[]=>True
 |lo,p::r=>lo≤p.1∧p.1≤p.2∧iT (p.2+2) r
theorem iT.ge:∀{l:List (Int×Int)} {lo x:Int},iT lo l→InU x l→lo≤x
 |p::r,lo,x,⟨h1,h2,h3⟩,⟨q,hq,h4,h5⟩=>by
  cases hq with
  |head=>exact fi3 (Y0 X0 X1) [Y0 X0 X2,Y0 X2 X1] rfl h1 h4
  |tail _ hq=>have:=iT.ge h3 ⟨q,hq,h4,h5⟩;exact fi4 (Y0 X0 X1) [Y0 X0 X2,Y0 X2 X3,Y0 (.a X3 (.k 2)) X1] rfl h1 h2 this
 |[],_,_,_,⟨q,hq,_⟩=>by cases hq
theorem bY:InU x (p::r)↔(p.1≤x∧x≤p.2)∨InU x r:=by
 constructor
 ·rintro⟨q,hq,h⟩
  cases hq with
  |head=>exact .inl h
  |tail _ hq=>exact .inr ⟨q,hq,h⟩
 ·rintro(h|⟨q,hq,h⟩)
  ·exact⟨p,.head _,h⟩
  ·exact⟨q,.tail _ hq,h⟩
theorem jB:¬InU x []:=fun⟨q,hq,_⟩=>by cases hq
theorem iT.uniq:∀{l k:List (Int×Int)} {a b:Int},iT a l→iT b k→(∀x,InU x l↔InU x k)→l=k
 |[],[],_,_,_,_,_=>rfl
 |[],q::s,_,_,_,⟨_,h2,_⟩,h=>absurd ((h q.1).mpr (bY.mpr (.inl ⟨Int.le_refl _,h2⟩))) jB
 |p::r,[],_,_,⟨_,h2,_⟩,_,h=>absurd ((h p.1).mp (bY.mpr (.inl ⟨Int.le_refl _,h2⟩))) jB
 |p::r,q::s,a,b,⟨a1,a2,a3⟩,⟨b1,b2,b3⟩,h=>by
  have e1:q.1≤p.1:=by
   rcases bY.mp ((h p.1).mp (bY.mpr (.inl ⟨Int.le_refl _,a2⟩)))with z|z
   ·exact z.1
   ·have:=b3.ge z;exact fi3 (Y0 X0 X1) [Y0 X0 X2,Y0 (.a X2 (.k 2)) X1] rfl b2 this
  have e2:p.1≤q.1:=by
   rcases bY.mp ((h q.1).mpr (bY.mpr (.inl ⟨Int.le_refl _,b2⟩)))with z|z
   ·exact z.1
   ·have:=a3.ge z;exact fi3 (Y0 X0 X1) [Y0 X0 X2,Y0 (.a X2 (.k 2)) X1] rfl a2 this
  have f1:p.2≤q.2:=by
   refine Int.not_lt.mp fun z=>?_
   rcases bY.mp ((h (q.2+1)).mp (bY.mpr (.inl ⟨fi3 (Y0 X0 (.i X1)) [Y0 X2 X1,Y0 X0 X2] rfl b2 e2,fi2 (Y0 (.i X0) X1) [Y1 X0 X1] rfl z⟩)))with y|y
   ·exact fi1 (0,3,.k 0,.k 0) [Y0 (.i X0) X0] rfl y.2
   ·have:=b3.ge y;exact fi1 (0,3,.k 0,.k 0) [Y0 (.a X0 (.k 2)) (.i X0)] rfl this
  haveI f2:q.2≤p.2:=by
   refine Int.not_lt.mp fun z=>?_
   rcases bY.mp ((h (p.2+1)).mpr (bY.mpr (.inl ⟨fi3 (Y0 X0 (.i X1)) [Y0 X2 X1,Y0 X0 X2] rfl a2 e1,fi2 (Y0 (.i X0) X1) [Y1 X0 X1] rfl z⟩)))with y|y
   ·exact fi1 (0,3,.k 0,.k 0) [Y0 (.i X0) X0] rfl y.2
   ·have:=a3.ge y;exact fi1 (0,3,.k 0,.k 0) [Y0 (.a X0 (.k 2)) (.i X0)] rfl this
  haveI e:p=q:=Prod.ext (iAs (e2) (e1)) (iAs (f1) (f2));subst e
  congr 1
  refine iT.uniq a3 b3 fun x=>⟨fun hx=>?_,fun hx=>?_⟩
  ·haveI g:=a3.ge hx;rcases bY.mp ((h x).mp (bY.mpr (.inr hx)))with y|y
   ·lia
   ·exact y
  ·haveI g:=b3.ge hx;rcases bY.mp ((h x).mpr (bY.mpr (.inr hx)))with y|y
   ·lia
   ·exact y
structure Ent(α:Type) where
 ver:Int
 first:Int
 last:Int
 orig:Option α
section
variable {α:Type}
noncomputable def mg(cur:Ent α):List (Ent α)→List (Ent α)→List (Ent α)
 |[],done=>cur::done
 |p::r,done=>if cur.ver=p.ver∧cur.first-1≤p.last then mg ⟨cur.ver,if cur.first<p.first then cur.first else p.first,cur.last,none⟩ r done else mg p r (cur::done)
noncomputable def iv(k:Int):List (Ent α)→List (Int×Int)
 |[]=>[]
 |e::r=>if e.ver=k then(e.first,e.last)::iv k r else iv k r
theorem H3:mg cur (p::r) done=if cur.ver=p.ver∧cur.first-1≤p.last then mg ⟨cur.ver,if cur.first<p.first then cur.first else p.first,cur.last,none⟩ r done else mg p r (cur::done):=rfl
theorem VI:iv k (e::r)=if e.ver=k then(e.first,e.last)::iv k r else iv k r:=rfl
theorem qH:∀{l:List (Ent α)},(∀e∈l,e.ver≠k)→iv k l=[]
 |[],_=>rfl
 |e::r,h=>by
  rw[VI];rw[if_neg (h e (.head _))];exact qH fun x hx=>h x (.tail _ hx)
noncomputable def sS(cur:Ent α):List (Ent α)→Prop
 |[]=>cur.first≤cur.last
 |p::r=>cur.first≤cur.last∧(p.ver<cur.ver∨(p.ver=cur.ver∧p.last≤cur.last))∧sS p r
theorem sS.ok(h:sS cur r):cur.first≤cur.last:=by
 cases r with
 |nil=>exact h
 |cons p r=>exact h.1
theorem iT.rebase(h:iT a (p::r))(hb:b≤p.1):iT b (p::r):=⟨hb,h.2.1,h.2.2⟩
structure DB(cur:Ent α)(done:List (Ent α)):Prop where
 ver:(cur::done).Pairwise fun a b=>a.ver≤b.ver
 norm:∀k,∃lo,iT lo (iv k (cur::done))
theorem eF:iv k (e::r)=if e.ver=k then(e.first,e.last)::iv k r else iv k r:=rfl
theorem vi:∀(r:List (Ent α)) (cur:Ent α) (done:List (Ent α)),sS cur r→DB cur done→
  ((mg cur r done).Pairwise fun a b=>a.ver≤b.ver)∧(∀k,∃lo,iT lo (iv k (mg cur r done)))∧∀k x,InU x (iv k (mg cur r done))↔InU x (iv k (cur::done))∨InU x (iv k r)
 |[],cur,done,hf,hi=>⟨hi.ver,hi.norm,fun k x=>⟨.inl,fun h=>h.elim id fun h=>(jB h).elim⟩⟩
 |p::r,cur,done,hf,hi=>by
  obtain⟨h1,h2,h3⟩:=hf;haveI hp:=h3.ok;rw[H3]
  by_cases q:cur.ver=p.ver∧cur.first-1≤p.last
  ·rw[if_pos q];obtain⟨q1,q2⟩:=q;haveI hl:p.last≤cur.last:=by rcases h2 with h|h<;>lia
   haveI hF:sS (⟨cur.ver,if cur.first<p.first then cur.first else p.first,cur.last,none⟩:Ent α) r:=by
    cases r with
    |nil=>show(if _ then _ else _)≤cur.last;split<;>lia
    |cons z r=>
     obtain⟨_,g2,g3⟩:=h3;refine⟨by show(if _ then _ else _)≤cur.last;split<;>lia,?_,g3⟩;show z.ver<cur.ver∨(z.ver=cur.ver∧z.last≤cur.last);lia
   have hI:DB (⟨cur.ver,if cur.first<p.first then cur.first else p.first,cur.last,none⟩:Ent α) done:=by
    refine⟨?_,fun k=>?_⟩
    ·have:=hi.ver;rw[List.pairwise_cons]at this⊢;exact this
    ·obtain⟨lo,hn⟩:=hi.norm k;rw[eF]at hn⊢;dsimp only
     by_cases e:cur.ver=k
     ·rw[if_pos e]at hn⊢;exact⟨_,Int.le_refl _,by show(if _ then _ else _)≤cur.last;split<;>lia,hn.2.2⟩
     ·rw[if_neg e]at hn⊢;exact⟨lo,hn⟩
   obtain⟨s1,s2,s3⟩:=vi r _ done hF hI;refine⟨s1,s2,fun k x=>(s3 k x).trans ?_⟩;rw[eF,eF,eF];dsimp only
   by_cases e:cur.ver=k
   ·haveI e':p.ver=k:=q1.symm.trans e;simp only[if_pos e,if_pos e',bY];haveI c1:=h1
    by_cases z:cur.first<p.first
    ·rw[if_pos z];constructor
     ·rintro((h|h)|h)
      ·exact .inl (.inl h)
      ·exact .inl (.inr h)
      ·exact .inr (.inr h)
     ·rintro((h|h)|(h|h))
      ·exact .inl (.inl h)
      ·exact .inl (.inr h)
      ·exact .inl (.inl (⟨fi3 (Y0 X0 X1) [Y1 X0 X2,Y0 X2 X1] rfl z h.1,fi3 (Y0 X0 X1) [Y0 X2 X1,Y0 X0 X2] rfl hl h.2⟩))
      ·exact .inr h
    ·rw[if_neg z];constructor
     ·rintro((h|h)|h)
      ·by_cases y:x≤p.last
       ·exact .inr (.inl ⟨h.1,y⟩)
       ·exact .inl (.inl ⟨fi3 (Y0 X0 X1) [Y0 (.s X0 (.k 1)) X2,Y1 X2 X1] rfl q2 (Int.not_le.mp y),h.2⟩)
      ·exact .inl (.inr h)
      ·exact .inr (.inr h)
     ·rintro((h|h)|(h|h))
      ·exact .inl (.inl (⟨fi3 (Y0 X0 X1) [Y0 X0 X2,Y0 X2 X1] rfl (Int.not_lt.mp z) h.1,h.2⟩))
      ·exact .inl (.inr h)
      ·exact .inl (.inl (⟨h.1,fi3 (Y0 X0 X1) [Y0 X2 X1,Y0 X0 X2] rfl hl h.2⟩))
      ·exact .inr h
   ·rw[if_neg e,if_neg e,if_neg (fun z=>e (q1.trans z))]
  ·rw[if_neg q];haveI hI:DB p (cur::done):=by
    refine⟨?_,fun k=>?_⟩
    ·have hv:=hi.ver;rw[List.pairwise_cons];refine⟨fun e he=>?_,hv⟩;haveI hc:p.ver≤cur.ver:=by rcases h2 with h|h<;>lia
     cases he with
     |head=>exact hc
     |tail _ he=>exact Int.le_trans hc ((List.pairwise_cons.mp hv).1 e he)
    ·obtain⟨lo,hn⟩:=hi.norm k;rw[eF (e:=p)]
     by_cases e:p.ver=k
     ·rw[if_pos e];refine⟨p.first,Int.le_refl _,hp,?_⟩
      by_cases e2:cur.ver=k
      ·haveI hlt:¬cur.first-1≤p.last:=fun z=>q ⟨e2.trans e.symm,z⟩
       rw[eF,if_pos e2]at hn⊢;exact hn.rebase (by dsimp only;exact fi2 (Y0 (.a X0 (.k 2)) X1) [Y1 X0 (.s X1 (.k 1))] rfl (Int.not_le.mp hlt))
      ·haveI hgt:p.ver<cur.ver:=by rcases h2 with h|h<;>lia
       have:iv k (cur::done)=[]:=qH fun z hz=>by
        haveI hv:=hi.ver;cases hz with
        |head=>exact e2
        |tail _ hz=>have:=(List.pairwise_cons.mp hv).1 z hz;exact fun hz=>fi4 (0,3,.k 0,.k 0) [Y2 X0 X1,Y1 X1 X2,Y0 X2 X3,Y2 X3 X0] rfl e.symm hgt this hz
       rw[this];trivial
     ·rw[if_neg e];exact⟨lo,hn⟩
   obtain⟨s1,s2,s3⟩:=vi r p (cur::done) h3 hI;refine⟨s1,s2,fun k x=>(s3 k x).trans ?_⟩;rw[eF (e:=p),eF (e:=p)]
   by_cases e:p.ver=k
   ·rw[if_pos e,if_pos e,bY,bY];constructor
    ·rintro((h|h)|h)
     ·exact .inr (.inl h)
     ·exact .inl h
     ·exact .inr (.inr h)
    ·rintro(h|(h|h))
     ·exact .inl (.inr h)
     ·exact .inl (.inl h)
     ·exact .inr h
   ·rw[if_neg e,if_neg e]
end
noncomputable def dI(l:List (Int×Int))(x:Int):Bool:=l.any fun p=>decide (p.1≤x)&&decide (x≤p.2)
theorem py:dI l x=true↔InU x l:=by
 unfold dI InU;simp[List.any_eq_true,Bool.and_eq_true]
noncomputable def aP(f:Int→Bool):List Int→Option Int→List (Int×Int)
 |[],_=>[]
 |p::ps,none=>if f p=true then aP f ps (some p)else aP f ps none
 |p::ps,some s=>if f p=true then aP f ps (some s)else(s,p-1)::aP f ps none
theorem Lp:aP f (p::ps) none=if f p=true then aP f ps (some p)else aP f ps none:=rfl
theorem Lq:aP f (p::ps) (some s)=if f p=true then aP f ps (some s)else(s,p-1)::aP f ps none:=rfl
theorem vR {f:Int→Bool}{c p:Int}(h:∀x,c<x→x<p→f x=f (x-1)):∀(n:Nat) (x:Int),x=c+n→x<p∨x=c→f x=f c
 |0,x,e,_=>by rw[e];simp
 |n+1,x,e,hx=>by
  haveI hx':x<p:=by rcases hx with h|h<;>lia
  rw[h x (fi [c,x,↑n] (Y1 X0 X1) [Y2 (.a X0 (.i X2)) X1,Y0 (.k 0) X2] rfl e.symm (iNn n)) hx'];exact vR h n (x-1) (iAs (fi [x,c,↑n] (Y0 (.s X0 (.k 1)) (.a X1 X2)) [Y2 X0 (.a X1 (.i X2))] rfl e) (fi [c,↑n,x] (Y0 (.a X0 X1) (.s X2 (.k 1))) [Y2 (.a X0 (.i X1)) X2] rfl e.symm)) (.inl (fi [x,p] (Y1 (.s X0 (.k 1)) X1) [Y1 X0 X1] rfl hx'))
theorem yQ {f:Int→Bool}{c p x:Int}(h:∀x,c<x→x<p→f x=f (x-1))(h1:c≤x)(h2:x<p):f x=f c:=
 vR h (x-c).toNat x (iAs (fi3 (Y0 X0 (.a X1 X2)) [Y0 (.s X0 X1) X2] rfl (iSt (x-c))) (fi3 (Y0 (.a X0 X1) X2) [Y2 X1 (.s X2 X0)] rfl (tnn (x-c) (fi2 (Y0 (.k 0) (.s X0 X1)) [Y0 X1 X0] rfl h1)))) (.inl h2)
noncomputable def um(c:Int):List Int→Int
 |[]=>c
 |p::ps=>um p ps
theorem un {f:Int→Bool}:∀(ps:List Int) (c:Int),(c::ps).Pairwise (·≤·)→(∀x,c<x→x∉ps→f x=f (x-1))→f (um c ps)=false→
  (f c=false→iT (c+1) (aP f ps none)∧∀x,InU x (aP f ps none)↔f x=true∧c<x)∧
  (∀s,s≤c→(∀x,s≤x→x≤c→f x=true)→iT s (aP f ps (some s))∧∀x,InU x (aP f ps (some s))↔f x=true∧s≤x)
 |[],c,hs,hc,hl=>by
  have hz:∀x,c≤x→f x=f c:=fun x hx=>yQ (p:=x+1) (fun y h1 _=>hc y h1 (by simp)) hx (Int.le_refl _)
  refine⟨fun h0=>⟨trivial,fun x=>⟨fun h=>(jB h).elim,fun⟨h1,h2⟩=>?_⟩⟩,fun s hs' hf=>?_⟩
  ·rw[hz x (iLl (by assumption)),h0]at h1;cases h1
  ·have:=hf c hs' (Int.le_refl _);have hl':f c=false:=hl;rw[hl']at this;cases this
 |p::ps,c,hs,hc,hl=>by
  rw[List.pairwise_cons]at hs;obtain⟨hcp,hs2⟩:=hs;haveI hcp0:c≤p:=hcp p (.head _);haveI hps:=(List.pairwise_cons.mp hs2).1;have run:∀x,c≤x→x<p→f x=f c:=fun x h1 h2=>yQ (fun y y1 y2=>hc y y1 fun hm=>by
   cases hm with
   |head=>exact fi1 (0,3,.k 0,.k 0) [Y1 X0 X0] rfl y2
   |tail _ hm=>have:=hps y hm;exact fi2 (0,3,.k 0,.k 0) [Y1 X0 X1,Y0 X1 X0] rfl y2 this) h1 h2
  haveI hc':∀x,p<x→x∉ps→f x=f (x-1):=fun x h1 h2=>hc x (Int.lt_of_le_of_lt (by assumption) (by assumption)) fun hm=>by
   cases hm with
   |head=>exact fi1 (0,3,.k 0,.k 0) [Y1 X0 X0] rfl h1
   |tail _ hm=>exact h2 hm
  obtain⟨A,B⟩:=un ps p hs2 hc' hl;refine⟨fun h0=>?_,fun s hsc hf=>?_⟩
  ·rw[Lp];cases hp:f p with
   |true=>
    rw[if_pos rfl];haveI hne:c<p:=by
     rcases Int.lt_or_eq_of_le hcp0 with h|h
     ·exact h
     ·rw[←h,h0]at hp;cases hp
    obtain⟨n1,n2⟩:=B p (Int.le_refl _) fun x h1 h2=>by
     have:x=p:=iAs (h2) (h1);rw[this];exact hp
    refine⟨?_,fun x=>(n2 x).trans ⟨fun⟨h1,h2⟩=>⟨h1,fi3 (Y1 X0 X1) [Y1 X0 X2,Y0 X2 X1] rfl hne h2⟩,fun⟨h1,h2⟩=>⟨h1,Int.not_lt.mp fun z=>?_⟩⟩⟩
    ·cases hw:aP f ps (some p)with
     |nil=>trivial
     |cons q r=>rw[hw]at n1;exact n1.rebase (by have:=n1.1;exact fi3 (Y0 (.i X0) X1) [Y1 X0 X2,Y0 X2 X1] rfl hne this)
    ·rw[run x (iLl (by assumption)) z,h0]at h1;cases h1
   |false=>
    rw[if_neg (by decide)];haveI n1:=(A hp).1;haveI n2:=(A hp).2;refine⟨?_,fun x=>(n2 x).trans ⟨fun⟨h1,h2⟩=>⟨h1,fi3 (Y1 X0 X1) [Y0 X0 X2,Y1 X2 X1] rfl hcp0 h2⟩,fun⟨h1,h2⟩=>⟨h1,Int.not_le.mp fun z=>?_⟩⟩⟩
    ·cases hw:aP f ps none with
     |nil=>trivial
     |cons q r=>rw[hw]at n1;exact n1.rebase (by have:=n1.1;exact fi3 (Y0 (.i X0) X1) [Y0 X0 X2,Y0 (.i X2) X1] rfl hcp0 this)
    ·rcases Int.lt_or_eq_of_le z with y|y
     ·rw[run x (iLl (by assumption)) y,h0]at h1;cases h1
     ·rw[y,hp]at h1;cases h1
  ·haveI hfc:f c=true:=hf c hsc (Int.le_refl _);have hall:∀x,s≤x→x<p→f x=true:=fun x h1 h2=>by
    by_cases z:x≤c
    ·exact hf x h1 z
    ·rw[run x (fi2 (Y0 X0 X1) [Y1 X0 X1] rfl (Int.not_le.mp z)) h2];exact hfc
   rw[Lq];cases hp:f p with
   |true=>
    rw[if_pos rfl];exact B s (Int.le_trans (by assumption) (by assumption)) fun x h1 h2=>by
     rcases Int.lt_or_eq_of_le h2 with y|y
     ·exact hall x h1 y
     ·rw[y];exact hp
   |false=>
    rw[if_neg (by decide)];haveI n1:=(A hp).1;haveI n2:=(A hp).2;have hne:c<p:=by
     rcases Int.lt_or_eq_of_le hcp0 with h|h
     ·exact h
     ·rw[←h,hfc]at hp;cases hp
    refine⟨⟨Int.le_refl _,by dsimp only;exact fi3 (Y0 X0 (.s X1 (.k 1))) [Y0 X0 X2,Y1 X2 X1] rfl hsc hne,?_⟩,fun x=>?_⟩
    ·have e:p-1+2=p+1:=iAs (fi1 (Y0 (.a (.s X0 (.k 1)) (.k 2)) (.i X0)) [] rfl) (fi1 (Y0 (.i X0) (.a (.s X0 (.k 1)) (.k 2))) [] rfl);dsimp only;rw[e];exact n1
    ·rw[bY,n2];dsimp only;constructor
     ·rintro(⟨h1,h2⟩|⟨h1,h2⟩)
      ·exact⟨hall x h1 (fi2 (Y1 X0 X1) [Y0 X0 (.s X1 (.k 1))] rfl h2),h1⟩
      ·exact⟨h1,fi4 (Y0 X0 X1) [Y0 X2 X3,Y0 X0 X2,Y1 X3 X1] rfl hcp0 hsc h2⟩
     ·rintro⟨h1,h2⟩
      by_cases z:x<p
      ·exact .inl ⟨h2,fi2 (Y0 X0 (.s X1 (.k 1))) [Y1 X0 X1] rfl z⟩
      ·refine .inr ⟨h1,?_⟩;rcases Int.lt_or_eq_of_le (Int.not_lt.mp z)with y|y
       ·exact y
       ·rw[←y,hp]at h1;cases h1
theorem FP(h:∀p∈l,x≠p.1∧x≠p.2+1):dI l x=dI l (x-1):=by
 unfold dI
 induction l with
 |nil=>rfl
 |cons q r ih=>
  rw[List.any_cons,List.any_cons,ih fun p hp=>h p (.tail _ hp)]
  congr 1
  haveI h1:=(h q (.head _)).1;haveI h2:=(h q (.head _)).2;haveI e1:decide (q.1≤x)=decide (q.1≤x-1):=by
   by_cases z:q.1≤x-1
   ·rw[dEt z,dEt (by exact fi2 (Y0 X0 X1) [Y0 X0 (.s X1 (.k 1))] rfl z)]
   ·rw[dEf z,dEf (by lia)]
  haveI e2:decide (x≤q.2)=decide (x-1≤q.2):=by
   by_cases z:x≤q.2
   ·rw[dEt z,dEt (by exact fi2 (Y0 (.s X0 (.k 1)) X1) [Y0 X0 X1] rfl z)]
   ·rw[dEf z,dEf (by lia)]
  rw[e1,e2]
theorem qI:∀(ps:List Int) (c:Int),(c::ps).Pairwise (·≤·)→∀x∈c::ps,x≤um c ps
 |[],c,_,x,hx=>by rw[lMs hx];exact Int.le_refl _
 |p::ps,c,h,x,hx=>by
  obtain⟨h1,h2⟩:=List.pairwise_cons.mp h;cases hx with
  |head=>exact Int.le_trans (h1 p (.head _)) (qI ps p h2 p (.head _))
  |tail _ hx=>exact qI ps p h2 x hx
theorem AP(hs:pts.Pairwise (·≤·))(hm:∀x,x∈pts↔∃p∈mine,x=p.1∨x=p.2+1)(hv:∀p∈mine,p.1≤p.2):
  (∃lo,iT lo (aP (dI mine) pts none))∧∀x,InU x (aP (dI mine) pts none)↔InU x mine:=by
 cases pts with
 |nil=>
  refine⟨⟨0,trivial⟩,fun x=>⟨fun h=>(jB h).elim,fun⟨p,hp,_⟩=>?_⟩⟩;have:=(hm p.1).mpr ⟨p,hp,.inl rfl⟩;cases this
 |cons q ps=>
  have hq:=(List.pairwise_cons.mp hs).1;have hge:∀p∈mine,q≤p.1:=fun p hp=>by
   have:=(hm p.1).mpr ⟨p,hp,.inl rfl⟩;cases this with
   |head=>exact Int.le_refl _
   |tail _ h=>exact hq _ h
  have hlow:∀x,x<q→dI mine x=false:=fun x hx=>by
   rw[Bool.eq_false_iff];intro h;obtain⟨p,hp,h1,_⟩:=py.mp h;have:=hge p hp;exact fi3 (0,3,.k 0,.k 0) [Y1 X0 X1,Y0 X2 X0,Y0 X1 X2] rfl hx h1 this
  have hs':((q-1)::q::ps).Pairwise (·≤·):=by
   rw[List.pairwise_cons];refine⟨fun x hx=>?_,hs⟩;cases hx with
   |head=>exact fi1 (Y0 (.s X0 (.k 1)) X0) [] rfl
   |tail _ h=>have:=hq x h;exact fi2 (Y0 (.s X0 (.k 1)) X1) [Y0 X0 X1] rfl this
  haveI hlast:dI mine (um (q-1) (q::ps))=false:=by
   rw[Bool.eq_false_iff];intro h;obtain⟨p,hp,_,h2⟩:=py.mp h;haveI hmem:=(hm (p.2+1)).mpr ⟨p,hp,.inr rfl⟩;have:=qI (q::ps) (q-1) hs' (p.2+1) (.tail _ hmem);exact fi2 (0,3,.k 0,.k 0) [Y0 X0 X1,Y0 (.i X1) X0] rfl h2 this
  obtain⟨A,_⟩:=un (f:=dI mine) (q::ps) (q-1) hs' (fun x _ hx=>FP fun p hp=>⟨fun e=>hx ((hm x).mpr ⟨p,hp,.inl e⟩),fun e=>hx ((hm x).mpr ⟨p,hp,.inr e⟩)⟩) hlast;obtain⟨n1,n2⟩:=A (hlow _ (fi1 (Y1 (.s X0 (.k 1)) X0) [] rfl));refine⟨⟨_,n1⟩,fun x=>(n2 x).trans ⟨fun h=>py.mp h.1,fun h=>⟨py.mpr h,?_⟩⟩⟩;obtain⟨p,hp,h1,_⟩:=h;have:=hge p hp;exact fi3 (Y1 (.s X0 (.k 1)) X1) [Y0 X2 X1,Y0 X0 X2] rfl h1 this
theorem uo(g:Int→Int×Int→List β):∀{l:List (Ent α)},(l.Pairwise fun a b=>a.ver≤b.ver)→(∀e∈l,e.ver=4∨e.ver=6)→
  l.flatMap (fun e=>g e.ver (e.first,e.last))=(iv 4 l).flatMap (g 4)++(iv 6 l).flatMap (g 6)
 |[],_,_=>rfl
 |e::r,hp,hv=>by
  obtain⟨h1,h2⟩:=List.pairwise_cons.mp hp;haveI ih:=uo g h2 fun x hx=>hv x (.tail _ hx)
  rw[List.flatMap_cons,ih,eF,eF];rcases hv e (.head _)with h|h
  ·rw[h,if_pos rfl,if_neg (by decide),List.flatMap_cons,List.append_assoc]
  ·have:iv 4 r=[]:=qH fun x hx=>by have:=h1 x hx;exact fun hz=>fi2 (0,3,.k 0,.k 0) [Y2 (.k 6) X0,Y0 X0 X1,Y2 X1 (.k 4)] rfl h.symm this hz
   rw[h,this,if_neg (by decide),if_pos rfl,List.flatMap_cons];rfl
theorem H4 {α β:Type}(g:Int→Int×Int→List β){cur:Ent α}{r:List (Ent α)}(hf:sS cur r)(hv:∀e∈mg cur r [],e.ver=4∨e.ver=6){mine:Int→List (Int×Int)}{pts:Int→List Int}
  (hu:∀k x,InU x (iv k (cur::r))↔InU x (mine k))(hs:∀k,(pts k).Pairwise (·≤·))(hm:∀k x,x∈pts k↔∃p∈mine k,x=p.1∨x=p.2+1)(hok:∀k,∀p∈mine k,p.1≤p.2):
  (mg cur r []).flatMap (fun e=>g e.ver (e.first,e.last))=(aP (dI (mine 4)) (pts 4) none).flatMap (g 4)++(aP (dI (mine 6)) (pts 6) none).flatMap (g 6):=by
 haveI hc:=hf.ok;obtain⟨s1,s2,s3⟩:=vi r cur [] hf ⟨by simp,fun k=>by
  rw[eF]
  by_cases e:cur.ver=k
  ·rw[if_pos e];exact⟨cur.first,Int.le_refl _,hc,trivial⟩
  ·rw[if_neg e];exact⟨0,trivial⟩⟩
 haveI key:∀k,iv k (mg cur r [])=aP (dI (mine k)) (pts k) none:=fun k=>by
  obtain⟨lo,hn⟩:=s2 k;obtain⟨⟨lo2,hn2⟩,hu2⟩:=AP (hs k) (hm k) (hok k);refine hn.uniq hn2 fun x=>(s3 k x).trans (Iff.trans ?_ ((hu k x).trans (hu2 x).symm))
  rw[eF,eF]
  by_cases e:cur.ver=k
  ·rw[if_pos e,if_pos e,bY,bY];constructor
   ·rintro((h|h)|h)
    ·exact .inl h
    ·exact(jB h).elim
    ·exact .inr h
   ·rintro(h|h)
    ·exact .inl (.inl h)
    ·exact .inr h
  ·rw[if_neg e,if_neg e];constructor
   ·rintro(h|h)
    ·exact(jB h).elim
    ·exact h
   ·exact .inr
 rw[uo g s1 hv,key,key]
section
variable {S:Sta} {d:Nat}
theorem Bp(h:WA S d c target v (wS S d c body G (fun σ2=>lU S d c target body els G P vs σ2) P) no σ):lU S d c target body els G P (v::vs) σ:=h
theorem sw1 {f:Int→Bool}{p:Int}{r:List Int}(h:f p=true):aP f (p::r) none=aP f r (some p):=(if_pos h:(if f p=true then aP f r (some p)else aP f r none)=_)
theorem sw2 {f:Int→Bool}{p z:Int}{r:List Int}(h:f p=true):aP f (p::r) (some z)=aP f r (some z):=(if_pos h:(if f p=true then aP f r (some z)else(z,p-1)::aP f r none)=_)
theorem sw3 {f:Int→Bool}{p:Int}{r:List Int}(h:f p=false):aP f (p::r) none=aP f r none:=(if_neg (by rw[h];decide):(if f p=true then aP f r (some p)else aP f r none)=_)
theorem sw4 {f:Int→Bool}{p z:Int}{r:List Int}(h:f p=false):aP f (p::r) (some z)=(z,p-1)::aP f r none:=(if_neg (by rw[h];decide):(if f p=true then aP f r (some z)else(z,p-1)::aP f r none)=_)
theorem uq {c:FC}{X:PX}{σ:St}{P:St→Prop}(h:P σ):WUn S d c X [] [] P σ:=h
noncomputable def JO:List Stmt:=match uO with
 |[_,.For _ _ b _ _,_]=>b
 |_=>[]
noncomputable def ee:FC:={Km with cel:=[("point",5),("kind",6)]}
theorem fX:ee.scope.names=HQ:=by kernel_rfl
theorem nU:ac ee "parts" 0 .local:= .of fX (by kernel_rfl) (by kernel_rfl)
theorem iL:ac ee "found" 1 .local:= .of fX (by kernel_rfl) (by kernel_rfl)
theorem ld:ac ee "kind" 2 .cell:= .of fX (by kernel_rfl) (by kernel_rfl)
theorem ja:ac ee "mine" 3 .local:= .of fX (by kernel_rfl) (by kernel_rfl)
theorem dA:ac ee "start" 4 .local:= .of fX (by kernel_rfl) (by kernel_rfl)
theorem kg:ac ee "point" 5 .cell:= .of fX (by kernel_rfl) (by kernel_rfl)
theorem cR:ac ee "inside" 6 .local:= .of fX (by kernel_rfl) (by kernel_rfl)
theorem ur:ac ee "sorted" 7 GI:= .of fX (by kernel_rfl) (by kernel_rfl)
theorem pA:ac ee "_law_blocks" 8 GI:= .of fX (by kernel_rfl) (by kernel_rfl)
theorem FQ:br ee [("parts",v0)] [some v0,none,none,none,none,none,none,none,none]:= .cons (l:=[none,none,none,none,none,none,none,none,none]) (.nil (by kernel_rfl)) nU .zero
theorem H5(hb:Binds S (jm S) vs ks [("parts",v0)])(h:WL S (d+1) ee uO (fun o σ'=>P (de o) σ'.hp) no ⟨[some v0,none,none,none,none,none,none,none,none],[b0,b1,b2,b3,b4,.cell none,.cell none]⟩)(hd:d<1000):WFn S d (.ref rm) vs ks P no [b0,b1,b2,b3,b4]:=
 xL (fd:=jm S) (body:=uO) (bl:=[("parts",v0)]) (c:=ee) (cns:=["point","kind"]) rfl rfl HN HO hd rfl hb FQ (fun _=>rfl) (by decide) h
noncomputable def dS(x:Int×Int×Int):V:= .tup [.int x.1,.int x.2.1,.int x.2.2]
noncomputable def cr(k:Int)(pszq:List (Int×Int×Int)):List (Int×Int):=pszq.filterMap fun x=>if x.1=k then some x.2 else none
noncomputable def mK(x:Int×Int):V:= .tup [.int x.1,.int x.2]
noncomputable def stV:Option Int→V
 |none=> .none
 |some s=> .int s
noncomputable def jo(k W:Int)(x:Int×Int):List V:=(cx W x.1 x.2).map (sR k)
theorem Lr(k:Int)(pszq:List (Int×Int×Int)):pszq.filterMap (fun x=>if x.1=k then some (mK x.2)else none)=(cr k pszq).map mK:=by
 unfold cr
 induction pszq with
 |nil=>rfl
 |cons x r ih=>
  rw[List.filterMap_cons,List.filterMap_cons]
  by_cases h:x.1=k
  ·rw[if_pos h,if_pos h,List.map_cons,ih]
  ·rw[if_neg h,if_neg h,ih]
noncomputable def g6(m:List (Int×Int)):List Int:=m.map (·.1)++m.map fun x=>x.2+1
theorem Qw(m:List (Int×Int)):(m.map fun x=>V.int x.1)++(m.map fun x=>V.int (x.2+1))=(g6 m).map V.int:=by
 unfold g6;rw[lMp,List.map_map,List.map_map];rfl
noncomputable def ut(m:List (Int×Int))(p:Int):List Int:=(m.filter fun x=>decide (x.1≤p)&&decide (p≤x.2)).map (·.1)
theorem Ls(m:List (Int×Int))(p:Int):m.filterMap (fun x=>if x.1≤p∧p≤x.2 then some (V.int x.1)else none)=(ut m p).map V.int:=by
 unfold ut
 induction m with
 |nil=>rfl
 |cons x r ih=>
  rw[List.filterMap_cons]
  by_cases h:x.1≤p∧p≤x.2
  ·rw[if_pos h,List.filter_cons_of_pos (by simp[h.1,h.2])];simp[ih]
  ·rw[if_neg h,List.filter_cons_of_neg (by simp;lia)];exact ih
theorem Qx(m:List (Int×Int))(p:Int):(!decide (ut m p=[]))=dI m p:=by
 unfold ut dI
 induction m with
 |nil=>rfl
 |cons x r ih=>
  rw[List.any_cons,←ih]
  by_cases h:(decide (x.1≤p)&&decide (p≤x.2))=true
  ·rw[List.filter_cons_of_pos (p:=fun y:Int×Int=>decide (y.1≤p)&&decide (p≤y.2)) h,h];simp
  ·rw[List.filter_cons_of_neg (p:=fun y:Int×Int=>decide (y.1≤p)&&decide (p≤y.2)) h];rw[Bool.not_eq_true]at h;rw[h];simp
structure qJ(x:Int×Int×Int):Prop where
 lo:0≤x.2.1
 le:x.2.1≤x.2.2
 hi:(x.1=4∧x.2.2<2^32)∨(x.1=6∧x.2.2<2^128)
theorem JP {k:Int}{w:Nat}(hk:(k=4∧w=32)∨(k=6∧w=128)){pszq:List (Int×Int×Int)}(hv:∀x∈pszq,qJ x){p:Int}(h:p∈g6 (cr k pszq)):0≤p∧p-1<2^w:=by
 haveI key:∀y∈cr k pszq,0≤y.1∧y.1≤y.2∧y.2<2^w:=by
  intro y hy;obtain⟨x,hx,e⟩:=List.mem_filterMap.mp hy
  by_cases q:x.1=k
  ·rw[if_pos q]at e;cases e;obtain⟨h1,h2,h3⟩:=hv x hx;refine⟨h1,h2,?_⟩;rcases hk with ⟨rfl,rfl⟩|⟨rfl,rfl⟩
   ·rcases h3 with ⟨_,h⟩|⟨z,_⟩
    ·exact h
    ·lia
   ·rcases h3 with ⟨z,_⟩|⟨_,h⟩
    ·lia
    ·exact h
  ·rw[if_neg q]at e;cases e
 rcases List.mem_append.mp h with h|h
 ·obtain⟨y,hy,rfl⟩:=lMm h;obtain⟨a,b,c⟩:=key y hy;exact⟨a,fi3 (Y1 (.s X0 (.k 1)) X1) [Y0 X0 X2,Y1 X2 X1] rfl b c⟩
 ·obtain⟨y,hy,rfl⟩:=lMm h;obtain⟨a,b,c⟩:=key y hy;exact⟨fi2 (Y0 (.k 0) (.i X0)) [Y0 (.k 0) X1,Y0 X1 X0] rfl a b,fi2 (Y1 (.s (.i X0) (.k 1)) X1) [Y1 X0 X1] rfl c⟩
theorem jC(k:Int)(pszq:List (Int×Int×Int)):(cr k pszq).length≤pszq.length:=List.length_filterMap_le ..
theorem vS(m:List (Int×Int)):(g6 m).length=2*m.length:=by unfold g6;simp;exact nAs (fj1 (Y0 (.a X0 X0) (.m 2 X0)) [] rfl) (fj1 (Y0 (.m 2 X0) (.a X0 X0)) [] rfl)
inductive JQ(b0 b1 b3 b4:ai)(pszq:List (Int×Int×Int))(k:Int)(w:Nat)(acc0:List V)(pts:List Int):List Int→St→Prop
 |mk {rest:List Int} (acc:List V) (st:Option Int) (pc ins:Option V) (i1:∀q∈rest,q∈g6 (cr k pszq)) (i2:∀z,st=some z→z∈g6 (cr k pszq)) (i3:acc++(aP (dI (cr k pszq)) rest st).flatMap (jo k w)=acc0++(aP (dI (cr k pszq)) pts none).flatMap (jo k w)) (i4:acc.length+257*rest.length≤acc0.length+7710):JQ b0 b1 b3 b4 pszq k w acc0 pts rest ⟨[some (.obj 2),some (.list acc),none,some (.list ((cr k pszq).map mK)),some (stV st),none,ins,none,none],[b0,b1,.list (pszq.map dS),b3,b4,.cell pc,.cell (some (.int k))]⟩
theorem pn {c:FC}{x:Str}{v w:V}{P:St→Prop}{σ:St}(e:v=w)(h:mS c x w P σ):mS c x v P σ:=e▸h
theorem yR {k:Int}{w:Nat}(hk:(k=4∧w=32)∨(k=6∧w=128)):w6 k (w:Int)∧w≤128:=by
 rcases hk with ⟨rfl,rfl⟩|⟨rfl,rfl⟩
 ·exact⟨.inl ⟨rfl,rfl⟩,by decide⟩
 ·exact⟨.inr ⟨rfl,rfl⟩,by decide⟩
theorem Bq {b0 b1 b3 b4:ai}{pszq:List (Int×Int×Int)}{k:Int}{w:Nat}{acc0:List V}{mine0 st0 ins0 pc0:Option V}{J:St→Prop}{P:Out→St→Prop}(hk:(k=4∧w=32)∨(k=6∧w=128))(hd:d<870)(hv:∀x∈pszq,qJ x)(hz:pszq.length≤15)(ha:acc0.length≤7710)
  (next:∀pts pc st ins,pts.Perm (g6 (cr k pszq))→pts.Pairwise (·≤·)→(acc0++(aP (dI (cr k pszq)) pts none).flatMap (jo k w)).length≤acc0.length+7710→J ⟨[some (.obj 2),some (.list (acc0++(aP (dI (cr k pszq)) pts none).flatMap (jo k w))),none,some (.list ((cr k pszq).map mK)),st,none,ins,none,none],[b0,b1,.list (pszq.map dS),b3,b4,.cell pc,.cell (some (.int k))]⟩):
  wS S (d+1) ee JO (fun _=>True) J P ⟨[some (.obj 2),some (.list acc0),none,mine0,st0,none,ins0,none,none],[b0,b1,.list (pszq.map dS),b3,b4,.cell pc0,.cell (some (.int k))]⟩:=by
 show WL S (d+1) ee JO _ no _;refine ay ?_;refine EY (gO.of (cel:=[("kind",6)]) rfl) ?_ (by(intro env e1 e2;cases env;dsimp only at e1 e2;subst e1 e2;kernel_rfl));refine aa nU rfl ?_;refine⟨_,_,lH (.inl ⟨2,rfl,rfl⟩),(by rw[lMa];exact fj1 (Y0 X0 (.k 100000)) [Y0 X0 (.k 15)] rfl hz),?_⟩;refine qm dS (fun x=>if x.1=k then some (mK x.2)else none) (Os3 [none] [b0,b1,.list (pszq.map dS),b3,b4,.cell pc0,.cell (some (.int k))]) (fun x hx σ hi=>?_) (fun ws σ e hi=>?_) (.mk none none none)
 ·cases hi with
  |mk o_one o_low o_high=>
   refine dh (by exact .inl rfl) rfl ?_;refine a_n (ac.of (i:=1) (k:= .local) (l:=sE)) .z1 ?_;refine a_n (ac.of (i:=2) (k:= .local) (l:=sE)) .z2 (a_n (ac.of (i:=3) (k:= .local) (l:=sE)) .z3 ?_);refine uq (xI ?_);refine fF (ac.of (i:=1) (k:= .local) (l:=sE)) rfl (cM (i:=6) (ac.of (i:=4) (k:= .cell) (l:=sE)) (by kernel_rfl) rfl ?_);refine el (kb ?_);refine⟨fun hb=>?_,fun hb=>?_⟩
   ·
    refine bc (aa (ac.of (i:=2) (k:= .local) (l:=sE)) rfl (aa (ac.of (i:=3) (k:= .local) (l:=sE)) rfl ?_));exact⟨if_pos (by simpa using hb),.inl ⟨2,rfl,rfl⟩,.mk _ _ _⟩
   ·
    exact⟨if_neg (by simpa using hb),.inl ⟨2,rfl,rfl⟩,.mk _ _ _⟩
 ·cases hi with
  |mk o_one o_low o_high=>
   subst e;refine pn (congrArg V.list (Lr _ _)) ?_;refine ag ja .z3 (s_a (bh (ag dA .z4 (ay (tG (aQ ur Ff (am ?_)))))));refine nE (gO.of (cel:=[]) rfl) (aa ja rfl ?_);refine⟨_,_,lH (.inr rfl),(by rw[lMa];have:=jC k pszq;exact fj2 (Y0 X0 (.k 100000)) [Y0 X1 (.k 15),Y0 X0 X1] rfl hz this),?_⟩;refine qm mK (fun x=>some (V.int x.1)) (Os2 [] [b0,b1,.list (pszq.map dS),b3,b4,.cell pc0,.cell (some (.int k))]) (fun x hx σ hi=>?_) (fun ws σ e hi=>?_) (.mk none none)
   ·cases hi with
    |mk o_low o_high=>
     refine dh (by exact .inl rfl) rfl ?_;refine a_n (ac.of (i:=1) (k:= .local) (l:=u0)) .z1 (a_n (ac.of (i:=2) (k:= .local) (l:=u0)) .z2 ?_);refine uq (jF ?_);refine⟨fun _=>?_,fun q=>by cases q⟩;refine aa (ac.of (i:=1) (k:= .local) (l:=u0)) rfl ?_;exact⟨rfl,.inr rfl,.mk _ _⟩
   ·cases hi with
    |mk o_low o_high=>
     subst e;refine pv (congrArg V.list (qG _ _)) (nE (gO.of (cel:=[]) rfl) (aa ja rfl ?_));refine⟨_,_,lH (.inr rfl),(by rw[lMa];have:=jC k pszq;exact fj2 (Y0 X0 (.k 100000)) [Y0 X1 (.k 15),Y0 X0 X1] rfl hz this),?_⟩;refine qm mK (fun x=>some (V.int (x.2+1))) (Os2 [] [b0,b1,.list (pszq.map dS),b3,b4,.cell pc0,.cell (some (.int k))]) (fun x hx σ hi=>?_) (fun ws σ e hi=>?_) (.mk none none)
     ·cases hi with
      |mk o_low o_high=>
       refine dh (by exact .inl rfl) rfl ?_;refine a_n (ac.of (i:=1) (k:= .local) (l:=u0)) .z1 (a_n (ac.of (i:=2) (k:= .local) (l:=u0)) .z2 ?_);refine uq (jF ?_);refine⟨fun _=>?_,fun q=>by cases q⟩;refine eg (ac.of (i:=2) (k:= .local) (l:=u0)) rfl (dQ ?_);exact⟨rfl,.inr rfl,.mk _ _⟩
     ·cases hi with
      |mk o_low o_high=>
       subst e;refine pv (congrArg V.list (qG _ _)) ?_;refine xA (.inr rfl) (.inr rfl) ?_ ?_
       ·rw[lMa,lMa];have:=jC k pszq;exact fj2 (Y0 (.a X0 X0) (.k 100000)) [(2,0,X1,.k 15),(2,0,X0,X1)] rfl hz this
       rw[Qw];refine Hf (.inr rfl) (by have:=vS (cr k pszq);have:=jC k pszq;lia) (fun pts hpt hst=>?_);refine⟨_,.inr rfl,?_⟩;refine qn V.int (JQ b0 b1 b3 b4 pszq k w acc0 pts) (fun p r σ hi=>?_) (fun σ hi=>?_) (.mk acc0 none _ _ (fun q hq=>hpt.mem_iff.mp hq) (fun z e=>by cases e) rfl (by have:=hpt.length_eq;have:=vS (cr k pszq);have:=jC k pszq;lia))
       ·cases hi with
        |mk acc st pc ins i1 i2 i3 i4=>
         haveI hpp:=JP hk hv (i1 p (.head _));refine qh ?_;refine qg (i:=5) kg (by kernel_rfl) rfl .z5 ?_;refine s_a (Cg ?_);refine nE (gO.of (cel:=[("point",5)]) rfl) (aa ja rfl ?_);refine⟨_,_,lH (.inr rfl),(by rw[lMa];have:=jC k pszq;exact fj2 (Y0 X0 (.k 100000)) [Y0 X1 (.k 15),Y0 X0 X1] rfl hz this),?_⟩;refine qm mK (fun x=>if x.1≤p∧p≤x.2 then some (V.int x.1)else none) (Os2 [none] [b0,b1,.list (pszq.map dS),b3,b4,.cell (some (.int p)),.cell (some (.int k))]) (fun x hx σ hi=>?_) (fun ws σ e hi=>?_) (.mk none none)
         ·cases hi with
          |mk o_low o_high=>
           refine dh (by exact .inl rfl) rfl ?_;refine a_n (ac.of (i:=1) (k:= .local) (l:=u1)) .z1 (a_n (ac.of (i:=2) (k:= .local) (l:=u1)) .z2 ?_);refine uq (xI (im ?_));refine aa (ac.of (i:=1) (k:= .local) (l:=u1)) rfl (cM (i:=5) (ac.of (i:=3) (k:= .cell) (l:=u1)) (by kernel_rfl) rfl (hY ?_));refine⟨_,rfl,?_⟩;refine⟨fun h1=>?_,fun h1=>?_⟩
           ·
            refine aa (ac.of (i:=2) (k:= .local) (l:=u1)) rfl (hY ?_);refine⟨_,rfl,?_⟩;refine⟨fun hb=>?_,fun hb=>?_⟩
            ·
             refine aa (ac.of (i:=1) (k:= .local) (l:=u1)) rfl ?_;exact⟨(by exact if_pos ⟨by simpa using h1,by simpa using hb⟩),.inr rfl,.mk _ _⟩
            ·
             exact⟨(by exact if_neg (fun z=>by have:=z.2;simp at hb;exact fi2 (0,3,.k 0,.k 0) [Y0 X0 X1,Y1 X1 X0] rfl z.2 hb)),.inr rfl,.mk _ _⟩
           ·
            refine⟨fun hb=>absurd hb (by decide),fun hb=>?_⟩;exact⟨if_neg (fun z=>by have:=z.1;simp at h1;exact fi2 (0,3,.k 0,.k 0) [Y0 X0 X1,Y1 X1 X0] rfl z.1 h1),.inr rfl,.mk _ _⟩
         ·cases hi with
          |mk o_low o_high=>
           subst e;refine pv (congrArg V.list (Ls _ _)) ?_;refine fS (fB ?_);refine xM (ms:=[]) (.inr rfl) (.inr rfl) (dd hd rfl) (pv (congrArg V.bool (Qx _ _)) ?_);refine ag cR .z6 ?_;cases hin:dI (cr k pszq) p with
           |true=>
            cases st with
            |none=>
             refine s_i (bK (al (aa cR rfl ?_)));refine aK (ls (by rfl) ?_);refine bK (fF dA rfl (bh (ju rfl (kb ?_))));refine ls (by rfl) (nw (dt (by rfl) (s_a (cM (i:=5) kg (by kernel_rfl) rfl ?_))));refine ag dA .z4 (cX (bK (lr (al (aa cR rfl ?_)))));refine aK (fD (by rfl) (aC (by rfl) ?_));refine ae (ae ?_);rw[sw1 hin]at i3;exact⟨.inr rfl,.mk acc (some p) _ _ (fun q hq=>i1 q (.tail _ hq)) (fun z e=>(by cases e;exact i1 p (.head _))) (i3) (by rw[lCo]at i4;exact fj3 (Y0 (.a X0 (.m 257 X1)) (.a X2 (.k 7710))) [Y0 (.a X0 (.m 257 (.i X1))) (.a X2 (.k 7710))] rfl i4)⟩
            |some z=>
             refine s_i (bK (al (aa cR rfl ?_)));refine aK (ls (by rfl) ?_);refine bK (fF dA rfl (bh (ju rfl (kb ?_))));refine fD (by rfl) (aC (by rfl) ?_);refine cX (bK (lr (al (aa cR rfl ?_))));refine aK (fD (by rfl) (aC (by rfl) ?_));refine ae (ae ?_);rw[sw2 hin]at i3;exact⟨.inr rfl,.mk acc (some z) _ _ (fun q hq=>i1 q (.tail _ hq)) (fun y e=>i2 y e) (i3) (by rw[lCo]at i4;exact fj3 (Y0 (.a X0 (.m 257 X1)) (.a X2 (.k 7710))) [Y0 (.a X0 (.m 257 (.i X1))) (.a X2 (.k 7710))] rfl i4)⟩
           |false=>
            cases st with
            |none=>
             refine s_i (bK (al (aa cR rfl ?_)));refine aK (fD (by rfl) (aC (by rfl) ?_));refine cX (bK (lr (al (aa cR rfl ?_))));refine aK (ls (by rfl) ?_);refine bK (fF dA rfl (bh (er rfl (kb ?_))));refine fD (by rfl) (aC (by rfl) ?_);refine ae (ae ?_);rw[sw3 hin]at i3;exact⟨.inr rfl,.mk acc none _ _ (fun q hq=>i1 q (.tail _ hq)) (fun z e=>(by cases e)) (i3) (by rw[lCo]at i4;exact fj3 (Y0 (.a X0 (.m 257 X1)) (.a X2 (.k 7710))) [Y0 (.a X0 (.m 257 (.i X1))) (.a X2 (.k 7710))] rfl i4)⟩
            |some z=>
             haveI hz0:=JP hk hv (i2 z rfl);haveI hbl:(cx w z (p-1)).length≤257:=ul hz0.1 hpp.2 (yR hk).2;rw[lCo]at i4;refine s_i (bK (al (aa cR rfl ?_)));refine aK (fD (by rfl) (aC (by rfl) ?_));refine cX (bK (lr (al (aa cR rfl ?_))));refine aK (ls (by rfl) ?_);refine bK (fF dA rfl (bh (er rfl (kb ?_))));refine ls (by rfl) (nw (dt (by rfl) ?_));refine s_a (cC iL rfl (bH pA wj ?_));refine cM (i:=6) ld (by kernel_rfl) rfl ?_;refine aa dA rfl (am ?_);refine cM (i:=5) kg (by kernel_rfl) rfl ?_;refine af (bu ?_);refine bL (FM (yR hk).1 (dd hd rfl) hz0.1 (by haveI h9:=hpp.2;haveI h8:(2:Int)^w≤2^128:=qC (yR hk).2;exact fi3 (Y1 (.s X0 (.k 1)) X1) [Y1 (.s X0 (.k 1)) X2,Y0 X2 X1] rfl hpp.2 h8) (Nat.le_trans hbl (by decide))) ?_ Fw;refine xA (.inr rfl) (.inr rfl) (by rw[lMa];exact fj4 (Y0 (.a X0 X1) (.k 100000)) [Y0 X2 (.k 7710),Y0 (.a X0 (.m 257 (.i X3))) (.a X2 (.k 7710)),Y0 X1 (.k 257)] rfl ha i4 hbl) ?_;refine ag iL .z1 (s_a (bh (ag dA .z4 (ae (ae ?_)))));rw[sw4 hin]at i3;exact⟨.inr rfl,.mk (acc++(cx w z (p-1)).map (sR k)) none _ _ (fun q hq=>i1 q (.tail _ hq)) (fun z e=>(by cases e)) (by rw[←i3,List.flatMap_cons,List.append_assoc];rfl) (by rw[lAp,lMa];exact fj4 (Y0 (.a (.a X0 X1) (.m 257 X2)) (.a X3 (.k 7710))) [Y0 (.a X0 (.m 257 (.i X2))) (.a X3 (.k 7710)),Y0 X1 (.k 257)] rfl i4 hbl)⟩
       ·cases hi with
        |mk acc st pc ins i1 i2 i3 i4=>
         haveI e4:acc=acc0++(aP (dI (cr k pszq)) pts none).flatMap (jo k w):=by rw[←i3];unfold aP;simp
         subst e4;refine ae (ae ?_);exact⟨trivial,next pts _ _ _ hpt hst (by assumption)⟩
theorem H6 {b0 b1 b3 b4:ai}{pszq:List (Int×Int×Int)}{P:PX}(hd:d<870)(hv:∀x∈pszq,qJ x)(hz:pszq.length≤15)(h:∀p4 p6 hp',p4.Perm (g6 (cr 4 pszq))→p4.Pairwise (·≤·)→p6.Perm (g6 (cr 6 pszq))→p6.Pairwise (·≤·)→P (.list ((aP (dI (cr 4 pszq)) p4 none).flatMap (jo 4 32)++(aP (dI (cr 6 pszq)) p6 none).flatMap (jo 6 128))) hp'):WFn S d (.ref rm) [.obj 2] [] P no [b0,b1,.list (pszq.map dS),b3,b4]:=by
 refine H5 Ds ?_ (dd0 hd rfl);refine s_a (fS (fB (ag iL .z1 (ay (ES (bc (af ?_)))))));refine af ?_;refine⟨_,rfl,?_⟩;refine Bp (qh ?_);refine qg (i:=6) ld (by kernel_rfl) rfl .z6 ?_;refine Bq (w:=32) (.inl ⟨rfl,rfl⟩) (by assumption) hv hz (nZl _) (fun p4 pc4 st4 ins4 hp4 hs4 hl4=>?_);refine Bp (qh ?_);refine qg (i:=6) ld (by kernel_rfl) rfl .z6 ?_;refine Bq (w:=128) (.inr ⟨rfl,rfl⟩) (by assumption) hv hz (Nat.le_trans hl4 (Nat.le_of_eq (Nat.zero_add _))) (fun p6 pc6 st6 ins6 hp6 hs6 hl6=>?_);refine FH (je (aa iL rfl ?_));simp only[List.nil_append];exact h p4 p6 _ hp4 hs4 hp6 hs6
end
theorem vT(k:Nat)(y:Int):fl (2^k*y) k=2^k*y:=by unfold fl;rw[Int.mul_emod_right];exact iAs (fi1 (Y0 (.s X0 (.k 0)) X0) [] rfl) (fi1 (Y0 X0 (.s X0 (.k 0))) [] rfl)
theorem TR(e:Int)(k:Nat):fl (fl e (k+1)) k=fl e (k+1):=by
 rw[ev e (k+1),Int.pow_succ,Int.mul_assoc,vT]
theorem Qy(e:Int)(k:Nat):fl (fl e (k+1)+2^k) k=fl e (k+1)+2^k:=by
 have:fl e (k+1)+2^k=2^k*(2*(e / 2^(k+1))+1):=by
  rw[ev e (k+1),Int.mul_add,Int.mul_one]
  congr 1
  generalize e / 2^(k+1)=y;rw[Int.pow_succ,Int.mul_assoc]
 rw[this,vT]
theorem yS:∀(n q:Nat),0<q→q+n≤w+1→∀x∈cQ e w q n,fl x.1 (w-x.2)=x.1
 |0,_,_,_,_,h=>by cases h
 |n+1,q,h0,h1,x,h=>by
  rw[vd]at h;rcases List.mem_append.mp h with h|h
  ·split at h
   ·rw[lMs h];have e1:w-(q-1)=(w-q)+1:=nAs (fj5 (Y0 X0 (.i X1)) [Y0 X2 (.a X1 X3),Y0 X3 (.i X4),Y2 (.a X0 X4) X2] rfl (lsa w q) (lsa q 1) (sac w (q-1) (fj4 (Y0 X0 X1) [Y0 (.a X2 (.i X3)) (.i X1),Y0 X0 X2] rfl h1 (nSl q 1)))) (fj5 (Y0 (.i X0) X1) [Y0 X2 (.a X1 X3),Y2 (.a X0 X4) X2,Y2 (.i X3) X4] rfl (lsa w (q-1)) (sac w q (fj3 (Y0 X0 X1) [Y0 (.a X0 (.i X2)) (.i X1)] rfl h1)) (sac q 1 (fj1 (Y0 (.k 1) X0) [Y1 (.k 0) X0] rfl h0)));dsimp only;rw[e1];exact TR e _
   ·cases h
  ·exact yS n (q+1) (Nat.succ_pos _) (fj3 (Y0 (.a (.i X0) X1) (.i X2)) [Y0 (.a X0 (.i X1)) (.i X2)] rfl h1) x h
theorem yT:∀(n q:Nat),0<q→q+n≤w+1→∀x∈cA e w q n,fl x.1 (w-x.2)=x.1
 |0,_,_,_,_,h=>by cases h
 |n+1,q,h0,h1,x,h=>by
  rw[ve]at h;rcases List.mem_append.mp h with h|h
  ·split at h
   ·cases h
   ·rw[lMs h];have e1:w-(q-1)=(w-q)+1:=nAs (fj5 (Y0 X0 (.i X1)) [Y0 X2 (.a X1 X3),Y0 X3 (.i X4),Y2 (.a X0 X4) X2] rfl (lsa w q) (lsa q 1) (sac w (q-1) (fj4 (Y0 X0 X1) [Y0 (.a X2 (.i X3)) (.i X1),Y0 X0 X2] rfl h1 (nSl q 1)))) (fj5 (Y0 (.i X0) X1) [Y0 X2 (.a X1 X3),Y2 (.a X0 X4) X2,Y2 (.i X3) X4] rfl (lsa w (q-1)) (sac w q (fj3 (Y0 X0 X1) [Y0 (.a X0 (.i X2)) (.i X1)] rfl h1)) (sac q 1 (fj1 (Y0 (.k 1) X0) [Y1 (.k 0) X0] rfl h0)));dsimp only;rw[e1];exact Qy e _
  ·exact yT n (q+1) (Nat.succ_pos _) (fj3 (Y0 (.a (.i X0) X1) (.i X2)) [Y0 (.a X0 (.i X1)) (.i X2)] rfl h1) x h
theorem H7(h0:0≤a)(hab:a≤b)(hb:b<2^w):∀x∈bB a b w,fl x.1 (w-x.2)=x.1:=by
 have H0:=qD h0 hab hb;unfold bB;generalize cP a b w w=P at H0⊢;have H:mc a b w P:=H0;dsimp only;intro x hx;have tail:∀Q:Nat,Q≤w→x∈(if b<fl b (w-Q)+(2^(w-Q)-1)then cQ (b+1) w (Q+1) (w-Q)else [(fl b (w-Q),Q)])→fl x.1 (w-x.2)=x.1:=by
  intro Q hQ h;split at h
  ·exact yS _ _ (Nat.succ_pos _) (fj3 (Y0 (.a (.i X0) X1) (.i X2)) [Y2 (.a X1 X0) X2] rfl (sac w Q hQ)) x h
  ·rw[lMs h];exact rq (nRe _) b
 by_cases hc:fl b (w-P)<a
 ·rw[if_pos hc,if_pos hc]at hx;have hw:=(H.low hc hab).1;rcases List.mem_append.mp hx with h|h
  ·exact yT _ _ (Nat.succ_pos _) (fj3 (Y0 (.a (.i (.a X0 (.k 1))) X1) (.i X2)) [Y2 (.a X1 (.i X0)) X2] rfl (sac w (P+1) hw)) x (List.mem_reverse.mp h)
  ·exact tail _ hw h
 ·rw[if_neg hc,if_neg hc,List.nil_append]at hx;exact tail _ H.le hx
theorem H8(ok:cF x.w x.v x.p):[mJ x]=jo x.ver x.w (fl x.v (x.w-x.p),fl x.v (x.w-x.p)+(2^(x.w-x.p)-1)):=by
 have hx:0≤x.v / 2^(x.w-x.p):=Int.ediv_nonneg ok.lo (iLl (aV _));have:=FO (w:=(x.w:Int)) (k:=x.w-x.p) hx;rw[←ev]at this;unfold jo;dsimp only;rw[this];have hp:=ok.pf;have e:(x.w:Int)-((x.w-x.p:Nat):Int)=x.p:=iAs (fi3 (Y0 (.s X0 X1) X2) [Y0 X0 (.a X1 X2)] rfl (iOl (lsa x.w x.p))) (fi3 (Y0 X0 (.s X1 X2)) [Y2 (.a X2 X0) X1] rfl (iOj (sac x.w x.p hp)));show [V.tup [.int x.ver,.int (fl x.v (x.w-x.p)),.int x.p]]=[V.tup [.int x.ver,.int (fl x.v (x.w-x.p)),.int ((x.w:Int)-((x.w-x.p:Nat):Int))]];rw[e]
theorem yU(h0:0≤a)(hab:a≤b)(hb:b<2^w):(bB a b w).map (fun x=>mJ ⟨m,w,ver,x.1,x.2⟩)=jo ver w (a,b):=by
 unfold jo;dsimp only;rw[←jS h0 hab hb,List.map_map];refine List.map_congr_left fun x hx=>?_
 have:=H7 h0 hab hb x hx;show V.tup [.int ver,.int (fl x.1 (w-x.2)),.int x.2]=V.tup [.int ver,.int x.1,.int x.2];rw[this]
section
variable {S:Sta} {d:Nat}
theorem H9 {b0 b1 b2 b3:ai}{xs:List fC}{P:PX}(hd:d<880)(hok:∀x∈xs,x.Ok S)(hz:xs.length≤100000)(h:P (.list (xs.map mJ)) [b0,b1,b2,b3,.list (xs.map fC.val)]):WFn S d (.ref tW) [.obj 4] [] P no [b0,b1,b2,b3,.list (xs.map fC.val)]:=by
 refine K5 FD ?_ (dd0 hd rfl);refine ay (JD ?_);refine nE (gO.of (cel:=[]) rfl) (aa rW rfl ?_);refine⟨_,_,lH (.inl ⟨4,rfl,rfl⟩),(by rw[lMa];exact hz),?_⟩;refine qm fC.val (fun x=>some (mJ x)) (Os1 [] [b0,b1,b2,b3,.list (xs.map fC.val)]) (fun x hx σ hi=>?_) (fun ws σ e hi=>?_) (.mk none)
 ·cases hi with
  |mk o_net=>
   haveI Mx:=(hok x hx).1;haveI okx:=(hok x hx).2;refine qh (ag (ac.of (i:=1) (k:= .local) (l:=CG)) .z1 (jF ?_));refine⟨fun _=>?_,fun q=>by cases q⟩;refine bc (cN ?_);refine aa (ac.of (i:=1) (k:= .local) (l:=CG)) rfl ?_;refine bx (.inr rfl) (PFn.ga (bO (by assumption) (dd (k:=2) hd rfl) (by assumption)) ?_);refine cN (aa (ac.of (i:=1) (k:= .local) (l:=CG)) rfl ?_);refine bA (.inr rfl) (PFn.ga (bX (by assumption) (dd (k:=2) hd rfl) (by assumption)) ?_);refine cN (aa (ac.of (i:=1) (k:= .local) (l:=CG)) rfl ?_);refine bV (.inr rfl) (PFn.ga (cq (by assumption) (dd (k:=2) hd rfl) (by assumption)) ?_);exact⟨rfl,.inl ⟨4,rfl,rfl⟩,.mk _⟩
 ·cases hi with
  |mk o_net=>
   subst e;rw[qG];exact h
end
end Az
section
namespace S1
open Az (fi fj fi0 fj0 fi1 fj1 fi2 fj2 fi3 fj3 fi4 fj4 fi5 fj5 fi6 fj6 lsa sac tnn dtr dfa Y0 Y1 Y2 X0 X1 X2 X3 X4 X5 X6)
section
variable {n:Nat} {r:Nat→Nat}
noncomputable def Kw(n:Nat)(r:Nat→Nat):KasT α→(α→Prop)→Prop
 | .ret a,Q=>Q a
 | .ask i j k,Q=>i<n∧j<n∧Kw n r (k (decide (r i<r j))) Q
theorem Kw.mono {α:Type}{Q R:α→Prop}(h:∀a,Q a→R a):∀{t:KasT α},Kw n r t Q→Kw n r t R
 | .ret _,w=>h _ w
 | .ask _ _ _,w=>⟨w.1,w.2.1,Kw.mono h w.2.2⟩
theorem Kw.bind:∀{t:KasT α},Kw n r t (fun a=>Kw n r (f a) Q)→Kw n r (t.bind f) Q
 | .ret _,w=>w
 | .ask _ _ _,w=>⟨w.1,w.2.1,Kw.bind w.2.2⟩
theorem Kw.wp {cmp:Nat→Nat→(Bool→Shared→Prop)→Shared→Prop}{S:Shared→Prop}
  (hc:∀i j C s,i<n→j<n→S s→(∀s',S s'→C (decide (r i<r j)) s')→cmp i j C s){α:Type}{Q:α→Prop}{R:α→Shared→Prop}(hq:∀a s,S s→Q a→R a s):
  ∀{t:KasT α} {s:Shared},S s→Kw n r t Q→t.kasWp cmp R s
 | .ret _,_,hs,w=>hq _ _ hs w
 | .ask i j _,s,hs,w=>hc i j _ s w.1 w.2.1 hs fun _ hs'=>Kw.wp hc hq hs' w.2.2
noncomputable def key(r:Nat→Nat)(p:Array Nat)(i:Nat):Nat:=r (p.getD i 0)
noncomputable def Up(r:Nat→Nat)(p:Array Nat)(k:Nat):Prop:=∀i j,i≤j→j<k→key r p i≤key r p j
noncomputable def mY(r:Nat→Nat)(p:Array Nat)(k:Nat):Prop:=∀i j,i≤j→j<k→key r p j≤key r p i
noncomputable def Ok(n:Nat)(p:Array Nat):Prop:=p.Perm (List.toArray (List.range n))
theorem Ok.size(h:Ok n p):p.size=n:=by
 have:=Array.Perm.size_eq h;simpa using this
theorem Ok.lt(h:Ok n p)(hi:i<n):p.getD i 0<n:=by
 haveI hs:=h.size;haveI hm:p.getD i 0∈p:=by
  rw[Array.getD_eq_getD_getElem?,Array.getElem?_eq_getElem (by exact fj3 (Y1 X0 X1) [Y1 X0 X2,Y2 X2 X1] rfl hi hs.symm)];exact Array.getElem_mem _
 haveI hm2:=(Array.Perm.mem_iff h).1 hm;simpa using hm2
theorem kT(h:p[i]?=q[j]?):key r p i=key r q j:=by
 unfold key;rw[Array.getD_eq_getD_getElem?,Array.getD_eq_getD_getElem?,h]
theorem Ok.rev(h:Ok n p)(i j:Nat):Ok n (kas_rev p i j):=(mirror_perm p i j _).trans h
theorem Ok.bub(h:Ok n p)(i j:Nat):Ok n (bubble p i j):=(bubble_perm p i j).trans h
theorem vj(hj:j≤p.size)(k:Nat):key r (kas_rev p i j) k=if i≤k∧k<j then key r p (i+j-1-k)else key r p k:=by
 have h:=getElem?_mirror_all (i:=i) hj k;split
 ·rename_i hh;rw[if_pos hh]at h;exact kT h
 ·rename_i hh;rw[if_neg hh]at h;exact kT h
theorem yV(hj:j≤p.size)(he:∀k,i≤k→k<j→key r p k=key r p (j-1))(k:Nat):key r (kas_rev p i j) k=key r p k:=by
 rw[vj hj];split
 ·rename_i hh;rw[he _ (by exact fj5 (Y0 X0 X1) [Y1 X2 X3,Y0 X4 (.a X1 X2),Y0 (.a X0 X3) (.i X4)] rfl hh.2 (lsa (i+j-1) k) (lsa (i+j) 1)) (by exact fj5 (Y1 X0 X1) [Y0 X2 X3,Y2 (.a X0 X3) X4,Y2 (.i X4) (.a X2 X1)] rfl hh.1 (sac (i+j-1) k (fj4 (Y0 X0 X1) [Y1 X0 X2,Y0 (.a X3 X2) (.i X1)] rfl hh.2 (lsa (i+j) 1))) (sac (i+j) 1 (fj3 (Y0 (.k 1) (.a X0 X1)) [Y1 X2 X1] rfl hh.2))),he k hh.1 hh.2]
 ·rfl
theorem Up.next(hk:1≤k)(h:Up r p k)(hl:key r p (k-1)≤key r p k):Up r p (k+1):=by
 intro i j hij hj
 by_cases hjk:j=k
 ·subst hjk
  by_cases hik:i=j
  ·subst hik;exact Nat.le_refl _
  ·exact Nat.le_trans (h i (j-1) (by lia) (fj2 (Y1 X0 X1) [Y2 (.i X0) X1] rfl (sac j 1 hk))) hl
 ·exact h i j hij (by lia)
theorem mY.next(hk:1≤k)(h:mY r p k)(hl:key r p k≤key r p (k-1)):mY r p (k+1):=by
 intro i j hij hj
 by_cases hjk:j=k
 ·subst hjk
  by_cases hik:i=j
  ·subst hik;exact Nat.le_refl _
  ·exact Nat.le_trans hl (h i (j-1) (by lia) (fj2 (Y1 X0 X1) [Y2 (.i X0) X1] rfl (sac j 1 hk)))
 ·exact h i j hij (by lia)
theorem asc {p:Array Nat}(ho:Ok n p):∀(f m:Nat),1≤m→m+f≤n→Up r p m→Kw n r (kas_asc p f m) (fun m'=>m≤m'∧m'≤n∧Up r p m'∧(m'=m+f∨key r p m'<key r p (m'-1)))
 |0,m,_,hm,hu=>⟨Nat.le_refl _,fj2 (Y0 X0 X1) [Y0 (.a X0 (.k 0)) X1] rfl hm,hu,Or.inl rfl⟩
 |f+1,m,h1,hm,hu=>by
  refine⟨ho.lt (fj3 (Y1 X0 X1) [Y0 (.a X0 (.i X2)) X1] rfl hm),ho.lt (fj4 (Y1 X0 X1) [Y0 (.a X2 (.i X3)) X1,Y0 X0 X2] rfl hm (Nat.sub_le m 1)),?_⟩;dsimp only
  by_cases hc:r (p.getD m 0)<r (p.getD (m-1) 0)
  ·rw[decide_eq_true hc,if_pos rfl];exact⟨Nat.le_refl _,fj3 (Y0 X0 X1) [Y0 (.a X0 (.i X2)) X1] rfl hm,hu,Or.inr hc⟩
  ·rw[decide_eq_false hc,if_neg (by simp)];exact Kw.mono (fun m' h=>⟨fj2 (Y0 X0 X1) [Y0 (.i X0) X1] rfl h.1,h.2.1,h.2.2.1,by rcases h.2.2.2 with e|e;exact Or.inl (Nat.le_antisymm (fj3 (Y0 X0 (.a X1 (.i X2))) [Y2 X0 (.a (.i X1) X2)] rfl e) (fj3 (Y0 (.a X0 (.i X1)) X2) [Y2 (.a (.i X0) X1) X2] rfl e.symm));exact Or.inr e⟩) (asc ho f (m+1) (Nat.succ_pos _) (fj3 (Y0 (.a (.i X0) X1) X2) [Y0 (.a X0 (.i X1)) X2] rfl hm) (Up.next h1 hu (Nat.le_of_not_lt hc)))
noncomputable def rA(n:Nat)(r:Nat→Nat)(p:Array Nat)(m q:Nat):Prop:=Ok n p∧q+1≤m∧m≤n∧mY r p m∧∀k,m-(q+1)≤k→k<m→key r p k=key r p (m-1)
theorem rA.turn(h:rA n r p m q):Ok n (kas_rev p (m-(q+1)) m)∧∀k,key r (kas_rev p (m-(q+1)) m) k=key r p k:=
 ⟨h.1.rev _ _,yV (by rw[h.1.size];exact h.2.2.1) h.2.2.2.2⟩
theorem DC:∀(f:Nat) (p:Array Nat) (m q:Nat),m+f≤n→rA n r p m q→Kw n r (kas_desc f p m q) (fun x=>m≤x.2.1∧rA n r x.1 x.2.1 x.2.2)
 |0,p,m,q,_,h=>⟨Nat.le_refl _,h⟩
 |f+1,p,m,q,hm,h=>by
  obtain⟨ho,hq,hn,hd,he⟩:=h;refine⟨ho.lt (fj3 (Y1 X0 X1) [Y0 (.a X0 (.i X2)) X1] rfl hm),ho.lt (fj4 (Y1 X0 X1) [Y0 (.a X2 (.i X3)) X1,Y0 X0 X2] rfl hm (Nat.sub_le m 1)),?_⟩;dsimp only
  by_cases hc:r (p.getD m 0)<r (p.getD (m-1) 0)
  ·rw[decide_eq_true hc,if_pos rfl]
   by_cases hq0:q>0
   ·rw[if_pos hq0];haveI ho2:=(rA.turn (n:=n) (r:=r) (p:=p) (m:=m) (q:=q) ⟨ho,hq,hn,hd,he⟩).1;haveI hk:=(rA.turn (n:=n) (r:=r) (p:=p) (m:=m) (q:=q) ⟨ho,hq,hn,hd,he⟩).2;refine Kw.mono (fun x hx=>⟨fj2 (Y0 X0 X1) [Y0 (.i X0) X1] rfl hx.1,hx.2⟩) (DC f _ (m+1) 0 (fj3 (Y0 (.a (.i X0) X1) X2) [Y0 (.a X0 (.i X1)) X2] rfl hm) ⟨ho2,fj1 (Y0 (.i (.k 0)) (.i X0)) [] rfl,fj3 (Y0 (.i X0) X1) [Y0 (.a X0 (.i X2)) X1] rfl hm,?_,?_⟩)
    ·refine mY.next (fj2 (Y0 (.k 1) X0) [Y0 (.i X1) X0] rfl hq) (fun i j hij hj=>?_) ?_
     ·rw[hk,hk];exact hd i j hij hj
     ·rw[hk,hk];exact Nat.le_of_lt hc
    ·intro k h1 h2;have:k=m:=Nat.le_antisymm (fj2 (Y0 X0 X1) [Y1 X0 (.i X1)] rfl h2) (fj3 (Y0 X0 X1) [Y0 X2 X1,Y0 (.i X0) (.a X2 (.i (.k 0)))] rfl h1 (lsa (m+1) (0+1)));subst this;rfl
   ·rw[if_neg hq0];refine Kw.mono (fun x hx=>⟨fj2 (Y0 X0 X1) [Y0 (.i X0) X1] rfl hx.1,hx.2⟩) (DC f p (m+1) 0 (fj3 (Y0 (.a (.i X0) X1) X2) [Y0 (.a X0 (.i X1)) X2] rfl hm) ⟨ho,fj1 (Y0 (.i (.k 0)) (.i X0)) [] rfl,fj3 (Y0 (.i X0) X1) [Y0 (.a X0 (.i X2)) X1] rfl hm,mY.next (fj2 (Y0 (.k 1) X0) [Y0 (.i X1) X0] rfl hq) hd (Nat.le_of_lt hc),?_⟩);intro k h1 h2;have:k=m:=Nat.le_antisymm (fj2 (Y0 X0 X1) [Y1 X0 (.i X1)] rfl h2) (fj3 (Y0 X0 X1) [Y0 X2 X1,Y0 (.i X0) (.a X2 (.i (.k 0)))] rfl h1 (lsa (m+1) (0+1)));subst this;rfl
  ·rw[decide_eq_false hc,if_neg (by simp)];refine⟨ho.lt (fj4 (Y1 X0 X1) [Y0 (.a X2 (.i X3)) X1,Y0 X0 X2] rfl hm (Nat.sub_le m 1)),ho.lt (fj3 (Y1 X0 X1) [Y0 (.a X0 (.i X2)) X1] rfl hm),?_⟩;dsimp only
   by_cases hc2:r (p.getD (m-1) 0)<r (p.getD m 0)
   ·rw[decide_eq_true hc2,if_pos rfl];exact⟨Nat.le_refl _,ho,hq,hn,hd,he⟩
   ·rw[decide_eq_false hc2,if_neg (by simp)];haveI heq:key r p m=key r p (m-1):=Nat.le_antisymm (Nat.le_of_not_lt hc2) (Nat.le_of_not_lt hc);refine Kw.mono (fun x hx=>⟨fj2 (Y0 X0 X1) [Y0 (.i X0) X1] rfl hx.1,hx.2⟩) (DC f p (m+1) (q+1) (fj3 (Y0 (.a (.i X0) X1) X2) [Y0 (.a X0 (.i X1)) X2] rfl hm) ⟨ho,fj2 (Y0 (.i (.a X0 (.k 1))) (.i X1)) [Y0 (.i X0) X1] rfl hq,fj3 (Y0 (.i X0) X1) [Y0 (.a X0 (.i X2)) X1] rfl hm,mY.next (fj2 (Y0 (.k 1) X0) [Y0 (.i X1) X0] rfl hq) hd (Nat.le_of_eq heq),?_⟩);intro k h1 h2;rw[show m+1-1=m by exact Nat.le_antisymm (fj2 (Y0 X0 X1) [Y2 (.i X0) (.i X1)] rfl (sac (m+1) 1 (fj1 (Y0 (.k 1) (.i X0)) [] rfl))) (fj2 (Y0 X0 X1) [Y0 (.i X0) (.i X1)] rfl (lsa (m+1) 1))]
    by_cases hkm:k=m
    ·subst hkm;rfl
    ·rw[he k (fj5 (Y0 X0 X1) [Y0 X2 X1,Y0 (.i X3) (.a X2 (.i (.a X4 (.k 1)))),Y2 (.a X0 (.i X4)) X3] rfl h1 (lsa (m+1) (q+1+1)) (sac m (q+1) hq)) (by lia),heq]
noncomputable def Good(n:Nat)(r:Nat→Nat)(x:Nat×Array Nat):Prop:=1≤x.1∧x.1≤n∧Ok n x.2∧Up r x.2 x.1
theorem tail3 {p:Array Nat}{m:Nat}(ho:Ok n p)(h1:1≤m)(hm:m≤n)(hd:mY r p m):Kw n r (kas_tail3 m n p) (Good n r):=by
 refine Kw.bind (Kw.mono (fun m' h=>?_) (asc (ho.rev 0 m) (n-m) m h1 (Nat.le_of_eq (Nat.add_sub_of_le hm)) ?_))
 ·exact⟨Nat.le_trans h1 h.1,h.2.1,ho.rev 0 m,h.2.2.1⟩
 ·intro i j hij hj;have hs:m≤p.size:=by rw[ho.size];exact hm
  rw[vj hs,vj hs,if_pos ⟨Nat.zero_le _,Nat.lt_of_le_of_lt hij hj⟩,if_pos ⟨Nat.zero_le _,hj⟩,Nat.zero_add];exact hd _ _ (Nat.sub_le_sub_left hij _) (Nat.lt_of_le_of_lt (Nat.sub_le ..) (Nat.sub_lt h1 Nat.one_pos))
theorem descPart {p:Array Nat}{m:Nat}(ho:Ok n p)(h1:1≤m)(hm:m+1≤n)(hd:mY r p m)(hl:key r p m≤key r p (m-1)):Kw n r (kas_descPart m n p) (Good n r):=by
 refine Kw.bind (Kw.mono (fun x h=>?_) (DC (n-(m+1)) p (m+1) 0 (fj3 (Y0 (.a (.i X0) X1) X2) [Y2 (.a X1 (.i X0)) X2] rfl (sac n (m+1) hm)) ⟨ho,fj1 (Y0 (.i (.k 0)) (.i X0)) [] rfl,hm,mY.next h1 hd hl,?_⟩))
 ·obtain⟨hmx,hI⟩:=h;obtain⟨p',m',q'⟩:=x;dsimp only at hmx hI⊢;split
  ·obtain⟨ho2,hk⟩:=hI.turn;refine tail3 ho2 (fj2 (Y0 (.k 1) X0) [Y0 (.i X1) X0] rfl hmx) hI.2.2.1 fun i j hij hj=>?_
   rw[hk,hk];exact hI.2.2.2.1 i j hij hj
  ·exact tail3 hI.1 (fj2 (Y0 (.k 1) X0) [Y0 (.i X1) X0] rfl hmx) hI.2.2.1 hI.2.2.2.1
 ·intro k h1 h2;have:k=m:=Nat.le_antisymm (fj2 (Y0 X0 X1) [Y1 X0 (.i X1)] rfl h2) (fj3 (Y0 X0 X1) [Y0 X2 X1,Y0 (.i X0) (.a X2 (.i (.k 0)))] rfl h1 (lsa (m+1) (0+1)));subst this;rfl
theorem TS(hn:1≤n){p:Array Nat}(ho:Ok n p):Kw n r (kas_count n p) (Good n r):=by
 refine Kw.bind (Kw.mono (fun m h=>?_) (asc ho (n-1) 1 (Nat.le_refl _) (fj2 (Y0 (.a (.k 1) X0) X1) [Y2 (.i X0) X1] rfl (sac n 1 hn)) ?_))
 ·obtain⟨h1,h2,hu,hs⟩:=h
  by_cases hmn:m=n
  ·rw[if_pos (by simp[hmn])];exact⟨h1,h2,ho,hu⟩
  ·rw[if_neg (by simp[hmn])];haveI hl:key r p m<key r p (m-1):=by rcases hs with e|e;exact absurd e (by lia);exact e
   by_cases hm1:m>1
   ·rw[if_pos hm1];refine⟨ho.lt (by assumption),ho.lt (fj3 (Y1 X0 X1) [Y0 X2 X1,Y2 (.i X0) X2] rfl h2 (sac m 1 (fj1 (2,0,.k 1,X0) [Y1 (.k 1) X0] rfl hm1))),?_⟩;dsimp only
    by_cases hc:r (p.getD 0 0)<r (p.getD (m-1) 0)
    ·rw[decide_eq_true hc,if_pos rfl];exact⟨h1,h2,ho,hu⟩
    ·rw[decide_eq_false hc,if_neg (by simp)];haveI hc':key r p (m-1)≤key r p 0:=Nat.le_of_not_lt hc;have he:∀k,0≤k→k<m→key r p k=key r p (m-1):=fun k _ hk=>
      Nat.le_antisymm (hu k (m-1) (fj3 (Y0 X0 X1) [Y1 X0 X2,Y0 X2 (.i X1)] rfl hk (lsa m 1)) (fj2 (Y1 X0 X1) [Y2 (.i X0) X1] rfl (sac m 1 (fj1 (2,0,.k 1,X0) [Y1 (.k 1) X0] rfl hm1)))) (Nat.le_trans hc' (hu 0 k (by assumption) hk))
     have hk:=yV (r:=r) (p:=p) (i:=0) (j:=m) (by rw[ho.size];exact h2) he;refine descPart (ho.rev 0 m) h1 (by lia) (fun i j hij hj=>?_) ?_
     ·rw[hk,hk,he i (Nat.zero_le _) (Nat.lt_of_le_of_lt (by assumption) (by assumption)),he j (Nat.zero_le _) hj];exact Nat.le_refl _
     ·rw[hk,hk];exact Nat.le_of_lt hl
   ·rw[if_neg hm1];refine descPart ho h1 (by lia) (fun i j hij hj=>?_) (Nat.le_of_lt hl);have:i=j:=by lia
    subst this;exact Nat.le_refl _
 ·intro i j hij hj;have:i=j:=Nat.le_antisymm (hij) (fj2 (Y0 X0 X1) [Y1 X0 (.k 1)] rfl hj);subst this;exact Nat.le_refl _
theorem DD(ho:Ok n p)(hk:k<n)(hu:Up r p k):∀(f a b:Nat),a≤b→b≤k→b-a≤f→
  (∀i,i<a→key r p i≤key r p k)→(∀i,b≤i→i<k→key r p k<key r p i)→
  Kw n r (kas_place p k f a b) (fun l=>l≤k∧(∀i,i<l→key r p i≤key r p k)∧(∀i,l≤i→i<k→key r p k<key r p i))
 |0,a,b,hab,hb,hf,h1,h2=>by
  have:a=b:=Nat.le_antisymm hab (Nat.le_of_sub_eq_zero (Nat.le_zero.mp hf));subst this;exact⟨hb,h1,h2⟩
 |f+1,a,b,hab,hb,hf,h1,h2=>by
  unfold kas_place
  by_cases hc:a≥b
  ·have:a=b:=Nat.le_antisymm hab hc;subst this;rw[if_pos hc];exact⟨hb,h1,h2⟩
  ·rw[if_neg hc];have hc':=Nat.lt_of_not_le hc;have hm:=Nat.lt_of_lt_of_le (Az.mid_lt hc') hb;refine⟨ho.lt hk,ho.lt (Nat.lt_trans hm hk),?_⟩;dsimp only
   by_cases hd:r (p.getD k 0)<r (p.getD ((a+b) / 2) 0)
   ·rw[decide_eq_true hd,if_pos rfl];refine DD ho hk hu f a ((a+b) / 2) (Az.mid_ge hab) (Nat.le_of_lt hm) (Az.mid_lo hc' hf) h1 fun i hi hik=>?_
    exact Nat.lt_of_lt_of_le (show key r p k<key r p ((a+b) / 2)from hd) (hu _ _ hi hik)
   ·rw[decide_eq_false hd,if_neg (by simp)];refine DD ho hk hu f ((a+b) / 2+1) b (Az.mid_lt hc') hb (Az.mid_hi hab hf) (fun i hi=>?_) h2;exact Nat.le_trans (hu i ((a+b) / 2) (Nat.le_of_lt_succ hi) hm) (Nat.le_of_not_lt hd)
theorem Br(hs:s<p.size)(hd:d≤s)(k:Nat):key r (bubble p s d) k=if k=s-d then key r p s else if s-d<k∧k≤s then key r p (k-1)else key r p k:=by
 have h:=getElem?_bubble hs d hd k;split
 ·rename_i hh;rw[if_pos hh]at h;exact kT h
 ·rename_i hh;rw[if_neg hh]at h;split
  ·rename_i h3;rw[if_pos h3]at h;exact kT h
  ·rename_i h3;rw[if_neg h3]at h;exact kT h
theorem bin:∀(f:Nat) (p:Array Nat) (k:Nat),Ok n p→1≤k→k+f=n→Up r p k→Kw n r (kas_bin f p k) (fun q=>Ok n q∧Up r q n)
 |0,p,k,ho,_,hk,hu=>by
  have:k=n:=by exact Nat.le_antisymm (fj2 (Y0 X0 X1) [Y2 (.a X0 (.k 0)) X1] rfl hk) (fj2 (Y0 X0 X1) [Y2 X0 (.a X1 (.k 0))] rfl hk.symm)
  subst this;exact⟨ho,hu⟩
 |f+1,p,k,ho,h1,hk,hu=>by
  refine Kw.bind (Kw.mono (fun l hl=>?_) (DD ho (by exact fj3 (Y1 X0 X1) [Y2 (.a X0 (.i X2)) X1] rfl hk) hu k 0 k (Nat.le_of_lt (by assumption)) (Nat.le_refl _) (Nat.le_refl _) (fun i hi=>absurd hi (by exact fun hz=>fj1 (0,3,.k 0,.k 0) [Y1 X0 (.k 0)] rfl hi)) (fun i h1 h2=>absurd h2 (by exact fun hz=>fj2 (0,3,.k 0,.k 0) [Y0 X0 X1,Y1 X1 X0] rfl h1 h2))));obtain⟨hlk,ha,hb⟩:=hl;refine bin f _ (k+1) (ho.bub k _) (Nat.succ_pos _) (by lia) fun i j hij hj=>?_
  haveI hs:k<p.size:=by rw[ho.size];lia
  rw[Br hs (Nat.sub_le ..),Br hs (Nat.sub_le ..),show k-(k-l)=l from Nat.sub_sub_self hlk]
  by_cases hi1:i=l<;>by_cases hj1:j=l
  ·rw[if_pos hi1,if_pos hj1];exact Nat.le_refl _
  ·rw[if_pos hi1,if_neg hj1,if_pos ⟨by lia,by lia⟩];exact Nat.le_of_lt (hb _ (by lia) (by lia))
  ·rw[if_neg hi1,if_pos hj1,if_neg (by lia)];exact ha _ (by lia)
  ·rw[if_neg hi1,if_neg hj1]
   by_cases hi2:l<i∧i≤k
   ·rw[if_pos hi2,if_pos ⟨by lia,by lia⟩];exact hu _ _ (by lia) (by lia)
   ·rw[if_neg hi2]
    by_cases hj2:l<j∧j≤k
    ·rw[if_pos hj2];exact hu _ _ (by lia) (by lia)
    ·rw[if_neg hj2];exact hu _ _ hij (by lia)
theorem sorts(hn:1≤n):Kw n r (kas_sort n) (fun q=>Ok n q∧Up r q n):=by
 refine Kw.bind (Kw.mono (fun x h=>?_) (TS hn (Array.Perm.refl _)));obtain⟨m,p⟩:=x;obtain⟨h1,h2,ho,hu⟩:=h;dsimp only at h1 h2 ho hu⊢;split
 ·rw[show max m 1=m by lia];exact bin _ _ _ ho h1 (Nat.le_antisymm (fj3 (Y0 (.a X0 X1) X2) [Y2 (.a X1 X0) X2] rfl (sac n m h2)) (fj3 (Y0 X0 (.a X1 X2)) [Y0 X0 (.a X2 X1)] rfl (lsa n m))) hu
 ·have:m=n:=by lia
  subst this;exact⟨ho,hu⟩
end
end S1
end
section
namespace S1
open Az (fi fj fi0 fj0 fi1 fj1 fi2 fj2 fi3 fj3 fi4 fj4 fi5 fj5 fi6 fj6 lsa sac tnn dtr dfa Y0 Y1 Y2 X0 X1 X2 X3 X4 X5 X6)
theorem range_getD(d:α):∀(xs:List α),(List.range xs.length).map (fun i=>xs.getD i d)=xs:=by
 intro xs;apply List.ext_getElem
 ·simp
 ·intro i h1 h2;simp at h1⊢;simp[h1]
theorem out {α:Type}{xs:List α}{d:α}{rank:α→Nat}{p:Array Nat}(ho:Ok xs.length p)(hu:Up (fun i=>rank (xs.getD i d)) p xs.length):
  (p.toList.map fun i=>xs.getD i d).Perm xs∧(p.toList.map fun i=>xs.getD i d).Pairwise (fun a b=>rank a≤rank b):=by
 constructor
 ·have h:p.toList.Perm (List.range xs.length):=by
   have:=Array.perm_iff_toList_perm.1 ho;simpa using this
  have h2:=h.map (fun i=>xs.getD i d);rwa[range_getD]at h2
 ·rw[List.pairwise_map,List.pairwise_iff_getElem];intro i j hi hj hij;have hs:=ho.size;have hl:p.toList.length=xs.length:=by simpa using hs
  have h:=hu i j (Nat.le_of_lt hij) (by exact fj3 (Y1 X0 X1) [Y1 X0 X2,Y2 X2 X1] rfl hj hl);unfold key at h;rw[Array.getD_eq_getD_getElem?,Array.getD_eq_getD_getElem?,Array.getElem?_eq_getElem (by lia),Array.getElem?_eq_getElem (by lia)]at h;simpa using h
end S1
end
namespace Az
section
variable {prog:Program} {w:World} {A:Around} {E:PS} {s:Shared}
theorem Qz(h:Q (decide (x<y)) s):wpAny (model prog w) A (oneLt' b (.int x t) (.int y u)) Q E s:=by
 cases b with
 |true=>exact oneLt_int h
 |false=>exact kat_one _ _ (lt_int h)
theorem Ia(hx:IntsAre xs x)(hy:IntsAre ys y)(hl:x.length=y.length)(h:Q (ltI x y) s):KatLex prog w A b false Q (xs.zip ys) i s:=by
 induction hx generalizing y ys i with
 |nil=>cases hy with
  |nil=>exact kat_nil h
  |cons=>cases hl
 | @cons a t _ x hx ih=>cases hy with
  |nil=>cases hl
  | @cons c u _ y hy=>
  rw[List.zip_cons_cons];refine kat_cons (wpAny_eqBool_int ?_)
  by_cases e:a=c
  ·subst e;rw[beq_self_eq_true];refine kat_yes (ih hy (Nat.succ.inj hl) ?_);have h':Q (if a=a then ltI x y else decide (a<a)) s:=h;rwa[if_pos rfl]at h'
  ·rw[beq_eq_false_iff_ne.mpr e];refine kat_no (Qz ?_);haveI h':Q (if a=c then ltI x y else decide (a<c)) s:=h;rwa[if_neg e]at h'
theorem aj.getD(r:aj ρ n h vs xs)(hi:i<vs.length):RelV ρ n h (vs.getD i d) (xs.getD i d'):=by
 induction r using aj.indE generalizing i with
 |k0=>exact absurd hi (nNz _)
 |k1 _ _ _ _ a _ ih=>cases i with
  |zero=>exact a
  |succ i=>exact ih (i:=i) (Nat.lt_of_succ_lt_succ hi)
theorem Ib {ρ:Pl}{n k:Nat}{xss:List (List Int)}{ks:List Value}{b:Bool}{i j:Nat}{C:Bool→Shared→Prop}(hR:aj ρ n s.heap (xss.map fun x=>V.tup (x.map .int)) ks)
  (hl:∀x∈xss,x.length=k)(hi:i<xss.length)(hj:j<xss.length)(h:C (ltI (xss.getD i []) (xss.getD j [])) s):kas_ask prog w A (tuples' b) ks i j C s:=by
 haveI ri:=aj.getD (d:= .none) (d':=Value.none) hR (i:=i) (by simpa using hi);haveI rj:=aj.getD (d:= .none) (d':=Value.none) hR (i:=j) (by simpa using hj);haveI ei:(xss.map fun x=>V.tup (x.map .int)).getD i .none=V.tup ((xss.getD i []).map .int):=by simp[List.getD_eq_getElem?_getD,hi]
 haveI ej:(xss.map fun x=>V.tup (x.map .int)).getD j .none=V.tup ((xss.getD j []).map .int):=by simp[List.getD_eq_getElem?_getD,hj]
 rw[ei]at ri;rw[ej]at rj;haveI li:(xss.getD i []).length=k:=hl _ (by rw[lGd,lGe hi];exact List.getElem_mem _);haveI lj:(xss.getD j []).length=k:=hl _ (by rw[lGd,lGe hj];exact List.getElem_mem _);obtain⟨a,as,ea,⟨k1,e1⟩,r1⟩:=ri.tup_inv;obtain⟨b',bs,eb,⟨k2,e2⟩,r2⟩:=rj.tup_inv;unfold kas_ask;rw[ea,eb];refine kat_lt e1 rfl e2 rfl ?_;haveI hs:¬(as.size<bs.size):=by
  haveI l1:=r1.ints;haveI l2:=r2.ints;haveI len:∀{l:List Value} {m:List Int},IntsAre l m→l.length=m.length:=fun h=>by
   induction h with
   |nil=>rfl
   |cons _ _ _ ih=>simp[ih]
  haveI q1:=len l1;haveI q2:=len l2;rw[aTl]at q1 q2;exact fun hz=>fj5 (0,3,.k 0,.k 0) [Y2 X0 X1,Y2 X2 X0,Y2 X1 X3,Y2 X4 X2,Y1 X3 X4] rfl li.symm lj q1.symm q2 hz
 rw[dEf hs];exact Ia r1.ints r2.ints (by rw[li,lj]) h
end
section
variable {prog:Program} {w:World} {A:Around} {E:PS} {s:Shared}
theorem Ic {ρ:Pl}{n:Nat}{h:Heap}{xss:List (List Int)}{ks:List Value}(q:aj ρ n h (xss.map fun x=>V.tup (x.map .int)) ks)(hl:∀x∈xss,x.length=3):∃fs,fs.length=xss.length∧KatTups h ks fs∧∀v∈fs,∃k t,v= .int k t:=by
 induction xss generalizing ks with
 |nil=>exact q.nilE ⟨[],rfl,.nil,fun v hv=>nomatch hv⟩
 |cons x r ih=>
  refine q.consE fun _ _ a b=>?_
  obtain⟨fs,h1,h2,h3⟩:=ih b fun y hy=>hl y (.tail _ hy)
  have hx:=hl x (.head _);refine RelV.tupE a fun ad as ha r1=>?_
  obtain⟨k1,e1⟩:=ha;clear a b q ih hl;cases x with
  |nil=>cases hx
  |cons k y=>
   have ri:=r1.ints;generalize hz:as.toList=zs at ri;cases ri with
   |cons _ t hr=>
    refine⟨.int k t::fs,congrArg (·+1) h1,.cons e1 rfl rfl (by rw[←Array.getElem?_toList,hz];rfl) h2,fun v hv=>?_⟩;rcases List.mem_cons.mp hv with rfl|hv
    ·exact⟨k,t,rfl⟩
    ·exact h3 v hv
theorem FR {ρ:Pl}{n:Nat}{xss:List (List Int)}{ks:List Value}{Q:SortKind→Shared→Prop}(hR:aj ρ n s.heap (xss.map fun x=>V.tup (x.map .int)) ks)(hl:∀x∈xss,x.length=3)(h0:0<xss.length)
  (h:Q (tuples' true) s):wpAny (model prog w) A (keyKind' ks.toArray) Q E s:=by
 obtain⟨fs,h1,h2,h3⟩:=Ic hR hl;refine kat_kind (T:= .type "int") h2 (fj2 (Y1 (.k 0) X0) [Y1 (.k 0) X1,Y2 X1 X0] rfl h0 h1.symm) (fun v hv=>?_) (by decide) ?_
 ·obtain⟨k,t,rfl⟩:=h3 v hv;exact .now
 ·exact h
noncomputable def B128:Nat:=340282366920938463463374607431768211456
noncomputable def bT:List Int→Nat
 |[a,b,c]=>(a.toNat*B128+b.toNat)*B128+c.toNat
 |_=>0
noncomputable def In3(x:List Int):Prop:=∃a b c:Nat,x=[(a:Int),(b:Int),(c:Int)]∧b<B128∧c<B128
theorem lJ {B x y x' y':Nat}(hy:y<B)(hy':y'<B)(h:x*B+y≤x'*B+y'):x<x'∨(x=x'∧y≤y'):=by
 rcases Nat.lt_trichotomy x x' with e|e|e
 ·exact .inl e
 ·subst e;exact .inr ⟨rfl,Nat.le_of_add_le_add_left h⟩
 ·have h1:(x'+1)*B≤x*B:=Nat.mul_le_mul_right B e;rw[Nat.succ_mul]at h1;have h2:x'*B+B≤x'*B+y':=Nat.le_trans h1 (Nat.le_trans (Nat.le_add_right _ _) h);exact absurd (Nat.le_of_add_le_add_left h2) (Nat.not_le_of_lt hy')
theorem Bs {B x y x' y':Nat}(hy:y<B)(hy':y'<B):x*B+y<x'*B+y'↔x<x'∨(x=x'∧y<y'):=by
 refine⟨fun h=>?_,fun h=>?_⟩
 ·rcases lJ hy hy' (Nat.le_of_lt h)with e|⟨e,_⟩
  ·exact .inl e
  ·subst e;exact .inr ⟨rfl,Nat.lt_of_add_lt_add_left h⟩
 ·rcases h with e|⟨e,h⟩
  ·refine Nat.lt_of_not_le fun q=>?_
   rcases lJ hy' hy q with e'|⟨e',_⟩
   ·exact Nat.lt_asymm e e'
   ·exact Nat.lt_irrefl _ (e'▸e)
  ·subst e;exact Nat.add_lt_add_left h _
theorem Ie {x y:List Int}(hx:In3 x)(hy:In3 y):ltI x y=decide (bT x<bT y):=by
 obtain⟨a,b,c,rfl,hb,hc⟩:=hx;obtain⟨a',b',c',rfl,hb',hc'⟩:=hy;have e:ltI [(a:Int),b,c] [(a':Int),b',c']=decide ((a<a'∨(a=a'∧b<b'))∨((a*B128+b=a'*B128+b')∧c<c')):=by
  show(if(a:Int)=a' then(if(b:Int)=b' then(if(c:Int)=c' then false else decide ((c:Int)<c'))else decide ((b:Int)<b'))else decide ((a:Int)<a'))=_;simp only[Int.ofNat_inj,Int.ofNat_lt]
  by_cases q1:a=a'
  ·subst q1
   by_cases q2:b=b'
   ·subst q2
    by_cases q3:c=c'<;>simp[q3]
   ·have:¬a*B128+b=a*B128+b':=fun h=>q2 (Nat.add_left_cancel h)
    simp[q2,this]
  ·have:¬a*B128+b=a'*B128+b':=fun h=>by
    rcases lJ hb hb' (Nat.le_of_eq h)with e|e
    ·rcases lJ hb' hb (Nat.le_of_eq h.symm)with e'|e'
     ·exact Nat.lt_asymm e e'
     ·exact q1 e'.1.symm
    ·exact q1 e.1
   simp[q1,this]
 rw[e];show _=decide ((((a:Int).toNat)*B128+((b:Int).toNat))*B128+((c:Int).toNat)<(((a':Int).toNat)*B128+((b':Int).toNat))*B128+((c':Int).toNat));simp only[Int.toNat_natCast];exact decide_eq_decide.mpr (by rw[Bs hc hc',Bs hb hb'])
theorem FS {ρ:Pl}{n:Nat}{xss:List (List Int)}{ks:List Value}{b:Bool}{R:Array Nat→Shared→Prop}(hR:aj ρ n s.heap (xss.map fun x=>V.tup (x.map .int)) ks)
  (hl:∀x∈xss,In3 x)(h0:1≤xss.length)
  (h:∀p,S1.Ok xss.length p→S1.Up (fun i=>bT (xss.getD i [])) p xss.length→R p s):(kas_sort xss.length).kasWp (kas_ask prog w A (tuples' b) ks) R s:=by
 refine S1.Kw.wp (n:=xss.length) (r:=fun i=>bT (xss.getD i [])) (S:=fun s'=>s'=s) (Q:=fun q=>S1.Ok xss.length q∧S1.Up (fun i=>bT (xss.getD i [])) q xss.length) ?_ ?_ rfl (S1.sorts h0)
 ·rintro i j C s' hi hj rfl hC
  refine Ib hR (k:=3) (fun x hx=>?_) hi hj ?_
  ·obtain⟨a,b,c,rfl,_⟩:=hl x hx;rfl
  ·have m:∀i,i<xss.length→In3 (xss.getD i []):=fun i hi=>hl _ (by rw[lGd,lGe hi];exact List.getElem_mem _)
   rw[Ie (m i hi) (m j hj)];exact hC _ rfl
 ·rintro q s' rfl ⟨h1,h2⟩
  exact h q h1 h2
end
section
variable {S:Sta} {A:Around}
noncomputable def vk(x:List Int):V:=V.tup (x.map .int)
structure Kept(S:Sta)(ρ₁:Pl)(s₁:Shared)(kS:Addr)(ks:List Value)(kv:List (List Int))(ρ:Pl)(s:Shared):Prop where
 corr:CorrH S ρ [] s
 step:ah [kS] ρ₁ [] s₁ ρ [] s
 key:∃e,s.heap.get? kS=some (seqObj "list" (List.toArray ks) e)
 rel:aj ρ 0 s.heap (kv.map vk) ks
theorem Bt:g8 (seqObj "list" xs e):=fun ys k h=>by
 have:(seqObj "list" xs e).cls= .type "list":=rfl;rw[this]at h;exact absurd h (by simp)
theorem Kept.fz(K:Kept S ρ₁ s₁ kS ks kv ρ s)(h1:¬ρ₁.fz kS)(h2:s₁.heap.get? kS≠none):¬ρ.fz kS:=fun q=>by
 rcases K.step.fzn _ q with r|r
 ·exact h1 r
 ·exact h2 r
theorem Kept.upd(K:Kept S ρ₁ s₁ kS ks kv ρ s)(h1:¬ρ₁.fz kS)(h2:s₁.heap.get? kS≠none)(h3:S.H.get? kS=none)
  (T:ah [] ρ [] s ρ' [] s')(C:CorrH S ρ' [] s')(g:Array Value→Array Value):
  (∃e,s'.heap.get? kS=some (seqObj "list" (List.toArray ks) e))∧
  CorrH S ρ' [] {s' with heap:=s'.heap.update kS (Obj.mapSeq g)}∧ah [kS] ρ₁ [] s₁ ρ' [] {s' with heap:=s'.heap.update kS (Obj.mapSeq g)}∧
  (∃e,(s'.heap.update kS (Obj.mapSeq g)).get? kS=some (seqObj "list" (g (List.toArray ks)) e))∧cL ρ' ρ' 0 0 s'.heap (s'.heap.update kS (Obj.mapSeq g))∧cL ρ ρ' 0 0 s.heap s'.heap:=by
 obtain⟨e,he⟩:=K.key;have nf:=K.fz h1 h2;have he':s'.heap.get? kS=some (seqObj "list" (List.toArray ks) e):=T.frame kS _ he (by simp) (K.corr.free0 he (.inl (by simp)));have nf':¬ρ'.fz kS:=fun q=>by
  rcases T.fzn _ q with r|r
  ·exact nf r
  ·rw[he]at r;cases r
 have hu:=get?_update_seq he' g;have ns:kl ρ' [kS] s'.heap:=fun b hb=>by
  obtain rfl:=lMs hb;exact⟨⟨_,he',Bt⟩,nf'⟩
 obtain⟨C2,T2⟩:=C.moves (s':={s' with heap:=s'.heap.update kS (Obj.mapSeq g)}) ns (fun b hb=>by obtain rfl:=lMs hb;exact⟨C.free0 he' (.inl (by simp)),h3⟩)
  (fun b hb=>by
   by_cases q:b=kS
   ·subst q;show((s'.heap.update b (Obj.mapSeq g)).get? b).isSome=true;rw[hu];rfl
   ·show((s'.heap.update kS (Obj.mapSeq g)).get? b).isSome=true;rw[Heap.get?_update_ne _ _ _ _ q];exact hb)
  (fun b o hb hn=>by
   show(s'.heap.update kS (Obj.mapSeq g)).get? b=some o;rw[Heap.get?_update_ne _ _ _ _ (fun q=>hn (by simp[q]))];exact hb) C.gens rfl
 exact⟨⟨e,he'⟩,C2,(K.step.trans (T.weak (l':=[kS]) (by simp))).trans T2,⟨_,hu⟩,T2.moves C ns,T.moves K.corr gH⟩
theorem Kept.put(K:Kept S ρ₁ s₁ kS ks kv ρ s)(h1:¬ρ₁.fz kS)(h2:s₁.heap.get? kS≠none)(h3:S.H.get? kS=none)
  (T:ah [] ρ [] s ρ' [] s')(C:CorrH S ρ' [] s')(r:RelV ρ' 0 s'.heap (vk x) k):
  Kept S ρ₁ s₁ kS (ks++[k]) (kv++[x]) ρ' {s' with heap:=s'.heap.update kS (Obj.mapSeq (·.push k))}:=by
 obtain⟨_,C2,T2,⟨e,he⟩,M2,M1⟩:=K.upd h1 h2 h3 T C (·.push k);refine⟨C2,T2,⟨e,?_⟩,?_⟩
 ·rw[show List.toArray (ks++[k])=(List.toArray ks).push k by simp];exact he
 ·rw[lMp];exact((K.rel.move M1).move M2).append (.cons (r.move M2) .nil)
end
section
variable {S:Sta} {A:Around}
noncomputable def yW(S:Sta)(A:Around)(ρ₁:Pl)(s₁:Shared)(kS:Addr)(f:Value)(v:V)(x:List Int):Prop:=
 ∀ρ s,CorrH S ρ [] s→ah [kS] ρ₁ [] s₁ ρ [] s→∀x',RelV ρ 0 s.heap v x'→∀Q:Value→Shared→Prop,
  (∀k ρ' s',ah [] ρ [] s ρ' [] s'→CorrH S ρ' [] s'→RelV ρ' 0 s'.heap (vk x) k→Q k s')→wpAny S.M A (call f [x']) Q (fun _ _=>False) s
inductive TU(S:Sta)(A:Around)(ρ₁:Pl)(s₁:Shared)(kS:Addr)(f:Value)(xs:List Value)(todo:List (V×List Int))(rest:List Value)(s:Shared):Prop
 |mk (ρ:Pl) (ks:List Value) (kv:List (List Int)) (td:List (V×List Int)) (h0:aj ρ 0 s.heap (td.map (·.1)) rest) (h1:Kept S ρ₁ s₁ kS ks kv ρ s) (h2:kv++td.map (·.2)=todo.map (·.2)) (h3:(∀p∈td,yW S A ρ₁ s₁ kS f p.1 p.2)) (h4:ks.length+rest.length=xs.length)
theorem TV {ρ₁:Pl}{s₁:Shared}{kS a:Addr}{f:Value}{b:Bool}{e1:Nat}{xs:List Value}{todo:List (V×List Int)}{P:PySem.Fin→Shared→Prop}{E:PS}
  (h1:¬ρ₁.fz kS)(h2:s₁.heap.get? kS≠none)(h3:S.H.get? kS=none)(hz:xs.length<64)
  (K:Kept S ρ₁ s₁ kS [] [] ρ₁ s₁)(hr:aj ρ₁ 0 s₁.heap (todo.map (·.1)) xs)(hf:∀p∈todo,yW S A ρ₁ s₁ kS f p.1 p.2)
  (h:∀ks ρ s,ks.length=xs.length→Kept S ρ₁ s₁ kS ks (todo.map (·.2)) ρ s→wpAny S.M A (ksk_end a b xs.toArray e1 (.ref kS) (List.toArray ks)) P E s):
  wpAny S.M A (ksk_rest a f b xs.toArray e1 (.ref kS)) P E s₁:=by
 unfold ksk_rest;refine wpAny_bind (wpAny_rule ?_)
 first
  |rw[List.forIn_toArray]
  |(rw[←Array.forIn_toList];simp only[List.toList_toArray])
  |rw[←Array.forIn_toList]
 refine wpAny_bind ?_;refine Gl (fun rest _ s=>TU S A ρ₁ s₁ kS f xs todo rest s) (fun _ _=>False) (fun f' hf' Q' E' x rest u s hy _ hI=>?_) ?_ (fun _ _ h=>h.elim)
  ⟨ρ₁,[],[],todo,hr,K,rfl,hf,by simp⟩
 ·obtain⟨ρ,ks,kv,td,hR,hK,hkv,hA,hn⟩:=hI;cases td with
  |nil=>cases hR
  |cons p td=>
   obtain⟨v,y⟩:=p;cases hR with
   |cons rv rr=>
    haveI hlen:ks.length<64:=by simp only[List.length_cons]at hn;exact fj3 (Y1 X0 (.k 64)) [Y1 X1 (.k 64),Y2 (.a X0 (.i X2)) X1] rfl hz hn
    rw[hf'];refine wpAny_bind (wpAny_attempt (wpAny_mono (hA _ (.head _) ρ s hK.corr hK.step x rv (fun k s'=>∃ρ',ah [] ρ [] s ρ' [] s'∧CorrH S ρ' [] s'∧RelV ρ' 0 s'.heap (vk y) k) fun k ρ' s' T C r=>⟨ρ',T,C,r⟩) (fun k s' hk=>?_) fun _ _ hF=>hF.elim));obtain⟨ρ',T,C,r⟩:=hk;obtain⟨⟨e,he⟩,_,_,_,M2,M1⟩:=hK.upd h1 h2 h3 T C (·.push k)
    try dsimp only
    refine wpAny_bind (listUpdate_at he rfl ?_ (by rw[List.size_toArray,szl];exact fj1 (Y0 X0 (.k 16777216)) [Y1 X0 (.k 64)] rfl hlen) (Nat.le_trans (Nat.le_of_eq (Array.size_push ..)) (by rw[List.size_toArray,szl];exact fj1 (Y0 (.i X0) (.i (.k 16777216))) [Y1 X0 (.k 64)] rfl hlen)));refine wpAny_pure (hy _ _ ⟨ρ',ks++[k],kv++[y],td,(rr.move M1).move M2,hK.put h1 h2 h3 T C r,by rw[←hkv];simp,fun p hp=>hA p (.tail _ hp),?_⟩);simp only[List.length_cons,List.length_append,List.length_nil]at hn⊢;exact nAs (fj3 (Y0 (.a (.a X0 (.i (.k 0))) X1) X2) [Y2 (.a X0 (.i X1)) X2] rfl hn) (fj3 (Y0 X0 (.a (.a X1 (.i (.k 0))) X2)) [Y2 X0 (.a X1 (.i X2))] rfl hn.symm)
 ·rintro⟨⟩ s ⟨ρ,ks,kv,td,hR,hK,hkv,hA,hn⟩
  cases td with
  |cons p td=>cases hR
  |nil=>
   simp only[List.map_nil,List.append_nil]at hkv;rw[hkv]at hK;obtain⟨e,he⟩:=hK.key
   try dsimp only
   refine wpAny_bind (listItems_at he rfl ?_);exact h ks ρ s (by simpa using hn) hK
end
section
variable {S:Sta} {A:Around}
noncomputable def FT(ρ₁:Pl)(S:Sta)(s₁:Shared)(kS a:Addr)(e1:Nat)(P:PySem.Fin→Shared→Prop)(out:List Value):Prop:=
 ∀ρ s',ah [kS] ρ₁ [] s₁ ρ [] s'→CorrH S ρ [] s'→s'.heap.get? a=some (seqObj "list" #[] e1)→∀h',Heap.SameBut a s'.heap h'→h'.PlainList a out.toArray→P (.done (.ret .none)) {s' with heap:=h'}
theorem JR {ρ₁ ρ:Pl}{s₁ s:Shared}{kS a:Addr}{ks:List Value}{kv:List (List Int)}{e1:Nat}{out:List Value}{st:SortSt}{P:PySem.Fin→Shared→Prop}{E:PS}
  (K:Kept S ρ₁ s₁ kS ks kv ρ s)(h1:¬ρ₁.fz kS)(h2:s₁.heap.get? kS≠none)(h3:S.H.get? kS=none)(ha:s₁.heap.get? a=some (seqObj "list" #[] e1))(hne:a≠kS∧∀t∈eV,a≠t.1)
  (hout:(arrOf st).map (·.2)=List.toArray out)(hz:out.length<64)(hkz:ks.length<64)(hf:failedOf st=none)(h:FT ρ₁ S s₁ kS a e1 P out):
  wpAny S.M A (ksk_tail a false e1 (.ref kS) st) P E s:=by
 obtain⟨⟨e,he⟩,C2,T2,_,_,_⟩:=K.upd h1 h2 h3 (.refl ..) K.corr (fun _=> #[]);have na:(s.heap.update kS (Obj.mapSeq fun _=>(#[]:Array Value))).get? a=some (seqObj "list" #[] e1):=T2.frame a _ ha (by simpa using hne.1) ⟨hne.2,fun i hi=>absurd hi (nNz _)⟩;unfold ksk_tail
 try dsimp only
 rw[hout];refine wpAny_bind (listUpdate_at he rfl ?_ (by rw[List.size_toArray,szl];exact fj1 (Y0 X0 (.k 16777216)) [Y1 X0 (.k 64)] rfl hkz) (nZl _));refine wpAny_bind (wpAny_letGo ?_);refine wpAny_bind (seqEpoch_at na rfl ?_);refine wpAny_bind (listUpdate_at na rfl ?_ (nZl _) (by simp only[Bool.false_eq_true,if_false,List.size_toArray];rw[szl];exact fj1 (Y0 X0 (.i (.k 16777216))) [Y1 X0 (.k 64)] rfl hz));rw[hf];simp only[bne_self_eq_false,Bool.false_eq_true,if_false];exact wpAny_pure (h ρ {s with heap:=s.heap.update kS (Obj.mapSeq fun _=>(#[]:Array Value))} T2 C2 na _ (Heap.SameBut.update ..) ⟨_,get?_update_seq na fun _=>List.toArray out⟩)
noncomputable def Lu(kv:List (List Int))(xs out:List Value):Prop:=
 ∃p:Array Nat,S1.Ok xs.length p∧S1.Up (fun i=>bT (kv.getD i [])) p xs.length∧out=p.toList.map fun i=>xs.getD i Value.none
theorem VJ
  (K:Kept S ρ₁ s₁ kS ks kv ρ s)(h1:¬ρ₁.fz kS)(h2:s₁.heap.get? kS≠none)(h3:S.H.get? kS=none)(ha:s₁.heap.get? a=some (seqObj "list" #[] e1))(hne:a≠kS∧∀t∈eV,a≠t.1)
  (hz:xs.length<64)(hk:ks.length=xs.length)(hkv:kv.length=xs.length)(hl:∀x∈kv,In3 x)(h:∀out,Lu kv xs out→FT ρ₁ S s₁ kS a e1 P out):
  wpAny S.M A (ksk_end a false xs.toArray e1 (.ref kS) (List.toArray ks)) P E s:=by
 unfold ksk_end
 try dsimp only
 simp only[Bool.false_eq_true,if_false]
 by_cases h2n:xs.length<2
 ·have hs:xs.toArray.size<2:=by rw[List.size_toArray];exact h2n
  rw[if_pos hs,if_pos hs];refine wpAny_bind (wpAny_pure ?_);refine wpAny_bind ?_;rw[StateT.run_pure];refine wpAny_pure ?_;refine JR K h1 h2 h3 ha hne (out:=xs) ?_ hz (fj2 (Y1 X0 (.k 64)) [Y1 X1 (.k 64),Y2 X0 X1] rfl hz hk) rfl (h xs ⟨List.toArray (List.range xs.length),Array.Perm.refl _,fun i j hij hj=>?_,?_⟩)
  ·have e:SortSt.mk' general' (ks.toArray.zip xs.toArray) #[] 7 none=kas_st general' (ks.toArray.zip xs.toArray) (List.toArray (List.range xs.length)):=by
    have e:=kas_range (ks.toArray.zip xs.toArray);rw[show(ks.toArray.zip xs.toArray).size=xs.length by simp[hk]]at e;show SortSt.mk' general' (ks.toArray.zip xs.toArray) #[] 7 none=SortSt.mk' general' ((List.toArray (List.range xs.length)).map (kas_item (ks.toArray.zip xs.toArray))) #[] 7 none;rw[e]
   rw[e,kat_snds (ks:=ks) (vs:=xs) hk (p:=List.toArray (List.range xs.length)) rfl,List.toList_toArray,S1.range_getD]
  ·have:i=j:=nAs (hij) (fj3 (Y0 X0 X1) [Y1 X2 (.k 2),Y1 X0 X2] rfl h2n hj);subst this;exact nRe _
  ·rw[List.toList_toArray,S1.range_getD]
 ·have hs:¬xs.toArray.size<2:=by rw[List.size_toArray];exact h2n
  rw[if_neg hs,if_neg hs];refine wpAny_bind (FR (xss:=kv) K.rel (fun x hx=>by obtain⟨a,b,c,rfl,_⟩:=hl x hx;rfl) (fj2 (2,1,.k 0,X0) [Y2 X1 X0,Y0 (.k 2) X1] rfl hkv.symm (nNl h2n)) ?_);have hsort:=FS (prog:=pw) (w:=S.w) (A:=A) (b:=true) (s:=s) (R:=fun p s'=>s'=s∧S1.Ok xs.length p∧S1.Up (fun i=>bT (kv.getD i [])) p xs.length) K.rel hl (fj2 (2,0,.k 1,X0) [Y2 X1 X0,Y0 (.k 2) X1] rfl hkv.symm (nNl h2n)) (fun p a b=>⟨rfl,hkv▸a,hkv▸b⟩);rw[hkv]at hsort;refine wpAny_bind (wpAny_mono (kat_run (Q:=fun st' s'=>∃p:Array Nat,p.size=xs.length∧arrOf st'=p.map (kas_item (ks.toArray.zip xs.toArray))∧failedOf st'=none∧s'=s∧S1.Ok xs.length p∧S1.Up (fun i=>bT (kv.getD i [])) p xs.length)
   hk ((nNl h2n)) hz (fun p' st' s' a1 a2 a3 a4=>⟨p',a1,a2,a3,a4⟩) hsort) ?_ fun _ _ x=>x)
  rintro⟨⟨⟩,st'⟩ s' ⟨p,hp,har,hf,rfl,o,u⟩
  try dsimp only
  exact JR K h1 h2 h3 ha hne (kat_snds hk har) (by rw[lMa,aTl,hp];exact hz) (fj2 (Y1 X0 (.k 64)) [Y1 X1 (.k 64),Y2 X0 X1] rfl hz hk) hf (h _ ⟨p,o,u,rfl⟩)
end
section
variable {S:Sta} {A:Around}
theorem Bu(r:aj ρ n h vs xs):∀{l:List Nat},(∀j∈l,j<vs.length)→aj ρ n h (l.map fun j=>vs.getD j .none) (l.map fun j=>xs.getD j Value.none)
 |[],_=> .nil
 |j::l,hl=> .cons (aj.getD r (hl j (.head _))) (Bu r fun k hk=>hl k (.tail _ hk))
theorem aj.up {ρ ρ':Pl}{n:Nat}{h:Heap}{vs:List V}{xs:List Value}(r:aj ρ' 0 h vs xs):aj (ρ.back ρ') n h vs xs:=r.indE .nil fun _ _ _ _ a _ ih=> .cons a.up ih
theorem Lv {ρ:Pl}{hp:List ai}{s s₀ s₁:Shared}{i e1:Nat}{kS:Addr}{xs:List Value}{todo:List (V×List Int)}{f:Value}{P:PySem.Fin→Shared→Prop}{E:PS}(C:CorrH S ρ hp s)
  (hil:i<hp.length)(C0:CorrH S ρ (hp.set i (.list [])) s₀)(T0:ah [] ρ hp s ρ (hp.set i (.list [])) s₀)(C1:CorrH S ρ (hp.set i (.list [])) s₁)(T1:∀b o,s₀.heap.get? b=some o→s₁.heap.get? b=some o)
  (hk0:s₀.heap.get? kS=none)(hk1:s₁.heap.get? kS=some (seqObj "list" #[] 0))(hA:s₁.heap.get? (ρ.pl i).1=some (seqObj "list" #[] e1))(hn:(ρ.pl i).1≠kS)(hx:xs.length=todo.length)(hr:aj ρ 0 s₁.heap (todo.map (·.1)) xs)
  (hz:todo.length<64)(hl:∀p∈todo,In3 p.2)
  (hf:∀p∈todo,yW S A ρ s₁ kS f p.1 p.2)
  (h:∀p:Array Nat,S1.Ok todo.length p→S1.Up (fun j=>bT ((todo.map (·.2)).getD j [])) p todo.length→∀ρ' s',CorrH S ρ' (hp.set i (.list (p.toList.map fun j=>(todo.map (·.1)).getD j .none))) s'→
   ah [] ρ hp s ρ' (hp.set i (.list (p.toList.map fun j=>(todo.map (·.1)).getD j .none))) s'→P (.done (.ret .none)) s'):wpAny S.M A (ksk_rest (ρ.pl i).1 f false xs.toArray e1 (.ref kS)) P E s₁:=by
 have h1:¬ρ.fz kS:=C0.nfz_of hk0;have h2:s₁.heap.get? kS≠none:=by rw[hk1];simp
 haveI h3:S.H.get? kS=none:=C0.fresh_of hk0;haveI K0:Kept S ρ s₁ kS [] [] ρ s₁:=⟨C1.forget,.refl ..,⟨0,hk1⟩,.nil⟩;refine TV h1 h2 h3 (fj2 (Y1 X0 (.k 64)) [Y2 X0 X1,Y1 X1 (.k 64)] rfl hx hz) K0 hr hf fun ks ρ2 s2 hks K=>?_
 refine VJ K h1 h2 h3 hA ⟨hn,C1.noTab hA (.inl (by simp))⟩ (fj2 (Y1 X0 (.k 64)) [Y2 X0 X1,Y1 X1 (.k 64)] rfl hx hz) hks (by rw[lMa,hx]) (fun x hx=>by obtain⟨p,hp,rfl⟩:=lMm hx;exact hl p hp) ?_
 rintro out ⟨p,ok,up,rfl⟩ ρ3 s3 T3 C3 hA3 h' hsame hpl
 rw[hx]at ok up;haveI nt:kl ρ [kS] s₁.heap:=fun b hb=>by
  obtain rfl:=lMs hb;exact⟨⟨_,hk1,Bt⟩,h1⟩
 haveI M3:cL ρ ρ3 0 0 s₁.heap s3.heap:=T3.moves C1.forget nt;haveI T1':ah [] ρ [] s₀ ρ [] s₁:=⟨fun _ _=>rfl,nRe _,g7 T1,fun b o e _ _=>T1 b o e,fun i h1 h2=>absurd h2 (Nat.not_lt.mpr h1),fun _ h=>h,fun _ h=> .inl h⟩;haveI TT:=T1'.leave hk0 T3;haveI C4:=(C0.frame TT C3).1;haveI T4:=(C0.frame TT C3).2;haveI hi4:(hp.set i (.list []))[i]?=some (.list []):=List.getElem?_set_self hil;haveI rall:=(hr.move M3);haveI hm:∀j∈p.toList,j<(todo.map (·.1)).length:=fun j hj=>by
  rw[lMa];have:=(Array.Perm.mem_iff ok).1 (Array.mem_toList_iff.mp hj);simpa using this
 haveI hrel:cL (ρ.back ρ3) (ρ.back ρ3) (hp.set i (.list [])).length (hp.set i (.list [])).length s3.heap h'→aj (ρ.back ρ3) (hp.set i (.list [])).length h' (p.toList.map fun j=>(todo.map (·.1)).getD j .none) ((p.toList.map fun j=>xs.getD j Value.none).toArray).toList:=fun M5=>by
  rw[List.toList_toArray];exact Bu ((aj.up rall).move M5) hm
 haveI C5:=(C4.listSet (tk:=s3.toks) hi4 hsame hpl hrel).1;haveI T5:=(C4.listSet (tk:=s3.toks) hi4 hsame hpl hrel).2;rw[List.set_set]at C5 T5;exact h p ok up _ _ C5 ((T0.trans T4).trans T5)
theorem TW {ρ:Pl}{hp:List ai}{s:Shared}{i:Nat}{todo:List (V×List Int)}{f:Value}{P:PySem.Fin→Shared→Prop}{E:PS}(C:CorrH S ρ hp s)(hi:hp[i]?=some (.list (todo.map (·.1))))(hcl:nobs (todo.map (·.1))=true)
  (hz:todo.length<64)(hl:∀p∈todo,In3 p.2)
  (hf:∀s₁ kS,s.heap.get? kS=none→(∀b o,s.heap.get? b=some o→b≠(ρ.pl i).1→s₁.heap.get? b=some o)→∀p∈todo,yW S A ρ s₁ kS f p.1 p.2)
  (h:∀p:Array Nat,S1.Ok todo.length p→S1.Up (fun j=>bT ((todo.map (·.2)).getD j [])) p todo.length→∀ρ' s',CorrH S ρ' (hp.set i (.list (p.toList.map fun j=>(todo.map (·.1)).getD j .none))) s'→
   ah [] ρ hp s ρ' (hp.set i (.list (p.toList.map fun j=>(todo.map (·.1)).getD j .none))) s'→P (.done (.ret .none)) s'):wpAny S.M A (ksk_tree (ρ.pl i).1 f false) P E s:=by
 haveI hil:=(lSi hi).1;obtain⟨_,xs,⟨n0,ho⟩,hr⟩:=C.objs i _ hi;haveI hxs:xs.size=todo.length:=by have:=hr.length;rw[aTl,lMa]at this;exact this
 haveI hs1:=Heap.SameBut.update s.heap (ρ.pl i).1 (Obj.mapSeq fun _=>(#[]:Array Value));obtain⟨e1,hA⟩:∃e1,(s.heap.update (ρ.pl i).1 (Obj.mapSeq fun _=>(#[]:Array Value))).get? (ρ.pl i).1=some (seqObj "list" #[] e1):=⟨_,get?_update_seq (c:="list") (xs:=xs) (n:=n0) ho fun _=> #[]⟩;haveI CA:=(C.listSet (tk:=s.toks) (ws:=[]) hi hs1 ⟨e1,hA⟩ fun M=> .nil).1;haveI TA:=(C.listSet (tk:=s.toks) (ws:=[]) hi hs1 ⟨e1,hA⟩ fun M=> .nil).2;haveI C0:=(CA.push (seqObj "tuple" xs.toList.toArray 0) s.toks).1;haveI T0:=(CA.push (seqObj "tuple" xs.toList.toArray 0) s.toks).2;haveI C1:=(C0.push (seqObj "list" #[] 0) s.toks).1;haveI T1:=(C0.push (seqObj "list" #[] 0) s.toks).2;unfold ksk_tree;refine wpAny_bind (listItems_at ho rfl ?_);refine wpAny_bind (listUpdate_at ho rfl ?_ (by rw[szl];exact fj2 (Y0 X0 (.k 16777216)) [Y1 X1 (.k 64),Y2 X0 X1] rfl hz hxs) (nZl _));refine wpAny_bind (seqEpoch_at hA rfl ?_);refine wpAny_bind (wpAny_newTuple ?_ (by rw[aTl,szl];exact fj2 (Y0 X0 (.k 16777216)) [Y1 X1 (.k 64),Y2 X0 X1] rfl hz hxs));refine wpAny_bind (wpAny_newList ?_ (nZl _));refine wpAny_holding ?_;dsimp only at C0 C1 T0 T1⊢;haveI hup:∀b o,s.heap.get? b=some o→b≠(ρ.pl i).1→(((s.heap.update (ρ.pl i).1 (Obj.mapSeq fun _=>(#[]:Array Value))).push (seqObj "tuple" xs.toList.toArray 0)).push (seqObj "list" #[] 0)).get? b=some o:=
  fun b o e hb=>Heap.get?_push_of_some _ (Heap.get?_push_of_some _ ((hs1.2 b hb).trans e))
 haveI M:=((TA.trans T0).trans T1).moves C gH;rw[List.length_set]at M;haveI hA1:=Heap.get?_push_of_some (seqObj "list" #[] 0) (Heap.get?_push_of_some (seqObj "tuple" xs.toList.toArray 0) hA);have hk0:=aq ((s.heap.update (ρ.pl i).1 (Obj.mapSeq fun _=>(#[]:Array Value))).push (seqObj "tuple" xs.toList.toArray 0)) (nRe _);haveI key:=Lv (S:=S) (A:=A) (f:=f) (P:=P) (E:=E) (e1:=e1) (xs:=xs.toList) C hil C0 (TA.trans T0) C1 (fun b o e=>Heap.get?_push_of_some _ e) hk0 (Heap.get?_push_size _ rfl) hA1
  (bF (Heap.get?_push_of_some (seqObj "tuple" xs.toList.toArray 0) hA) hk0) (by rw[aTl];exact hxs) ((hr.move M).closed hcl) hz hl (hf _ _ (cV (TA.trans T0).live hk0) hup) h
 haveI e:xs.toList.toArray=xs:=Array.toArray_toList ..;rw[e]at key⊢;exact key
end
section
variable {S:Sta} {A:Around}
theorem yX(ok:S1.Ok todo.length p)(up:S1.Up (fun j=>bT ((todo.map (·.2)).getD j [])) p todo.length):
  ∃td:List (V×List Int),td.Perm todo∧td.Pairwise (fun a b=>bT a.2≤bT b.2)∧(p.toList.map fun j=>(todo.map (·.1)).getD j .none)=td.map (·.1):=by
 haveI hr:∀j,bT ((todo.map (·.2)).getD j [])=bT ((todo.getD j (.none,[])).2):=fun j=>by
  by_cases h:j<todo.length
  ·simp[List.getD_eq_getElem?_getD,h]
  ·simp[List.getD_eq_getElem?_getD,h]
 haveI up':S1.Up (fun j=>(fun q:V×List Int=>bT q.2) (todo.getD j (.none,[]))) p todo.length:=fun i j hij hj=>by
  have:=up i j hij hj;unfold S1.key at this⊢;simp only[hr]at this;exact this
 haveI h1:=(S1.out (rank:=fun q:V×List Int=>bT q.2) ok up').1;haveI h2:=(S1.out (rank:=fun q:V×List Int=>bT q.2) ok up').2;refine⟨_,h1,h2,?_⟩;rw[List.map_map];refine List.map_congr_left fun j _=>?_
 by_cases h:j<todo.length
 ·simp[List.getD_eq_getElem?_getD,h]
 ·simp[List.getD_eq_getElem?_getD,h]
theorem FU(C:CorrH S ρ hp s)(hi:hp[i]?=some (.list (todo.map (·.1))))(hcl:nobs (todo.map (·.1))=true)
  (hz:todo.length<64)(hl:∀p∈todo,In3 p.2)
  (hf:∀s₁ kS,s.heap.get? kS=none→(∀b o,s.heap.get? b=some o→b≠(ρ.pl i).1→s₁.heap.get? b=some o)→∀p∈todo,yW S A.in1 ρ s₁ kS (.ref q) p.1 p.2)
  (h:∀td:List (V×List Int),td.Perm todo→td.Pairwise (fun a b=>bT a.2≤bT b.2)→∀ρ' s',CorrH S ρ' (hp.set i (.list (td.map (·.1)))) s'→ah [] ρ hp s ρ' (hp.set i (.list (td.map (·.1)))) s'→Q .none s'):
  wpAny S.M A (call (.builtin "list.sort") [.ref (ρ.pl i).1] [(Str.ofString "key",.ref q)]) Q E s:=by
 obtain⟨_,xs,⟨n0,ho⟩,hr⟩:=C.objs i _ hi;refine wpAny_call_entry_kw slot_list_sort ⟨_,ho,rfl⟩ entry_list_sort ?_ (ksk_l1 _ _);rw[ksk_t1];refine TW C hi hcl hz hl hf fun p ok up ρ' s' C' T'=>⟨_,rfl,?_⟩
 obtain⟨td,h1,h2,h3⟩:=yX ok up;rw[h3]at C' T';exact h td h1 h2 ρ' s' C' T'
end
theorem nV {pos pos':Pos}{c cv:Value}:∀(l:List Value),TriplesOk l→codeAmong pos (l++[rawInt pos'.line,rawInt pos'.col,c])=some cv→codeAmong pos l=some cv∨cv=c:=by
 intro l h
 fun_induction TriplesOk l with
 |case1=>
  intro e;simp only[List.nil_append,rawInt,codeAmong]at e;split at e
  ·exact .inr (Option.some.inj e).symm
  ·cases e
 |case2 a t b u v rest ih=>
  intro e;simp only[List.cons_append,codeAmong]at e⊢;split
  ·rename_i q;rw[if_pos q]at e;exact .inl e
  ·rename_i q;rw[if_neg q]at e;exact ih h e
 |case3=>exact h.elim
theorem Ig:∀t∈eV,∀t'∈eV,t.1=t'.1→t=t':=by decide+kernel
section
variable {S:Sta}
theorem CorrH.table(C:CorrH S ρ hp s)(ht:(P,q)∈eV)(hx:∀b o,b≠P→s.heap.get? b=some o→s'.heap.get? b=some o)(hg:AllBare s'.gens)(ho:s'.os=s.os)
  (hz:∀b,Z b→s.heap.get? b=none∧(s'.heap.get? b).isSome=true)(hT:tu (ρ.more Z).fz s'.heap (P,q)):CorrH S (ρ.more Z) hp s'∧ah [] ρ hp s (ρ.more Z) hp s':=by
 have nt:∀i o,hp[i]?=some o→(ρ.pl i).1≠P∧(ρ.pl i).2≠P:=fun i o h=>by
  haveI n1:=((C.objs i o h).noTab).1;haveI n2:=((C.objs i o h).noTab).2;obtain⟨ps,e1,_⟩:=C.tab _ ht;exact⟨fun e=>n1 ps (e▸e1),fun e=>n2 ps (e▸e1)⟩
 have M:cL ρ (ρ.more Z) hp.length hp.length s.heap s'.heap:=⟨fun a xs ⟨k,e⟩=>⟨k,hx a _ (C.noTab e (.inl (by simp)) _ ht) e⟩,fun _ _=>rfl,nRe _,fun _ h=> .inl h,fun b o hz e=>hx b o ((C.fz b hz).1.1 _ ht) e⟩;have live:∀b,(s.heap.get? b).isSome=true→(s'.heap.get? b).isSome=true:=fun b hb=>by
  by_cases e:b=P
  ·obtain⟨ps,e1,_⟩:=hT;rw[e,e1];rfl
  ·obtain⟨o,h1⟩:=oSm hb;rw[hx b o e h1];rfl
 refine⟨⟨fun b o e=>hx b o (fun q'=>by rw[q',S.tb _ ht]at e;cases e) (C.keep b o e),fun i o h=>(C.objs i o h).move M (fun ob e=>hx _ ob (nt i o h).1 e) (fun ob e=>hx _ ob (nt i o h).2 e),C.fresh,C.inj,hg,ho.trans C.os,fun b h=>?_,fun t ht'=>?_⟩,
  fun _ _=>rfl,nRe _,live,fun b o e _ hf=>hx b o (hf.1 _ ht) e,fun i h1 h2=>absurd h2 (Nat.not_lt.mpr h1),fun _ h=> .inl h,fun b h=>h.imp id fun q=>(hz b q).1⟩
 ·rcases h with h|h
  ·exact⟨(C.fz b h).1,live b (C.fz b h).2⟩
  ·exact⟨C.free_of (hz b h).1,(hz b h).2⟩
 ·by_cases e:t.1=P
  ·have:=Ig t ht' _ ht e;rw[this];exact hT
  ·exact(C.tab t ht').move (fun o h=>hx _ o e h) fun c hc=>⟨.inl hc,fun o h=>hx _ o ((C.fz c hc).1.1 _ ht) h⟩
theorem Sta.bmain(C:CorrH S ρ hp s)(ht:(P,q)∈eV)(hb:nsIn S.K 3 "__builtins__" =some (some (.ref 4)))(h4:S.K.lookup 4=some ⟨.type "module",some 0,.plain,sl⟩):s.heap.BuiltinsAt S.mg P:=by
 haveI X:=S.X.keeps C.keep;haveI h1:=X _ _ h4;exact⟨4,_,mg_of S.X S.g hb,by decide,by decide,C.noTab h1 (.inl (by simp)) _ ht,h1,rfl,rfl,rfl⟩
theorem Ih
  (C:aG S c cl L ρ σ s)(ht:(P,qual)∈eV)(hcode:c.code= .ref cc)(hd:codeHdIn S.K cc P=true)(hcl:∀env,closureFor sc env=pure [])(hdf:∀env,defaultsOf params env=([],[]))(hq:c.qual++"<lambda>" =qual)
  (hb:nsIn S.K 3 "__builtins__" =some (some (.ref 4)))(h4:S.K.lookup 4=some ⟨.type "module",some 0,.plain,sl⟩)
  (h:∀q c' ctv pm ρ' s',aG S c cl L ρ' σ s'→ah [L] ρ σ.hp s ρ' σ.hp s'→ρ'.fz q→ρ'.fz c'→s'.heap.get? q=some (kla_obj "<lambda>" qual params body sc [] pm c' ctv)→s'.heap.CodeRec (.ref c') qual→Q (.ref q) s'):
  wpAny S.M A (eval (.Lambda params body sc pos) (c.env cl L a)) Q E s:=by
 refine kla_eval (hdf _) ?_;haveI X:=S.X.keeps C.keep;obtain⟨ps,e1,e2,e3⟩:=C.tab _ ht;have hg:=S.g.keeps C.keep;haveI hne3:mainGlobals≠P:=fun e=>by
  obtain⟨o,es,ep,h1,h2,_⟩:=hg;exact C.noTab h1 (.inr fun ps q=>by rw[h2]at q;cases q) _ ht e
 haveI hqq:(c.env cl L a).qual++"<lambda>" =qual:=hq;rw[hqq];cases hf:codeAmong pos ps.toList with
 |none=>
  refine kla_makeFunction (hcl _) rfl hg hcode (codeHd_of_K X hd) e1 e2 hf hne3 (Sta.bmain C.toCorrH ht hb h4) fun c' ctv h' tk hx hge hlt hrec htb=>?_
  haveI live':∀b,b=c'∨b=h'.objs.size→s.heap.get? b=none∧((h'.push (kla_obj "<lambda>" qual params body sc [] ((S.mg "__name__").getD .none) c' ctv)).get? b).isSome=true:=fun b hb=>by
   rcases hb with rfl|rfl
   ·obtain⟨c₂,oc,vs,t,q1,q2,_⟩:=hrec;cases q1;exact⟨aq _ hge,by rw[Heap.get?_push_of_some _ q2];rfl⟩
   ·exact⟨aq _ (Nat.le_trans hge (Nat.le_of_lt hlt)),by rw[Heap.get?_push_size _ rfl];rfl⟩
  haveI hrec':=hrec.push (kla_obj "<lambda>" qual params body sc [] ((S.mg "__name__").getD .none) c' ctv);obtain⟨C',T⟩:=C.toCorrH.table (s':={s with heap:=h'.push (kla_obj "<lambda>" qual params body sc [] ((S.mg "__name__").getD .none) c' ctv),toks:=tk}) ht (fun b o hb e=>Heap.get?_push_of_some _ (hx b o hb e)) C.gens rfl live'
   ⟨_,Heap.get?_push_of_some _ htb,by simpa using TriplesOk_snoc _ _ _ _ e2,fun pos' cv e=>by
    haveI e':codeAmong pos' (ps.toList++[rawInt pos.line,rawInt pos.col,.ref c'])=some cv:=by simpa using e
    rcases nV _ e2 e' with q|rfl
    ·obtain⟨c₂,rfl,f1,c₃,oc,vs,tq,q1,q2,q3⟩:=e3 pos' cv q;cases q1;exact⟨c₂,rfl,.inl f1,c₂,oc,vs,tq,rfl,Heap.get?_push_of_some _ (hx _ _ ((C.fz _ f1).1.1 _ ht) q2),q3⟩
    ·exact⟨c',rfl,.inr (.inl rfl),hrec'⟩⟩
  exact h _ c' ctv _ _ _ (C.hmove T C') T.wide (.inr (.inr rfl)) (.inr (.inl rfl)) (Heap.get?_push_size _ rfl) hrec'
 |some cv=>
  obtain⟨c',rfl,f1,hrec⟩:=e3 _ _ hf;refine kla_makeFunctionHit (hcl _) rfl hg hcode (codeHd_of_K X hd) e1 e2 hf (Sta.bmain C.toCorrH ht hb h4) fun ctv h' tk hk hsz=>?_
  haveI kk:∀b o,s.heap.get? b=some o→(h'.push (kla_obj "<lambda>" qual params body sc [] ((S.mg "__name__").getD .none) c' ctv)).get? b=some o:=fun b o e=>Heap.get?_push_of_some _ (hk b o e)
  obtain⟨C',T⟩:=C.freeze (s':={s with heap:=h'.push (kla_obj "<lambda>" qual params body sc [] ((S.mg "__name__").getD .none) c' ctv),toks:=tk}) kk C.gens rfl (·=h'.objs.size) fun b hb=>by
   subst hb;exact⟨aq _ hsz,by show((h'.push _).get? _).isSome=true;rw[Heap.get?_push_size _ rfl];rfl⟩
  exact h _ c' ctv _ _ _ C' T (.inr rfl) (.inl f1) (Heap.get?_push_size _ rfl) (hrec.keeps kk)
noncomputable def yY(qual:Str)(sc:Scope)(q c':Addr):FC:={qual:=qual++".<locals>.",scope:=sc,code:= .ref c',fn:=q}
theorem Ii {d:Nat}{ρ:Pl}{hp:List ai}{s:Shared}{A:Around}{n qual:Str}{params:Arguments}{body:Ex}{sc:Scope}{pm ctv:Value}{q c':Addr}{v:V}{x':Value}{loc:List (Option V)}{P:PX}{Q E:PS}
  (hA:AOk A d)(hd:d<1000)(C:CorrH S ρ hp s)(hq:s.heap.get? q=some (kla_obj "<lambda>" qual params body sc [] pm c' ctv))(hrec:s.heap.CodeRec (.ref c') qual)(rv:RelV ρ hp.length s.heap v x')
  (hbind:bindArgs (kla_fn "<lambda>" qual params body sc [] pm (.ref c') ctv) ⟨[x'],[]⟩=pure [(n,x')])(hcell:∀x∈sc.names,x.2≠.cell)(hl:br (yY qual sc q c') [(n,v)] loc)
  (h:WEx S (d+1) (yY qual sc q c') body (fun w σ'=>P w σ'.hp) no ⟨loc,hp⟩)
  (hQ:∀w w' hp' ρ' s',P w hp'→ah [] ρ hp s ρ' hp' s'→CorrH S ρ' hp' s'→RelV ρ' hp'.length s'.heap w w'→Q w' s')
  (hco:sc.isCoroutine=false)(hgen:sc.isGenerator=false)(hk:sc.kind= .function):wpAny S.M A (call (.ref q) [x']) Q E s:=by
 refine wpAny_call (kla_callFunE (body:=body) (Nat.lt_of_le_of_lt hA.depth hd) hq rfl hco hgen rfl hrec ?_);rw[hbind];refine wpAny_pure (wpAny_newFunctionEnv hcell (fun y hy=>?_) (fun h₁ hns hsb=>?_) hk)
 ·obtain rfl:=lMs hy;exact hl.kinds (n,v) (.head _)
 ·have hnone:s.heap.get? s.heap.objs.size=none:=aq _ (nRe _);haveI hk₁:∀b o,s.heap.get? b=some o→h₁.get? b=some o:=fun b o e=>hsb.extBut b o (nNe (Heap.lt_size e)) (Heap.get?_push_of_some _ e)
  obtain⟨C1,T1⟩:=C.grows (s':={s with heap:=h₁,toks:=s.toks+[(n,x')].length}) (fun b o e=>hk₁ b o e) C.gens rfl;refine⟨(S.lim.keeps C.keep).keeps hk₁,kla_codeExpr ?_⟩;haveI CC:aG S (yY qual sc q c') [] s.heap.objs.size ρ ⟨loc,hp⟩ {s with heap:=h₁,toks:=s.toks+[(n,x')].length}:=
   ⟨C1,⟨_,hns,fun x=>by
    rw[hl.slot x];haveI r1:bq ρ hp.length s.heap [(n,v)] [(n,x')]:= .cons rv .nil;exact(r1.move (T1.moves C gH)).look⟩,C.fresh_of hnone,C.free_of hnone,C.nfz_of hnone,fun x i e=>(by cases e),fun x a e=>(by cases e)⟩
  exact h (A.deeper _) [] s.heap.objs.size q ρ _ (hA.deeper _) CC _ _ (fun w w' σ' ρ' s' p T C' r=>hQ w w' σ'.hp ρ' s' p (ah.leave T1 hnone T) C'.toCorrH r) (fun _ _ _ _ _ x=>x.elim)
end
section
variable {S:Sta} {d:Nat} {c:FC} {X:PX} {σ:St}
theorem QA(e:σ.hp[i]?=some (.list vs))(h:P (.top (.builtin "list.sort")) [.obj i] σ):iO S d c (.obj i) "sort" P X σ:=lx (by unfold du;dsimp only;rw[e]) PySem.F.plainAttrs_list PySem.F.slot_list_sort PySem.F.type_list_sort (by decide) h
inductive QB(S:Sta)(d:Nat)(qual:Str)(sc:Scope)(n:Str)(body:Ex)(P:PV)(v:V)(σ1:St):Prop
 |mk (i:Nat) (todo:List (V×List Int)) (h0:v= .obj i) (h1:σ1.hp[i]?=some (.list (todo.map (·.1)))) (h2:nobs (todo.map (·.1))=true) (h3:todo.length<64) (h4:(∀p∈todo,In3 p.2)) (h5:(∀p∈todo,∀q c',∃loc,br (yY qual sc q c') [(n,p.1)] loc∧WEx S (d+2) (yY qual sc q c') body (fun w σ'=>w=vk p.2∧σ'.hp=[]) no ⟨loc,[]⟩)) (h6:∀td:List (V×List Int),td.Perm todo→td.Pairwise (fun a b=>bT a.2≤bT b.2)→P .none ⟨σ1.loc,σ1.hp.set i (.list (td.map (·.1)))⟩)
theorem FV
  (ht:(T,qual)∈eV)(hcode:c.code= .ref cc)(hd:codeHdIn S.K cc T=true)(hcl:∀env,closureFor sc env=pure [])(hdf:∀env,defaultsOf params env=([],[]))(hq:c.qual++"<lambda>" =qual)
  (hb:nsIn S.K 3 "__builtins__" =some (some (.ref 4)))(h4:S.K.lookup 4=some ⟨.type "module",some 0,.plain,sl⟩)
  (hbind:∀pm c' ctv x',bindArgs (kla_fn "<lambda>" qual params body sc [] pm (.ref c') ctv) ⟨[x'],[]⟩=pure [(n,x')])(hcell:∀x∈sc.names,x.2≠.cell)(hdd:d<999)
  (hline:(apos.endLine==pos.line)=true)(hba:∀env,attributeBase o "sort" env (eval o env)=eval o env)(hco:sc.isCoroutine=false)(hgen:sc.isGenerator=false)(hk:sc.kind= .function)
  (h:WEx S d c o (QB S d qual sc n body P) X σ):
  WEx S d c (.Call (.Attribute o "sort" apos) [] [⟨some "key",.Lambda params body sc lpos,kp⟩] pos) P X σ:=fun A cl L a ρ s hA C Q E hQ hE=>by
 show wpAny S.M A (eval (.Call (.Attribute o "sort" apos) [] [⟨some "key",.Lambda params body sc lpos,kp⟩] pos) (c.env cl L a)) Q E s;rw[arm_eval_Call,hba];refine wpAny_bind (WT.use h hA C (.refl ..) hE fun v v' σ1 ρ1 s1 h1 T1 U1 C1 r1=>?_);obtain⟨i,todo,rfl,hi,hcl',hz,hl,hbody,hP⟩:=h1;refine wpAny_bind (wpAny_standAt ?_);haveI hform:methodCallForm (([]:List Ex).length+[(⟨some "key",.Lambda params body sc lpos,kp⟩:Keyword)].length) (backTo pos (starEach [] (c.env cl L a))) (backToKw pos (keywordEach [⟨some "key",.Lambda params body sc lpos,kp⟩] (c.env cl L a)))=true:=rfl;haveI hpos:methodCallPos true o (c.env cl L a) apos pos=pure pos:=by unfold methodCallPos;simp[hline]
 unfold methodCall;rw[hform];haveI hget:iO S d c (.obj i) "sort" (fun f first σ2=>f= .top (.builtin "list.sort")∧first=[.obj i]∧σ2=σ1) X σ1:=QA hi ⟨rfl,rfl,rfl⟩;refine wpAny_bind (wpAny_holding (hget A cl L ρ1 s1 hA C1 _ r1 _ _ _ (fun f first f' first' σ2 ρ2 s2 h2 T2 C2 rf rfs=>?_) fun v v' hp' ρ' s' x T C' r=>hE v v' hp' ρ' s' x (T1.trans T) C' r));obtain⟨rfl,rfl,rfl⟩:=h2;obtain rfl:=rf.top_inv;obtain⟨x',rfl,ro⟩:∃x',first'=[x']∧RelV ρ2 σ2.hp.length s2.heap (.obj i) x':=by
  cases rfs with
  |cons q r=>cases r;exact⟨_,rfl,q⟩
 refine wpAny_bind (wpAny_of_eq hpos ?_);refine callWith_of (P:=fun _=>True) rfl (fun h _=>⟨.machine,.inr (.inl rfl),dT _ _⟩) ?_;refine gt rfl rfl (spliced_nil ?_);refine kwAll_cons (Ih C2 ht hcode hd hcl hdf hq hb h4 fun q c' ctv pm ρ3 s3 C3 T3 z1 z2 hq' hrec=>kwAll_nil ⟨trivial,?_⟩);haveI M3:=T3.moves C2.toCorrH C2.nsAll;have ro':=ro.move M3;obtain⟨_,rfl⟩:=ro'.obj_inv;refine FU (q:=q) C3.toCorrH hi hcl' hz hl (fun s₁ kS hn hk₁ p hp ρ4 s4 C4 T4 x' rx Q' hQ'=>?_) fun td p1 p2 ρ4 s4 C4 T4=>?_
 ·have fr:∀b,ρ3.fz b→∀ob,s3.heap.get? b=some ob→s4.heap.get? b=some ob:=fun b hz ob e=>by
   haveI f:=(C3.fz b hz).1;refine T4.frame b ob (hk₁ b ob e (f.2 i (lSi hi).1).1) (fun hm=>?_) ⟨f.1,fun i hi=>absurd hi (nNz _)⟩;obtain rfl:=lMs hm;rw[hn]at e;cases e
  obtain⟨loc,hl',hw⟩:=hbody p hp q c';haveI hrec':s4.heap.CodeRec (.ref c') qual:=by
   obtain⟨c₂,oc,vs,t,q1,q2,q3⟩:=hrec;cases q1;exact⟨c',oc,vs,t,rfl,fr c' z2 _ q2,q3⟩
  exact Ii (P:=fun w hp'=>w=vk p.2∧hp'=[]) (A:=A.in1) hA.in1 (dd hdd rfl) C4 (fr q z1 _ hq') hrec' rx (hbind _ _ _ _) hcell hl' hw (fun w w' hp' ρ' s' hp2 T' C' r=>by
   obtain⟨rfl,rfl⟩:=hp2;exact hQ' w' ρ' s' T' C' r) hco hgen hk
 ·exact hQ _ _ _ ρ4 s4 (hP td p1 p2) (T1.trans (T2.trans (T3.trans T4.wide))) (C3.hmove T4 C4) .none
end
section
variable {M:Model} {A:Around} {E:PS} {s:Shared}
theorem uu(hc:env.code= .ref c)(hok:s.heap.IsCode c P ps)(hf:codeAmong pos ps.toList=some cv)(hQ:Q cv s):
  wpAny M A (genexprCode env pos qualname scope) Q E s:=by
 obtain⟨o,vs,file,tf,flags,tg,inF,text,tt,op,ho,hd,h11,h2,h7,h9,h10,hop,hpd,htr,hne⟩:=id hok;unfold genexprCode PySem.codeAt;rw[hc,if_neg (show ¬((Value.ref c==Value.none)=true)from Bool.false_ne_true)];refine wpAny_bind (wpAny_fieldsOf ho hd ?_);rw[h11];refine wpAny_bind (wpAny_fieldsOf hop hpd ?_);rw[hf];exact wpAny_pure hQ
end
theorem Bv(r:aj ρ n h (ts.map V.str) xs):StrsAre xs ts:=by
 induction ts generalizing xs with
 |nil=>exact r.nilE .nil
 |cons t ts ih=>exact r.consE fun _ _ a b=>a.strE fun u=> .cons t u (ih b)
noncomputable def yZ(S:Sta)(sc:Scope)(x:Str)(elt:Ex)(f:Str→Bool):Prop:=
 ∀(cenv:Env),cenv.scope=sc→cenv.globals=3→cenv.builtins=0→∀(A':Around) E' (t:Str) (u:Tok) (s₂:Shared) m₂,s₂.heap.Ns cenv.locals m₂→m₂ x=some (.str t u)→s₂.heap.Ns 3 S.mg→s₂.heap.Ns 0 S.mb→t.length≤100000→
  wpAny S.M A' (eval elt cenv) (fun y s₃=>y= .bool (f t)∧Keeps s₂ s₃) E' s₂
noncomputable abbrev nX(w:World)(A:Around)(Q:PS)(sc:Scope)(elt:Ex)(x:Str)(env:Env)(it:Value)(cv:Value)(bi:Addr)(s₄:Shared):Prop:=
  ∃I fp wr n₀ P St₀ pz F,it= .ref I∧(∀A':Around,A'.handled=none→Walks pw w A' I fp wr n₀ P St₀)∧St₀ 0 s₄.heap∧(∀b∈fp,b<s₄.heap.objs.size)∧s₄.heap.NoLimit∧cStatics∉wr∧
     (∀href:Heap,(∀b o,s₄.heap.get? b=some o→href.get? b=some o)→
      QuietGen pw w (genEnv sc [] s₄.heap.objs.size cv bi env) x [] elt (List.range s₄.heap.objs.size) wr P pz F href)∧
     (∀a h₅ tk gs,gs.bare=true→s₄.heap.objs.size<a→h₅.objs.size=a+1→(∀b o,s₄.heap.get? b=some o→h₅.get? b=some o)→
      WalksS pw w A.in4 a (a::s₄.heap.objs.size::List.range s₄.heap.objs.size) (s₄.heap.objs.size::wr) (GenOnlyQ s₄.gens.size) (passing pz n₀ 0).length
       (fun j y=>∃i,(passing pz n₀ 0)[j]?=some i∧F i y) (GenAt pw w A.in4 a s₄.gens.size s₄.heap.objs.size (List.range s₄.heap.objs.size) wr pz n₀ F)→
      GenAt pw w A.in4 a s₄.gens.size s₄.heap.objs.size (List.range s₄.heap.objs.size) wr pz n₀ F 0 {s₄ with gens:=s₄.gens.push gs,toks:=tk,heap:=h₅}→
      Q (.ref a) {s₄ with gens:=s₄.gens.push gs,toks:=tk,heap:=h₅})
theorem nX.mk(I:Addr)(fp wr:List Addr)(n₀:Nat)(P:Nat→Value→Prop)(St₀:Nat→Heap→Prop)(pz:Nat→Bool)(F:Nat→Value→Prop)(h0:it= .ref I)(h1:(∀A':Around,A'.handled=none→Walks pw w A' I fp wr n₀ P St₀))(h2:St₀ 0 s₄.heap)(h3:(∀b∈fp,b<s₄.heap.objs.size))(h4:s₄.heap.NoLimit)(h5:cStatics∉wr)(h6:(∀href:Heap,(∀b o,s₄.heap.get? b=some o→href.get? b=some o)→
      QuietGen pw w (genEnv sc [] s₄.heap.objs.size cv bi env) x [] elt (List.range s₄.heap.objs.size) wr P pz F href))(h7:(∀a h₅ tk gs,gs.bare=true→s₄.heap.objs.size<a→h₅.objs.size=a+1→(∀b o,s₄.heap.get? b=some o→h₅.get? b=some o)→
      WalksS pw w A.in4 a (a::s₄.heap.objs.size::List.range s₄.heap.objs.size) (s₄.heap.objs.size::wr) (GenOnlyQ s₄.gens.size) (passing pz n₀ 0).length
       (fun j y=>∃i,(passing pz n₀ 0)[j]?=some i∧F i y) (GenAt pw w A.in4 a s₄.gens.size s₄.heap.objs.size (List.range s₄.heap.objs.size) wr pz n₀ F)→
      GenAt pw w A.in4 a s₄.gens.size s₄.heap.objs.size (List.range s₄.heap.objs.size) wr pz n₀ F 0 {s₄ with gens:=s₄.gens.push gs,toks:=tk,heap:=h₅}→
      Q (.ref a) {s₄ with gens:=s₄.gens.push gs,toks:=tk,heap:=h₅})):nX w A Q sc elt x env it cv bi s₄:=⟨I,fp,wr,n₀,P,St₀,pz,F,h0,h1,h2,h3,h4,h5,h6,h7⟩
noncomputable abbrev Ij(w:World)(A:Around)(Q:PS)(E:PS)(sc:Scope)(elt:Ex)(x:Str)(env:Env)(it:Value)(cv:Value)(s₃:Shared):Prop:=
 wpAny (model pw w) A (builtinsFor env.globals env.builtins) (nX w A Q sc elt x env it cv) E s₃
noncomputable abbrev Ik(w:World)(A:Around)(Q:PS)(E:PS)(sc:Scope)(elt:Ex)(x:Str)(env:Env)(gpos:Pos)(it:Value)(s₂:Shared):Prop:=
 s₂.heap.NoLimit∧wpAny (model pw w) A (genexprCode env gpos (env.qual++"<genexpr>") sc) (Ij w A Q E sc elt x env it) E s₂
noncomputable abbrev Il(w:World)(A:Around)(Q:PS)(E:PS)(sc:Scope)(elt:Ex)(x:Str)(env:Env)(gpos:Pos)(xv:Value)(s₁:Shared):Prop:=
 wpAny (model pw w) A (pyIter xv) (Ik w A Q E sc elt x env gpos) E s₁
section
variable {S:Sta} {d:Nat} {c:FC} {X:PX} {σ:St}
theorem QC {cl:List (Str×Addr)}{L a:Addr}{ρ:Pl}{s:Shared}{A:Around}{elt iter:Ex}{x qual:Str}{px gpos:Pos}{sc:Scope}{T cc:Addr}{sl:Array (Option Value)}{f:Str→Bool}{P:List Str→St→Prop}{E:PS}{Q:PS}
  (hA:AOk A d)(hdd:d<1000)(ht:(T,qual)∈eV)(hcode:c.code= .ref cc)(hd:codeHdIn S.K cc T=true)(hcl:∀env,closureFor sc env=pure [])(hq:c.qual++"<genexpr>" =qual)
  (hb:nsIn S.K 3 "__builtins__" =some (some (.ref 4)))(h4:S.K.lookup 4=some ⟨.type "module",some 0,.plain,sl⟩)
  (hcell:∀y∈sc.names,y.2≠.cell)(h0:sc.names.lookup (".0":Str)=some NameKind.local)(hx:sc.names.lookup x=some NameKind.local)(hco:sc.isCoroutine=false)(hk:sc.kind= .function)(hfo:∀env x,genFold iter env x=pure x)(hqu:yZ S sc x elt f)
  (h:WEx S d c iter (fun v σ1=>∃ts:List Str,cO σ1.hp v (ts.map .str)∧ts.length≤100000∧(∀t∈ts,t.length≤100000)∧P ts σ1) X σ)
  (C:aG S c cl L ρ σ s)(hE:gk S L ρ σ.hp s X E)
  (hQ:∀g s₅ ts σ',P ts σ'→(∀(Q E:PS),(∀ρ' s',ah [L] ρ σ.hp s ρ' σ'.hp s'→aG S c cl L ρ' σ' s'→Q (.bool (ts.any f)) s')→wpAny S.M A (call (.builtin "any") [.ref g]) Q E s₅)→Q (.ref g) s₅):
  wpAny S.M A (eval (.GeneratorExp elt [⟨.Name x px,iter,[],0⟩] sc gpos) (c.env cl L a)) Q E s:=by
 refine wpAny_GeneratorExp_walksQ hA.handled hco (hcl _) hcell h0 hx hk (Nat.lt_of_le_of_lt hA.depth hdd) ?_ (hfo _);show wpAny S.M A (eval iter (c.env cl L a)) (Il S.w A Q E sc elt x (c.env cl L a) gpos) E s;refine WT.use h hA C (.refl ..) hE fun v v' σ1 ρ1 s1 h1 T1 U1 C1 r1=>?_
 obtain⟨ts,hv,hz,hzt,hP⟩:=h1;refine C1.toCorrH.lstE hv r1 fun l xs hl hr hsz r1=>?_
 haveI hszt:xs.size=ts.length:=by rw[hsz,lMa]
 refine wpAny_pyIter_list hl.isList ?_;obtain⟨C2,T2⟩:=C1.push {cls:= .type "list_iterator",data:= .fields #[.ref l,.int 0 0]} s1.toks;haveI O2:=Own.push (o:={cls:= .type "list_iterator",data:= .fields #[.ref l,.int 0 0]}) C1 rfl (dg rfl (by decide));haveI nI:s1.heap.get? s1.heap.objs.size=none:=aq _ (nRe _);have gI:(s1.heap.push {cls:= .type "list_iterator",data:= .fields #[.ref l,.int 0 0]}).get? s1.heap.objs.size=some {cls:= .type "list_iterator",data:= .fields #[.ref l,.int 0 0]}:=Heap.get?_push_size _ rfl;haveI hl2:(s1.heap.push {cls:= .type "list_iterator",data:= .fields #[.ref l,.int 0 0]}).IsList l xs:=hl.isList.push _;haveI lt_l: @LT.lt Nat _ l s1.heap.objs.size:=by obtain⟨n,e⟩:=hl;exact Heap.lt_size e
 haveI sz2:(s1.heap.push {cls:= .type "list_iterator",data:= .fields #[.ref l,.int 0 0]}).objs.size=s1.heap.objs.size+1:=Heap.size_push ..;have hltab:l≠T:=by obtain⟨n,e⟩:=hl;exact C1.toCorrH.noTab e (.inl (by simp)) _ ht
 haveI kH2:∀b o,s1.heap.get? b=some o→(s1.heap.push {cls:= .type "list_iterator",data:= .fields #[.ref l,.int 0 0]}).get? b=some o:=fun b o e=>Heap.get?_push_of_some _ e
 generalize hH2:s1.heap.push {cls:= .type "list_iterator",data:= .fields #[.ref l,.int 0 0]}=H2 at *;have X2:=S.X.keeps C2.keep;obtain⟨ps,e1,e2,e3⟩:=C2.tab _ ht;dsimp only at e1;haveI hqq:(c.env cl L a).qual++"<genexpr>" =qual:=hq;have hItab:s1.heap.objs.size≠T:=C2.toCorrH.noTab gI (.inl (by simp)) _ ht;refine⟨S.lim.keeps C2.keep,?_⟩;rw[hqq];have rest:∀(cv:Value) (h3:Heap) (tk:Tok) (Z:Addr→Prop),(∀b,Z b→s1.heap.get? b=none∧(h3.get? b).isSome=true)→(∀b o,b≠T→H2.get? b=some o→h3.get? b=some o)→CorrH S (ρ1.more Z) σ1.hp {s1 with heap:=h3,toks:=tk}→ah [] ρ1 σ1.hp {s1 with heap:=H2,toks:=s1.toks} (ρ1.more Z) σ1.hp {s1 with heap:=h3,toks:=tk}→
   wpAny S.M A (builtinsFor (c.env cl L a).globals (c.env cl L a).builtins) (nX S.w A Q sc elt x (c.env cl L a) (.ref s1.heap.objs.size) cv) E {s1 with heap:=h3,toks:=tk}:=by
  intro cv h3 tk Z hz3 hx3 C3 T3;have X3:=S.X.keeps C3.keep;haveI g3:=S.g.keeps C3.keep;haveI b3:=S.b.keeps C3.keep;obtain⟨bm,ob,q1,q2,q3,q4,q5,q6,q7,q8⟩:=Sta.bmain C3 ht hb h4;refine wpAny_builtinsFor g3 q1 q2 q5 q6 q7 q8 ?_;haveI gI3:h3.get? s1.heap.objs.size=some {cls:= .type "list_iterator",data:= .fields #[.ref l,.int 0 0]}:=hx3 _ _ hItab gI;haveI gl3:h3.IsList l xs:=hl2.at fun o e=>hx3 _ o hltab e
  haveI hIl:l≠s1.heap.objs.size:=nNe lt_l;have nIs:S.H.get? s1.heap.objs.size=none:=C1.toCorrH.fresh_of nI;haveI hI3:s1.heap.objs.size≠(3:Nat):=fun e=>by
   obtain⟨o,_,_,e0,_⟩:=S.g;rw[e]at nIs;rw[e0]at nIs;cases nIs
  haveI hI0:s1.heap.objs.size≠(0:Nat):=fun e=>by
   obtain⟨o,_,_,e0,_⟩:=S.b;rw[e]at nIs;rw[e0]at nIs;cases nIs
  haveI hIc:cStatics∉[(s1.heap.objs.size:Addr)]:=fun hm=>by
   have e:=lMs hm;obtain⟨_,⟨o,_,_,e0,_⟩,_⟩:=S.lim;rw[←e]at nIs;rw[e0]at nIs;cases nIs
  haveI lim3:h3.NoLimit:=S.lim.keeps C3.keep;refine nX.mk s1.heap.objs.size [s1.heap.objs.size,l] [s1.heap.objs.size] xs.size _ _ (fun _=>true) (fun i y=>Carried y (PyData.bool (f (ts.getD i "")))) rfl (fun A' hA'=>Walks.list hA' _ _ hIl xs) ⟨⟨_,gI3,rfl,rfl⟩,gl3⟩ ?_ lim3 hIc ?_ ?_
  ·intro b hm;have:=Heap.lt_size gI3;rcases List.mem_cons.mp hm with rfl|hm
   ·exact this
   ·obtain rfl:=lMs hm;exact Nat.lt_trans lt_l this
  ·intro href hhref;have at3:∀(s₂:Shared),(∀b∈List.range h3.objs.size,b∉[(s1.heap.objs.size:Addr)]→∀o,href.get? b=some o→s₂.heap.get? b=some o)→s₂.heap.Ns 3 S.mg∧s₂.heap.Ns 0 S.mb:=fun s₂ hs=>by
    refine⟨Ns.at g3 fun o e=>hs 3 (List.mem_range.mpr (Heap.lt_size e)) (fun hm=>hI3 (lMs hm).symm) o (hhref _ _ e),Ns.at b3 fun o e=>hs 0 (List.mem_range.mpr (Heap.lt_size e)) (fun hm=>hI0 (lMs hm).symm) o (hhref _ _ e)⟩
   refine⟨fun A' E' i v s₂ m₂ _ hi hn hm hs=>?_,fun A' E' i v s₂ m₂ _ hi _ hn hm hs=>?_⟩
   ·exact wpAny_tests_nil ⟨rfl,s₂.heap,s₂.toks,rfl,fun _ _ e=>e⟩
   ·have hi':xs.toList[i]?=some v:=by rw[Array.getElem?_toList];exact hi
    have hlt:i<ts.length:=by rw[←hszt];exact(Array.getElem?_eq_some_iff.mp hi).1
    obtain⟨u,hu⟩:=(Bv hr).get i ts[i] (lGe hlt);rw[hi']at hu;cases hu;haveI n1:=(at3 s₂ hs).1;haveI n2:=(at3 s₂ hs).2;have e:ts.getD i "" =ts[i]:=by simp[List.getD_eq_getElem?_getD,hlt]
    refine wpAny_mono (hqu (genEnv sc [] h3.objs.size cv builtinsNs (c.env cl L a)) rfl rfl rfl A' E' ts[i] u s₂ m₂ hn hm n1 n2 (hzt _ (List.getElem_mem hlt))) (fun y s₃ hy=>⟨?_,hy.2⟩) fun _ _ e=>e
    rw[e,hy.1];exact .bool _
  ·intro g h5 tk5 gs hgb hag hsz5 hk5 W hat;have W:=W.in4_1;have W':WalksS pw S.w A.in1 g (g::h3.objs.size::List.range h3.objs.size) (h3.objs.size::[s1.heap.objs.size]) (GenOnlyQ s1.gens.size) (passOnS ts fun _=>true).length
     (fun j y=>∃i,(passOnS ts fun _=>true)[j]?=some i∧Carried y (PyData.bool (f (ts.getD i "")))) (GenAt pw S.w A.in4 g s1.gens.size h3.objs.size (List.range h3.objs.size) [s1.heap.objs.size] (fun _=>true) xs.size (fun i y=>Carried y (PyData.bool (f (ts.getD i ""))))):=by
    rw[hszt]at W⊢;exact W
   refine hQ g _ ts σ1 hP fun Q' E' hQ'=>?_
   refine call_any_walkS (W'.self 0 _ _ _ hat ⟨g,_,_,_,_,_,_,_,rfl,W',hat,truth_carriedS,fun s' hm=>?_⟩);have e:(List.range (passOnS ts fun _=>true).length).any (fun j=>f (ts.getD ((passOnS ts fun _=>true).getD j 0) ""))=ts.any f:=by
    have e:(passOnS ts fun _=>true).any (fun i=>f (ts.getD i ""))=ts.any f:=by
     have:=passOnS_map ts fun _=>true
     rw[List.filter_eq_self.mpr fun _ _=>rfl]at this
     conv=>rhs;rw[←this]
     rw[List.any_map];rfl
    rw[any_range (passOnS ts fun _=>true) (fun i=>f (ts.getD i "")),e]
   rw[e];have hkk:∀b o,h3.get? b=some o→b∉[(s1.heap.objs.size:Addr)]→s'.heap.get? b=some o:=fun b o e hb=>by
    refine hm.heap b o (fun hmem=>?_) (hk5 b o e);rcases List.mem_cons.mp hmem with q|q
    ·have:=Heap.lt_size e;rw[q]at this;exact absurd this (Nat.lt_irrefl _)
    ·exact hb q
   have nz:¬(ρ1.more Z).fz s1.heap.objs.size:=fun q=>by
    rcases T3.fzn _ q with q|q
    ·exact O2.nfz q
    ·dsimp only at q;rw[gI]at q;cases q
   have nin:∀b,b≠s1.heap.objs.size→b∉[(s1.heap.objs.size:Addr)]:=fun b h hm=>h (lMs hm)
   obtain⟨C6,T6⟩:=C1.toCorrH.table (s':=s') (Z:=Z) ht (fun b o hb e=>hkk b o (hx3 b o hb (kH2 b o e)) (nin b (bF e nI)))
    (AllBare.movedS (s:={s1 with gens:=s1.gens.push gs,toks:=tk5,heap:=h5}) (C1.gens.push hgb) hm) hm.os
    (fun b hb=>by
     haveI z1:=(hz3 b hb).1;haveI z2:=(hz3 b hb).2;obtain⟨o,ho⟩:=oSm z2;have:b≠s1.heap.objs.size:=fun q=>nz (q▸.inr hb)
     exact⟨z1,by rw[hkk b o ho (nin b this)];rfl⟩)
    ((C3.tab _ ht).move (fun o e=>hkk _ o e (nin _ hItab.symm)) fun b hb=>⟨hb,fun o e=>hkk b o e (nin b fun q=>nz (q▸hb))⟩)
   exact hQ' _ s' (T1.trans T6.wide) (C1.hmove T6 C6)
 cases hf:codeAmong gpos ps.toList with
 |none=>
  refine wpAny_genexprCodeX hcode ((codeHd_of_K X2 hd).code e1 e2) ((codeHd_of_K X2 hd).tab e1) hf fun c' h3 tk3 hx3 hge hlt hcode3 hrec htab3 _=>?_
  have live':∀b,b=c'→H2.get? b=none∧(h3.get? b).isSome=true:=fun b hb=>by
   subst hb;obtain⟨c₂,oc,vs,t,q1,q2,_⟩:=hrec;cases q1;exact⟨aq _ hge,by rw[q2];rfl⟩
  obtain⟨C3,T3⟩:=C2.toCorrH.table (s':={s1 with heap:=h3,toks:=tk3}) (Z:=(·=c')) ht (fun b o hb e=>hx3 b o hb e) C2.gens rfl live'
   ⟨_,htab3.2,by simpa using TriplesOk_snoc _ _ _ _ e2,fun pos' cv e=>by
    have e':codeAmong pos' (ps.toList++[rawInt gpos.line,rawInt gpos.col,.ref c'])=some cv:=by simpa using e
    rcases nV _ e2 e' with q|rfl
    ·obtain⟨c₂,rfl,f1,c₃,oc,vs,tq,q1,q2,q3⟩:=e3 pos' cv q;cases q1;exact⟨c₂,rfl,.inl f1,c₂,oc,vs,tq,rfl,hx3 _ _ ((C2.fz _ f1).1.1 _ ht) q2,q3⟩
    ·exact⟨c',rfl,.inr rfl,hrec⟩⟩
  exact rest _ h3 tk3 _ (fun b hb=>⟨cV T2.live (live' b hb).1,(live' b hb).2⟩) (fun b o hb e=>hx3 b o hb e) C3 T3
 |some cv=>
  refine uu hcode ((codeHd_of_K X2 hd).code e1 e2) hf ?_;obtain⟨C3,T3⟩:=C2.toCorrH.freeze (s':={s1 with heap:=H2,toks:=s1.toks}) (fun _ _ e=>e) C2.gens rfl (fun _=>False) fun _ hb=>hb.elim
  exact rest cv H2 s1.toks _ (fun b hb=>hb.elim) (fun _ _ _ e=>e) C3 T3
end
section
variable {S:Sta} {d:Nat} {c:FC} {X:PX} {σ:St}
theorem Im(n:ac c "any" i .globalImplicit)(bl:eW S "any" (.builtin "any"))
  (ht:(T,qual)∈eV)(hcode:c.code= .ref cc)(hd:codeHdIn S.K cc T=true)(hq:c.qual++"<genexpr>" =qual)
  (hb:nsIn S.K 3 "__builtins__" =some (some (.ref 4)))(h4:S.K.lookup 4=some ⟨.type "module",some 0,.plain,sl⟩)(hdd:d<1000)
  (hcell:∀y∈sc.names,y.2≠.cell)(h0:sc.names.lookup (".0":Str)=some NameKind.local)(hx:sc.names.lookup x=some NameKind.local)(hqu:yZ S sc x elt f)
  (h:WEx S d c iter (fun v σ1=>∃ts:List Str,cO σ1.hp v (ts.map .str)∧ts.length≤100000∧(∀t∈ts,t.length≤100000)∧P (.bool (ts.any f)) σ1) X σ)
  (hcl:∀env,closureFor sc env=pure []:=by intro _;rfl)(hco:sc.isCoroutine=false:=by rfl)(hk:sc.kind= .function:=by rfl)(hfo:∀env x,genFold iter env x=pure x:=by intro _ _;rfl)(hkk:c.scope.kind= .function:=by rfl):
  WEx S d c (.Call (.Name "any" np) [.GeneratorExp elt [⟨.Name x px,iter,[],0⟩] sc gpos] [] pos) P X σ:=fun A cl L a ρ s hA C Q E hQ hE=>by
 show wpAny S.M A (do callWith pos (←eval (.Name "any" np) (c.env cl L a)) [] (backTo pos (starEach [.GeneratorExp elt [⟨.Name x px,iter,[],0⟩] sc gpos] (c.env cl L a))) (backToKw pos (keywordEach [] (c.env cl L a)))) Q E s;haveI hn:WEx S d c (.Name "any" np) (fun v σ'=>v= .top (.builtin "any")∧σ'=σ) X σ:=gK n bl ⟨rfl,rfl⟩ hkk;refine wpAny_bind (WT.use hn hA C (.refl ..) hE fun v v' σ1 ρ1 s1 h1 T1 _ C1 r1=>?_);obtain⟨rfl,rfl⟩:=h1;obtain rfl:=r1.top_inv;refine callWith_of (P:=fun _=>True) rfl (fun h _=>⟨.machine,.inr (.inl rfl),dT _ _⟩) ?_;refine gt rfl rfl ?_;haveI hs:starEach [.GeneratorExp elt [⟨.Name x px,iter,[],0⟩] sc gpos] (c.env cl L a)=[PySem.Expr.GeneratorExp elt [⟨.Name x px,iter,[],0⟩] sc gpos].map fun e=>(false,eval e (c.env cl L a)):=cH rfl
 rw[hs];refine spliced_cons (QC (P:=fun ts σ'=>P (.bool (ts.any f)) σ') hA hdd ht hcode hd hcl hq hb h4 hcell h0 hx hco hk hfo hqu h C1 (fun v v' hp' ρ' s' x T C' r=>hE v v' hp' ρ' s' x (T1.trans T) C' r) fun g s₅ ts σ' hP hgo=>?_);refine spliced_nil (kwAll_nil ⟨trivial,hgo _ _ fun ρ' s' T C'=>?_⟩);exact hQ _ _ σ' ρ' s' hP (T1.trans T) C' (.bool _)
end
noncomputable def lead0(t:Str):Bool:=decide ((1:Int)<t.length)&&Txt.startswith t "0"
set_option maxRecDepth 20000 in
theorem AQ(hk:sc.kind= .function)(hp:sc.names.lookup ("p":Str)=some .local)(hl:sc.names.lookup ("len":Str)=some .globalImplicit)(bl:eW S "len" (.builtin "len"))(hln:(p6.endLine==p8.line)=true):
  yZ S sc "p" (.BoolOp .And [.Compare (.Call (.Name "len" p1) [.Name "p" p2] [] p3) [.Gt] [.Constant (.int 1) k1 p4] p5,.Call (.Attribute (.Name "p" p7) "startswith" p6) [.Constant (.str "0") k2 p9] [] p8] p10) lead0:=by
 intro cenv e1 e2 e3 A' E' t u s₂ m₂ hn hm hg hb hz;haveI hk':cenv.scope.kind= .function:=by rw[e1];exact hk
 haveI hp':cenv.scope.names.lookup ("p":Str)=some .local:=by rw[e1];exact hp
 haveI hl':cenv.scope.names.lookup ("len":Str)=some .globalImplicit:=by rw[e1];exact hl
 haveI ldp:∀{s:Shared} {pos:Pos} {Q:PS} {E:PS},s.heap=s₂.heap→Q (.str t u) s→wpAny S.M A' (eval (.Name "p" pos) cenv) Q E s:=fun {s pos Q E} hs h=>
  wpAny_Name (wpAny_loadName_local hk' hp' (by rw[hs];exact hn) hm h) (by decide)
 haveI ldl:∀{s:Shared} {pos:Pos} {Q:PS} {E:PS},s.heap=s₂.heap→Q (.builtin "len") s→wpAny S.M A' (eval (.Name "len" pos) cenv) Q E s:=fun {s pos Q E} hs h=>
  Name_function_global hk' hl' (loadGlobal_builtin (by rw[hs,e2];exact hg) bl.g (by rw[hs,e3];exact hb) bl.b h) (by decide)
 refine BoolOp_and (wpAny_Compare1 ?_);show wpAny S.M A' (do callWith p3 (←eval (.Name "len" p1) cenv) [] (backTo p3 (starEach [.Name "p" p2] cenv)) (backToKw p3 (keywordEach [] cenv))) _ _ s₂;refine wpAny_bind (ldl rfl (callWith_of (P:=fun _=>True) rfl (fun h _=>⟨.machine,.inr (.inl rfl),dT _ _⟩) (gt rfl rfl ?_)));haveI hs:starEach [.Name "p" p2] cenv=[PySem.Expr.Name "p" p2].map fun e=>(false,eval e cenv):=cH rfl
 rw[hs];refine spliced_cons (ldp rfl (spliced_nil (kwAll_nil ⟨trivial,?_⟩)));refine len_str (by have e:(2:Int)^63=9223372036854775808:=rfl;rw[e];lia) (wpAny_Constant_int (gt_int (wpAny_truthy_bool ?_)))
 by_cases h1:(1:Int)<t.length
 ·rw[dEt h1,if_pos rfl];have e1:lead0 t=Txt.startswith t "0":=by unfold lead0;rw[dEt h1];rfl
  rw[e1];show wpAny S.M A' (eval (.Call (.Attribute (.Name "p" p7) "startswith" p6) [.Constant (.str "0") k2 p9] [] p8) cenv) _ _ _;haveI hba:attributeBase (.Name "p" p7) "startswith" cenv (eval (.Name "p" p7) cenv)=eval (.Name "p" p7) cenv:=rfl;rw[arm_eval_Call,hba];refine wpAny_bind (ldp rfl ?_);refine wpAny_bind (wpAny_standAt ?_);haveI hpos:methodCallPos true (.Name "p" p7) cenv p6 p8=pure p8:=by unfold methodCallPos;simp[hln]
  unfold methodCall;refine wpAny_bind (wpAny_holding (GM.startswith ?_));refine wpAny_bind (wpAny_of_eq hpos ?_);refine callWith_of (P:=fun _=>True) rfl (fun h _=>⟨.machine,.inr (.inl rfl),dT _ _⟩) (gt rfl rfl ?_);haveI hs2:starEach [.Constant (.str "0") k2 p9] cenv=[PySem.Expr.Constant (.str "0") k2 p9].map fun e=>(false,eval e cenv):=cH rfl
  rw[hs2];refine spliced_cons ?_;show wpAny S.M A' (eval (.Constant (.str "0") k2 p9) cenv) _ _ _;refine wpAny_Constant_str (spliced_nil (kwAll_nil ⟨trivial,SC.startswith ?_⟩));exact⟨rfl,_,_,rfl,fun _ _ e=>e⟩
 ·haveI h1':decide ((1:Int)<t.length)=false:=dEf h1;haveI e1:lead0 t=false:=by unfold lead0;rw[h1'];rfl
  rw[h1',e1];exact⟨rfl,_,_,rfl,fun _ _ e=>e⟩
theorem uv:Slot "bytes" "join" "bytes.join":=
 .of (owner:="bytes") (n:="join") (by rw[typeLookup_type,builtinLookup_eq_fast];kernel_rfl) (by decide+kernel) (by decide+kernel) (by decide+kernel)
  (by exact .inr (by decide+kernel)) (by rw[isSubtype_type];kernel_rfl)
theorem DE:typeOf (.builtin "bytes.join")=pure (.type "method_descriptor"):=by show builtinType _=_;rw[builtinType_eq_fast];kernel_rfl
theorem AR:entryFor table "bytes.join" =some Builtin.«bytes.join»:=entryFor_of_tree (by kernel_rfl)
theorem DF(a b:Value):argsOk "bytes.join" ⟨[a,b],[]⟩:=by unfold argsOk;kernel_rfl
open Builtin in
theorem Lw {id:String}{b:Array UInt8}{t:Tok}:Bytes.takeBufferQuiet? id (.bytes b t) 0=pure (some (b,none)):=by
 haveI e:Bytes.takeBuffer? id (.bytes b t) 0=pure (some (b,none)):=by
  unfold Bytes.takeBuffer?;rw[KBy.special_eq KBy.look_buffer,KBy.own_buffer];show(Bytes.buffer? id (.bytes b t) _>>=fun x=>pure (x.map (·,none)))=_;have:Bytes.buffer? id (.bytes b t) (full:=(0:Int)==Bytes.fullReadOnly)=pure (some b):=by
   unfold Bytes.buffer?;rw[KBy.special_eq KBy.look_buffer,KBy.own_buffer,KBy.own_release];kernel_rfl
  rw[this];rfl
 unfold Bytes.takeBufferQuiet?;rw[e];rfl
inductive gf:List Value→List (Array UInt8)→Prop
 |nil:gf [] []
 |cons {b:Array UInt8} {t:Tok} {vs:List Value} {bs:List (Array UInt8)} (h:gf vs bs):gf (.bytes b t::vs) (b::bs)
theorem gf.get {vs:List Value}{bs:List (Array UInt8)}(h:gf vs bs){i:Nat}{b:Array UInt8}(e:bs[i]?=some b):∃t,vs[i]?=some (.bytes b t):=by
 induction h generalizing i with
 |nil=>cases e
 | @cons _ t _ _ _ ih=>cases i with
  |zero=>cases e;exact⟨t,rfl⟩
  |succ i=>exact ih (i:=i) e
theorem gf.length(h:gf vs bs):vs.length=bs.length:=by
 induction h with
 |nil=>rfl
 |cons _ ih=>exact congrArg (·+1) ih
theorem Io(r:aj ρ n h (bs.map V.bytes) xs):gf xs bs:=by
 induction bs generalizing xs with
 |nil=>exact r.nilE .nil
 |cons b bs ih=>exact r.consE fun _ _ a q=>a.bytesE fun t=> .cons (ih q)
noncomputable def lK(bs:List (Value)):List (Value×Option Value):=bs.map fun x=>(x,none)
theorem rX:∀{l:List Value} {keep:List Value},Q () s→wpAny M A (Builtin.Bytes.joinLetGo (lK l) keep) Q E s
 |[],_,h=>wpAny_pure h
 |x::r,keep,h=>by
  show wpAny M A (Builtin.Bytes.joinLetGo ((x,none)::lK r) keep) Q E s;unfold Builtin.Bytes.joinLetGo;exact wpAny_bind (wpAny_letGo (rX h))
theorem DG(bs:List (Array UInt8)):∀a:Nat,bs.foldl (fun n b=>n+b.size) a=a+(bs.map (·.size)).sum:=by
 induction bs with
 |nil=>intro a;simp
 |cons b r ih=>intro a;rw[List.foldl_cons,ih,List.map_cons,List.sum_cons];exact nAs (fj3 (Y0 (.a (.a X0 X1) X2) (.a X0 (.a X1 X2))) [] rfl) (fj3 (Y0 (.a X0 (.a X1 X2)) (.a (.a X0 X1) X2)) [] rfl)
theorem FW(l:List (Array UInt8)):∀(k:Nat) (out:Array UInt8),((l.zipIdx k).foldl (fun out (p,i)=>(if i>0 then out++(#[]:Array UInt8)else out)++p) out).toList=out.toList++l.flatMap (·.toList):=by
 induction l with
 |nil=>intro k out;simp
 |cons b r ih=>
  intro k out;rw[List.zipIdx_cons,List.foldl_cons,ih];have:(if k>0 then out++(#[]:Array UInt8)else out)=out:=by split<;>simp
  dsimp only;rw[this];simp
theorem mZ(l:List (Array UInt8)):(Builtin.Bytes.joined #[] l).toList=l.flatMap (·.toList):=by
 exact(FW l 0 #[]).trans (by simp)
theorem y5(l:List (Array UInt8)):(l.flatMap (·.toList)).length=(l.map (·.size)).sum:=by
 induction l with
 |nil=>rfl
 |cons b r ih=>rw[List.flatMap_cons,lAp,ih,List.map_cons,List.sum_cons,aTl]
theorem wF(e:m=m')(h:wpAny M A m' Q E s):wpAny M A m Q E s:=by rw[e];exact h
open Builtin Bytes in
theorem y6(hT:s.TypeIs (.ref a) "list")(h:Q (.ref a) s):wpAny (model prog w) A (joinItems (.ref a)) Q E s:=by
 unfold joinItems;exact wpAny_bind (wpAny_typeOf hT (wpAny_pure h))
theorem AS(hb:gf xs bs)(i:Nat):((lK (xs.take i)).any fun x=>x.fst.onHeap)=false:=by
 rw[List.any_eq_false]
 rintro⟨x,u⟩ hx
 obtain⟨y,hy,e⟩:=lMm hx;cases e;obtain⟨j,hj⟩:=List.mem_iff_getElem?.mp (List.mem_of_mem_take hy);have hlt:j<bs.length:=by rw[←hb.length];exact(lSi hj).1
 obtain⟨u,hu⟩:=hb.get (lGe hlt);rw[hj]at hu;cases hu;simp[Value.onHeap]
theorem Lz(ys:Array Value)(f:Value→α)(g:α):ys.size≠1→(match ys with| #[x]=>f x|_=>g)=g:=fun h=>match ys,h with
 |⟨[]⟩,_=>rfl
 |⟨[x]⟩,h=>absurd rfl h
 |⟨x::y::r⟩,_=>rfl
open Builtin Bytes in
theorem DH(hl:s.heap.PlainList a xs)(hb:gf xs.toList bs)(hn:bs.length≠1)(hz:(bs.map (·.size)).sum≤100000)
  (h:∀t' k,P (.done (.ret (.bytes (joined #[] bs) t'))) {s with toks:=k}):wpAny (model prog w) A (Builtin.«bytes.join» ⟨[.bytes #[] t,.ref a],[]⟩) P E s:=by
 obtain⟨n,ho⟩:=hl;haveI hT:s.TypeIs (.ref a) "list":=⟨_,ho,rfl⟩;haveI hsz:xs.size=bs.length:=by rw[←aTl,hb.length]
 show wpAny _ A (joinM .bytes ⟨[.bytes #[] t,.ref a],[]⟩) P E s;unfold joinM;refine wpAny_bind (wpAny_of_eq (a:=(.bytes #[] t,.ref a)) (by rfl) ?_);dsimp only;refine wpAny_bind (y6 hT ?_);refine wpAny_bind (wpAny_seqItems ho rfl ?_);dsimp only;rw[if_pos (by rfl)];refine wF (Lz xs _ _ (by omega)) ?_;refine wpAny_bind ?_;rw[Std.Legacy.Range.forIn_eq_forIn_range'];simp only[Std.Legacy.Range.size,Nat.sub_zero,Nat.add_sub_cancel,Nat.div_one];rw[hsz];refine Gl (fun rest (st:Array (Array UInt8)×List (Value×Option Value)) s''=>s''=s∧∃i,rest=List.range' i (bs.length-i)∧i≤bs.length∧st=((bs.take i).toArray,lK (xs.toList.take i))) (fun _ _=>False) (fun f hf Q' E' x rest st s'' hy _ hI=>?_) ?_ (fun _ _ h=>h.elim) ⟨rfl,0,by simp,nZl _,by simp[lK]⟩
 ·obtain⟨rfl,i,hr,hi,rfl⟩:=hI;have hlt:i<bs.length:=by
   by_cases q:i<bs.length
   ·exact q
   ·rw[Nat.sub_eq_zero_of_le (nNl q)]at hr;cases hr
  haveI hr':x=i∧rest=List.range' (i+1) (bs.length-(i+1)):=by
   rw[n9 hlt,List.range'_succ]at hr;cases hr;exact⟨rfl,rfl⟩
  obtain⟨rfl,rfl⟩:=hr';obtain⟨u,hu⟩:=hb.get (lGe hlt);haveI hget:xs.getD x Value.none= .bytes bs[x] u:=by
   rw[Array.getD_eq_getD_getElem?,←Array.getElem?_toList,hu];rfl
  haveI nh:=AS hb x;rw[hf];refine wpAny_bind (wpAny_seqItems ho rfl ?_);dsimp only;rw[nh];rw[if_neg (by decide)];rw[hget];refine wpAny_bind (wpAny_holding (wpAny_of_eq Lw ?_));dsimp only;refine wpAny_bind (wpAny_seqItems ho rfl ?_);dsimp only;rw[if_neg (by simp[hsz])];refine wpAny_pure (hy _ _ ⟨rfl,x+1,rfl,hlt,?_⟩);haveI e1:bs.take (x+1)=bs.take x++[bs[x]]:=by rw[List.take_add_one,lGe hlt];rfl
  haveI e2:xs.toList.take (x+1)=xs.toList.take x++[.bytes bs[x] u]:=by rw[List.take_add_one,hu];rfl
  rw[e1,e2];simp[lK]
 ·rintro st s'' ⟨rfl,i,hr,hi,rfl⟩
  haveI hge:i=bs.length:=by
   by_cases q:i<bs.length
   ·rw[n9 q,List.range'_succ]at hr;cases hr
   ·exact nAs (hi) ((nNl q))
  subst hge;rw[List.take_length];refine wpAny_bind (wpAny_of_eq (a:= #[]) rfl ?_);dsimp only;haveI htl:tooLong (bs.toArray.foldl (fun x1 x2=>x1+x2.size) ((#[]:Array UInt8).size*(bs.toArray.size-1)))=false:=by
   refine KBy.tooLong_not ?_;rw[←Array.foldl_toList,DG];simp only[Array.size_empty,Nat.zero_mul,Nat.zero_add];exact fj1 (Y0 X0 (.k 16777216)) [Y0 X0 (.k 100000)] rfl hz
  rw[if_neg (by rw[htl];exact Bool.false_ne_true)];refine wpAny_bind ?_;show wpAny _ A (mkBytes (joined #[] bs)) _ E s'';refine wpAny_mkBytes ?_ ?_
  ·refine wpAny_bind (wpAny_holding (wpAny_point ?_));refine wpAny_bind (rX ?_);exact wpAny_pure (h _ _)
  ·rw[←aTl,mZ,szl,y5];exact fj1 (Y0 X0 (.k 16777216)) [Y0 X0 (.k 100000)] rfl hz
theorem Bw:mroOf (.type "OSError")=pure [.type "OSError",.type "Exception",.type "BaseException",.type "object"]:=by rw[mroOf_type];kernel_rfl
theorem vl:typeLookup (.type "OSError") "__new__" =pure (some (.builtin "OSError.__new__")):=by rw[typeLookup_type,builtinLookup_eq_fast];kernel_rfl
theorem uw:typeLookup (.type "OSError") "__init__" =pure (some (.builtin "OSError.__init__")):=by rw[typeLookup_type,builtinLookup_eq_fast];kernel_rfl
theorem wG:Slot "OSError" "__init__" "OSError.__init__":=
 .of (owner:="OSError") (n:="__init__") (by rw[typeLookup_type,builtinLookup_eq_fast];kernel_rfl) (by decide+kernel) (by decide+kernel) (by decide+kernel)
  (by exact .inl (by decide+kernel)) (by rw[isSubtype_type];kernel_rfl)
theorem pB:TypeCalled "OSError" "OSError.__new__" "OSError.__init__":=
 ⟨by decide+kernel,by decide+kernel,⟨_,_,Bw⟩,madeBy_type Bw vl (by decide+kernel),by decide+kernel,by rw[isSubtype_type];kernel_rfl,wG⟩
theorem y7(a:Value):checkTypeCall "OSError" ⟨[a],[]⟩=pure ():=by kernel_rfl
theorem AT(a:Value):checkBuiltinCall "OSError.__new__" ⟨[.type "OSError",a],[]⟩=pure ():=by kernel_rfl
theorem vU:plainId "OSError.__new__" =true:=by decide+kernel
theorem FX:entryFor table "OSError.__new__" =some Builtin.«OSError.__new__»:=by exact entryFor_of_fast (by kernel_rfl)
theorem vm:entryFor table "OSError.__init__" =some Builtin.«OSError.__init__»:=by exact entryFor_of_fast (by kernel_rfl)
theorem wH(a b:Value):argsOk "OSError.__init__" ⟨[a,b],[]⟩:=by unfold argsOk;kernel_rfl
theorem vV:Builtin.OSError.osReadsInInit (.type "OSError")=pure false:=by
 unfold Builtin.OSError.osReadsInInit;rw[uw];haveI h:(Manifest.canonical "OSError.__init__" =="OSError.__init__")=true:=by decide+kernel
 haveI key:∀x:String,x="OSError" →isSubtype (.type "OSError") (.type x)=pure true:=fun x hx=>by rw[hx];exact pB.sub
 simp only[pure_bind,h,if_true];rw[key _ (by decide+kernel)];rfl
theorem y8(e:m=m')(h:wpAny M A m' Q E s):wpAny M A m Q E s:=by rw[e];exact h
section
variable {prog:Program} {w:World} {A:Around} {E:PS} {s:Shared}
theorem LA(hQ:∀e h',(∀b o,s.heap.get? b=some o→h'.get? b=some o)→({s with heap:=h'}:Shared).TypeIs e "OSError" →Q e {s with heap:=h'}):
  codeAny (model prog w) A (.call (.builtin "OSError.__new__") ⟨[.type "OSError",x],[]⟩) (wants Q E) s:=by
 refine codeAny_of_tree ?_;show wpAny _ A.in1 (do checkBuiltinCall "OSError.__new__" ⟨[.type "OSError",x],[]⟩;again (.builtin "OSError.__new__" ⟨[.type "OSError",x],[]⟩)) _ _ s;refine wpAny_bind (wpAny_of_eq (AT _) (wpAny_pure ⟨plainId_quiet vU _,codeAny_builtin FX ?_⟩));rw[Around.under_plainId vU _];unfold Builtin.«OSError.__new__»;refine wpAny_bind (wpAny_of_eq (a:=true) rfl ?_);refine bm_if_false rfl ?_;refine wpAny_bind (wpAny_of_eq pB.sub ?_);refine bm_if_false rfl ?_;refine wpAny_bind (wpAny_of_eq vV ?_);refine bm_if_false rfl (bm_if_false rfl ?_)
 try dsimp only
 refine bm_if_false rfl ?_;refine wpAny_bind (wpAny_bind (wpAny_newTuple ?_));refine wpAny_newObj_type ?_ (by(show _≤_;simp[Builtin.OSError.osNothingGiven,szl]));dsimp only;generalize hH:(s.heap.push {cls:= .type "tuple",data:= .seq ([]:List Value).toArray})=H1;haveI k1:∀b o,s.heap.get? b=some o→H1.get? b=some o:=fun b o e=>hH▸Heap.get?_push_of_some _ e
 haveI n1:s.heap.get? H1.objs.size=none:=aq _ (by rw[←hH,Heap.size_push];exact Nat.le_succ _);generalize hO:({cls:= .type "OSError",dict:=none,data:= .fields (#[Value.ref s.heap.objs.size,Value.none,Value.none,Value.none,Value.bool false,Value.none]++Builtin.OSError.osNothingGiven)}:Obj)=o;have g2:(H1.push o).get? H1.objs.size=some o:=Heap.get?_push_size _ (by rw[←hO];rfl);haveI k2:∀b ob,s.heap.get? b=some ob→(H1.push o).get? b=some ob:=fun b ob e=>Heap.get?_push_of_some _ (k1 b ob e)
 have put:∀(A:Around) (s':Shared) (i:Nat) (v x:Value) (vs:Array Value) (Q:Unit→Shared→Prop) (E:PS),s'.heap.get? H1.objs.size=some {cls:= .type "OSError",dict:=none,data:= .fields vs}→vs[i]?=some x→
   (∀h',h'.get? H1.objs.size=some {cls:= .type "OSError",dict:=none,data:= .fields (vs.setIfInBounds i v)}→Heap.SameBut H1.objs.size s'.heap h'→Q () {s' with heap:=h'})→wpAny (model prog w) A (Builtin.OSError.osPut (.ref H1.objs.size) i v) Q E s':=fun A s' i v x vs Q E h1 h2 h3=>by
  unfold Builtin.OSError.osPut;refine wpAny_bind (wpAny_field h1 rfl h2 (wpAny_bind ?_));exact wpAny_setField_rec h1 (Array.getElem?_eq_some_iff.mp h2).1 fun h' a1 a2=>wpAny_letGo (h3 h' a1 a2)
 haveI gm:Builtin.OSError.osGiveMeaning (.ref H1.objs.size) [x]=(do
   Builtin.OSError.osPut (.ref H1.objs.size) 6 Builtin.OSError.osUnset
   Builtin.OSError.osPut (.ref H1.objs.size) 7 Builtin.OSError.osUnset
   let t←newTuple [x]
   Builtin.OSError.osPut (.ref H1.objs.size) 0 t):=by rfl
 refine wpAny_bind (y8 gm ?_);haveI g2:=g2.trans (congrArg some hO.symm);refine wpAny_bind (put _ _ 6 _ _ _ _ _ g2 rfl fun h6 a6 b6=>?_);refine wpAny_bind (put _ _ 7 _ _ _ _ _ a6 rfl fun h7 a7 b7=>?_);refine wpAny_bind (wpAny_newTuple ?_);refine put _ _ 0 _ _ _ _ _ (Heap.get?_push_of_some _ a7) rfl fun h8 a8 b8=>?_
 refine wpAny_pure ?_;have ne:∀b ob,s.heap.get? b=some ob→b≠H1.objs.size:=fun b ob e=>bF e n1
 refine hQ _ _ (fun b ob e=>?_) ⟨_,a8,rfl⟩;exact(b8.2 b (ne b ob e)).trans (Heap.get?_push_of_some _ ((b7.2 b (ne b ob e)).trans ((b6.2 b (ne b ob e)).trans (hO▸k2 b ob e))))
theorem y9(hQ:∀e h',(∀b o,s.heap.get? b=some o→h'.get? b=some o)→Q e {s with heap:=h'}):wpAny (model prog w) A (call (.type "OSError") [x]) Q E s:=by
 refine callType_codes (Q₁:=fun obj s₁=>s₁.TypeIs obj "OSError" ∧Q obj s₁) pB (y7 _) vm (LA fun e h' hk hT=>⟨hT,hQ e h' hk⟩) fun obj s₁ h₁=>?_
 refine⟨h₁.1,wH obj _,?_⟩;unfold Builtin.«OSError.__init__»;refine wpAny_bind (wpAny_typeOf h₁.1 ?_);refine wpAny_bind (wpAny_of_eq vV ?_);exact wpAny_bind (wpAny_rule (wpAny_pure ⟨rfl,h₁.2⟩))
end
open Builtin.Str in
theorem FY(hy:(y.length==0)=false)(hsz:x.length≤100000)
  (h:∀(l:List (Str×Tok)) tk,l.map (·.1)=Txt.split x y→Q (.ref s.heap.objs.size) {s with heap:=s.heap.push {cls:= .type "list",data:= .seq (strValues l).toArray},toks:=tk}):
  wpAny (model prog w) A (call (.builtin "str.split") [.str x t,.str y u]) Q E s:=by
 haveI hs:=szl;haveI hn:(partsBetween x (occurrences x y 0 x.length (x.length+1)) y.length).length≤sizeLine:=by
  haveI e1:=StrLaws.occ_length_le x y 0 x.length (x.length+1);rw[length_partsBetween];lia
 cases h1:(decide (x.length<y.length)||decide (strKind x<strKind y))
 ·cases hf:(occurrences x y 0 x.length (x.length+1)).isEmpty
  ·refine call_meets F.slot_str_split (typeIs_str _ _ _) F.entry_str_split (F.args_str_split_2 _ _) (meets_str_split_sep x y t u h1 hy hf (by lia) hn) ?_;show wants Q E _ {s with toks:=_,heap:=s.heap.push {cls:= .type "list",data:= .seq (strsFrom s.toks (partsBetween x (occurrences x y 0 x.length (x.length+1)) y.length)).toArray}};rw[strsFrom_eq];exact h (numbered s.toks _) _ ((numbered_texts _ _).trans ((if_neg (ne_true_of_eq_false h1)).trans (if_neg (ne_true_of_eq_false hf))).symm)
  ·exact call_meets F.slot_str_split (typeIs_str _ _ _) F.entry_str_split (F.args_str_split_2 _ _) (meets_str_split_not_found x y t u h1 hy hf)
    (h [(x,t)] s.toks ((if_neg (ne_true_of_eq_false h1)).trans (if_pos hf)).symm)
 ·exact call_meets F.slot_str_split (typeIs_str _ _ _) F.entry_str_split (F.args_str_split_2 _ _) (meets_str_split_cannot_occur x y t u h1)
   (h [(x,t)] s.toks (if_pos h1).symm)
open Builtin.Str in
theorem DI(hy:(y.length==0)=false)(hsz:x.length≤100000)(hk:(decide (k< -(2^63:Int))||decide (k≥2^63))=false)
  (h:∀(l:List (Str×Tok)) tk,l.map (·.1)=Txt.splitMax x y k→Q (.ref s.heap.objs.size) {s with heap:=s.heap.push {cls:= .type "list",data:= .seq (strValues l).toArray},toks:=tk}):
  wpAny (model prog w) A (call (.builtin "str.split") [.str x t,.str y u,.int k v]) Q E s:=by
 haveI hs:=szl;haveI hn:(partsBetween x (occurrences x y 0 x.length (limitOf x k)) y.length).length≤sizeLine:=by
  haveI e1:=StrLaws.occ_length_le_len x y 0 x.length (limitOf x k);rw[length_partsBetween];lia
 cases h1:(decide (x.length<y.length)||decide (strKind x<strKind y))
 ·cases hf:(occurrences x y 0 x.length (limitOf x k)).isEmpty
  ·refine call_meets F.slot_str_split (typeIs_str _ _ _) F.entry_str_split (F.args_str_split_3 _ _ _) (meets_str_split_sep_max x y k t u v hk h1 hy hf (by lia) hn) ?_;show wants Q E _ {s with toks:=_,heap:=s.heap.push {cls:= .type "list",data:= .seq (strsFrom s.toks (partsBetween x (occurrences x y 0 x.length (limitOf x k)) y.length)).toArray}};rw[strsFrom_eq];exact h (numbered s.toks _) _ ((numbered_texts _ _).trans ((if_neg (ne_true_of_eq_false h1)).trans (if_neg (ne_true_of_eq_false hf))).symm)
  ·exact call_meets F.slot_str_split (typeIs_str _ _ _) F.entry_str_split (F.args_str_split_3 _ _ _) (meets_str_split_max_not_found x y k t u v hk h1 hy hf)
    (h [(x,t)] s.toks ((if_neg (ne_true_of_eq_false h1)).trans (if_pos hf)).symm)
 ·exact call_meets F.slot_str_split (typeIs_str _ _ _) F.entry_str_split (F.args_str_split_3 _ _ _) (meets_str_split_max_cannot_occur x y k t u v hk h1)
   (h [(x,t)] s.toks (if_pos h1).symm)
theorem vn:∀l:List (Str×Tok),aj ρ n h ((l.map (·.1)).map V.str) (strValues l)
 |[]=> .nil
 |(x,t)::r=> .cons (.str x t) (vn r)
section
variable {S:Sta} {d:Nat} {c:FC} {X:PX} {σ:St}
theorem Bx(hy:(y.length==0)=false)(hsz:x.length≤100000)(h:P (.list ((Txt.split x y).map .str)) σ):aI S d c (.top (.builtin "str.split")) [.str x,.str y] [] P X σ:=JI h dT fun A ρ s vs' ks' hA C r1 r2 Q E hQ=>by
 refine r2.nilE ?_;refine r1.twoE fun _ _ rx ry=>?_
 refine rx.strE fun t=>?_
 refine ry.strE fun u=>?_
 exact FY hy hsz fun l tk e=>hQ _ (strValues l).toArray _ _ (fun b o e=>Heap.get?_push_of_some _ e) (aq _ (nRe _)) ⟨0,Heap.get?_push_size _ rfl⟩ fun ρ' n' M=>by rw[←e];exact vn l
theorem Ip(hy:(y.length==0)=false)(hsz:x.length≤100000)(hk:(decide (k< -(2^63:Int))||decide (k≥2^63))=false)(h:P (.list ((Txt.splitMax x y k).map .str)) σ):aI S d c (.top (.builtin "str.split")) [.str x,.str y,.int k] [] P X σ:=JI h dT fun A ρ s vs' ks' hA C r1 r2 Q E hQ=>by
 refine r2.nilE ?_;refine r1.threeE fun _ _ _ rx ry rk=>?_
 refine rx.strE fun t=>?_
 refine ry.strE fun u=>?_
 refine rk.intE fun v=>?_
 exact DI hy hsz hk fun l tk e=>hQ _ (strValues l).toArray _ _ (fun b o e=>Heap.get?_push_of_some _ e) (aq _ (nRe _)) ⟨0,Heap.get?_push_size _ rfl⟩ fun ρ' n' M=>by rw[←e];exact vn l
theorem vo(h:P (.top (.builtin "str.split")) [.str x] σ):iO S d c (.str x) "split" P X σ:=lx rfl PySem.F.plainAttrs_str PySem.F.slot_str_split PySem.F.type_str_split (by decide) h
theorem za(h:P (.top (.builtin "str.startswith")) [.str x] σ):iO S d c (.str x) "startswith" P X σ:=lx rfl PySem.F.plainAttrs_str PySem.F.slot_str_startswith PySem.F.type_str_startswith (by decide) h
theorem LB(h:P (.top (.builtin "str.join")) [.str x] σ):iO S d c (.str x) "join" P X σ:=lx rfl PySem.F.plainAttrs_str PySem.F.slot_str_join PySem.F.type_str_join (by decide) h
theorem LF(h:P (.top (.builtin "bytes.join")) [.bytes x] σ):iO S d c (.bytes x) "join" P X σ:=lx rfl PySem.W.FB.plainAttrs_bytes uv DE (by decide) h
theorem zb(h:P (.bool (Txt.startswith x y)) σ):aI S d c (.top (.builtin "str.startswith")) [.str x,.str y] [] P X σ:=fm dT fun A ρ s vs' ks' hA C r1 r2 Q E hQ=>by
 refine r2.nilE ?_;refine r1.twoE fun _ _ rx ry=>?_
 refine rx.strE fun t=>?_
 refine ry.strE fun u=>?_
 exact SC.startswith (hQ _ _ s.heap s.toks (fun _ _ e=>e) h (.bool _))
theorem QD(hz:x.length≤100000)(h:P (.int x.length) σ):aI S d c (.top (.builtin "len")) [.str x] [] P X σ:=fm dT fun A ρ s vs' ks' hA C r1 r2 Q E hQ=>by
 refine r2.nilE ?_;refine r1.oneE fun _ rx=>?_
 refine rx.strE fun t=>?_
 have e:(2:Int)^63=9223372036854775808:=rfl;exact len_str (by rw[e];lia) (hQ _ _ s.heap _ (fun _ _ e=>e) h (.int _ _))
theorem zc(h0:0≤n)(h1:n<10^10)(h:P (.int n) σ):aI S d c (.top (.type "int")) [.str (toString n)] [] P X σ:=fm ny fun A ρ s vs' ks' hA C r1 r2 Q E hQ=>by
 refine r2.nilE ?_;refine r1.oneE fun _ rx=>?_
 refine rx.strE fun t=>?_
 exact KIN.call_num h0 h1 (hQ _ _ s.heap _ (fun _ _ e=>e) h (.int _ _))
theorem By(hv:cO σ.hp v (ns.map .int))(hr:∀n∈ns,0≤n∧n<256)(hz:ns.length≤100000)(h:P (.bytes (byteArr ns)) σ):aI S d c (.top (.type "bytes")) [v] [] P X σ:=fm ny fun A ρ s vs' ks' hA C r1 r2 Q E hQ=>by
 refine r2.nilE ?_;refine r1.oneE fun _ rx=>?_
 refine C.lstE hv rx fun l xs hl hrr hsz rx=>?_
 have hl':s.heap.IsList l xs.toList.toArray:=by rw[Array.toArray_toList];exact hl.isList
 exact call_bytes_ints hl' hrr.ints hr (by rw[aTl,hsz,lMa,szl];lia) hA.handled fun h' t k hk=>hQ _ _ h' k hk h (.bytes _ _)
theorem LG(hv:cO σ.hp v (bs.map .bytes))(hn:bs.length≠1)(hz:(bs.map (·.size)).sum≤100000)(h:P (.bytes (Builtin.Bytes.joined #[] bs)) σ):aI S d c (.top (.builtin "bytes.join")) [.bytes #[],v] [] P X σ:=fm dT fun A ρ s vs' ks' hA C r1 r2 Q E hQ=>by
 refine r2.nilE ?_;refine r1.twoE fun _ _ rb rx=>?_
 cases rb with
 |bytes _ t=>
  refine C.lstE hv rx fun l xs hl hrr hsz rx=>?_
  exact wpAny_call_entry uv (typeIs_bytes _ _ _) AR (DH hl (Io hrr) hn hz fun t' k=>⟨_,rfl,hQ _ _ s.heap k (fun _ _ e=>e) h (.bytes _ _)⟩) (DF _ _)
theorem LH(h:P .any σ):aI S d c (.top (.type "OSError")) [x] [] P X σ:=fm ny fun A ρ s vs' ks' hA C r1 r2 Q E hQ=>by
 refine r2.nilE ?_;refine r1.oneE fun _ rx=>?_
 exact y9 fun e h' hk=>hQ _ _ h' s.toks hk h (.any _)
end
noncomputable def JS(it:Addr)(x:Str)(k:Nat)(ρ:Pl)(n:Nat)(h:Heap):Prop:=∃t,h.IsStrIter it (strIterType x) x t k
noncomputable def signs(x:Str):List V:=x.cps.toList.map fun c=>V.str ⟨#[c]⟩
theorem sT(x:Str):strIterType x≠"tuple" ∧qY.contains (strIterType x)=false:=by
 unfold strIterType;split<;>exact⟨by decide,by decide⟩
section
variable {S:Sta} {d:Nat} {c:FC} {X:PX} {σ:St}
theorem Iq:si S it (signs x) (fun _=>True) (JS it x):=by
 refine⟨fun k ρ n h ⟨t,o,e,h1,_⟩=>⟨o,e,dg h1 (sT x).1⟩,fun k ρ ρ' n n' h h' ⟨t,o,e,r⟩ M hk=>⟨t,o,hk o e,r⟩,?_,?_⟩
 ·intro k hp ρ s A v hh hG C ⟨t,hat⟩ hM hv Q E hQ;unfold signs at hv;rw[List.getElem?_map]at hv;cases hc:x.cps.toList[k]? with
  |none=>rw[hc]at hv;cases hv
  |some ch=>
   rw[hc]at hv;cases hv;rw[Array.getElem?_toList]at hc;have fin:∀h',h'.IsStrIter it (strIterType x) x t (k+1)→Heap.SameBut it s.heap h'→Q (some (.str ⟨#[ch]⟩ s.toks)) {s with heap:=h',toks:=s.toks+1}:=fun h' h1 h2=>
    hQ _ h' (s.toks+1) (.str _ _) (fun b o hb e=>(h2.2 b hb).trans e) ⟨t,h1⟩
   unfold strIterType at hat fin;split at hat
   ·rename_i ha;rw[if_pos ha]at fin;exact wpAny_pyNext_ascii_item hat hc fin
   ·rename_i ha;rw[if_neg ha]at fin;exact wpAny_pyNext_wide_item hat hc fin
 ·intro hp ρ s A hh hG C ⟨t,hat⟩ Q E hQ;have hc:x.cps[(signs x).length]?=none:=by
   unfold signs;rw[lMa,←Array.getElem?_toList];exact List.getElem?_eq_none (nRe _)
  have fin:∀h',Heap.ExtBut it s.heap h'→Q none {s with heap:=h'}:=fun h' h1=>hQ h' s.toks fun b o hb e=>h1 b o hb e
  unfold strIterType at hat;split at hat
  ·exact wpAny_pyNext_ascii_end hh hat hc fin
  ·exact wpAny_pyNext_wide_end hh hat hc fin
theorem LI:Itr S hp (.str x) (signs x) (fun _=>True):=⟨trivial,fun ρ s v' C r=>by
 refine r.strE fun t=>?_
 refine⟨{cls:= .type (strIterType x),data:= .fields #[.str x t,.int 0 0]},JS s.heap.objs.size x,rfl,dg rfl (sT x).1,Iq,fun k ρ n s2 ⟨t,hat⟩=>?_,⟨t,_,Heap.get?_push_size _ rfl,rfl,rfl⟩,fun A Q E q=>wpAny_pyIter_strU q⟩;haveI hat':=hat;obtain⟨o,e1,e2,_⟩:=hat';refine⟨⟨o,_,e1,e2,(sT x).2⟩,fun A Q E q=>?_⟩;unfold strIterType at hat;split at hat
 ·exact wpAny_pyIter_striter_ascii hat q
 ·exact wpAny_pyIter_striter_wide hat q⟩
theorem LJ(h:P (.bytes b.toArray) σ):WEx S d c (.Constant (.bytes b) k p) P X σ:=fun A cl L a ρ s hA C Q E hQ hE=>by
 obtain⟨C',T⟩:=C.toks (s.toks+1);exact Constant_bytes (hQ _ _ σ ρ _ h T C' (.bytes _ _))
noncomputable def zd(es:List DictEntry):Bool:=es.all fun e=>match e.key with
 | .str _ _=>true
 |_=>false
theorem TX {h:Heap}{a:Addr}{cl:Value}{dd:Option Addr}{es:Array DictEntry}{ep:Nat}{sl:Array (Option Value)}(e:h.get? a=some ⟨cl,dd,.dict es ep,sl⟩)(k:zd es.toList=true):h.Ns a (fun x=>nsFind es x):=by
 refine⟨_,es,ep,e,rfl,fun e he=>?_,fun x=>rfl⟩;have:=List.all_eq_true.mp k e (Array.mem_toList_iff.mpr he);split at this
 ·rename_i n t q;exact⟨n,t,q⟩
 ·cases this
theorem TY {C N:Addr}{nm q:Str}{bs:List Value}{sn:List Str}{sub:List Value}{ab hdct:Bool}{col:Option Bool}{dd dn:Option Addr}{k0 k1 k2 k3 k5:Option Value}{cn:Value}{es:Array DictEntry}{ep:Nat}{sl:Array (Option Value)}{x:V}{P:PV}
  (hC:S.K.lookup C=some (excClassObj nm q C N bs [.type "Exception",.type "BaseException",.type "object"] hdct sn sub ab col dd k0 k1 k2 k3 k5 "Exception.__new__"))(hN:S.K.lookup N=some ⟨cn,dn,.dict es ep,sl⟩)(hk:zd es.toList=true)(hi:nsFind es ("__init__":Str)=none)
  (hkp:keepIn S.K (.ref C)=true)(h:P .any σ):aI S d c (.top (.ref C)) [x] [] P X σ:=fun A cl L ρ s hA CC f' vs' ks' rf r1 r2 Q E hQ hE=>by
 obtain rfl:=rf.top_inv;have X':=S.X.keeps CC.keep;refine r2.nilE ?_;refine r1.oneE fun _ rx=>?_
 refine⟨keeps_K hkp s.heap X',?_⟩;refine wpAny_call_exc_sub PySem.F.excBase_Exception (X' _ _ hC) (TX (X' _ _ hN) hk) hi fun h' e hm=>?_
 haveI C':=(CC.grows (h':=h') s.toks hm.keeps).1;haveI T:=(CC.grows (h':=h') s.toks hm.keeps).2;exact hQ _ _ σ ρ _ h T C' (.any _)
theorem QE {K:Frag}{prog:Program}{w:World}{A:Around}{E:PS}{s:Shared}{pl:Sem Bool}{Q:Value×List Value→Shared→Prop}(X:K.In s.heap)
  (e:findCls K (.type "int") (.type "type") (PySem.Str.ofString "from_bytes")=some (.get (.builtin "classmethod_descriptor.__get__") (.builtin "int.from_bytes") .none (.type "int")))
  (h:Q (.ref s.heap.objs.size,[]) {s with heap:=s.heap.push KFB.bound,toks:=s.toks+1}):
  wpAny (model prog w) A (getMethod (.type "int") (PySem.Str.ofString "from_bytes") pl) Q E s:=by
 haveI hstub:opaqueClassAbove (.type "int")=pure none:=by unfold opaqueClassAbove;dsimp only;rw[show Manifest.isStub "int" =false by decide+kernel];rfl
 haveI ht:typeOf (.type "int")=pure (.type "type"):=by rfl
 haveI L0:Looks (model prog w) s.heap (typeOf (.type "int")) (.type "type"):=Looks.of_pure ht;haveI hg:findIn K (.type "type") "__getattribute__" =some (some (.builtin "type.__getattribute__")):=type_tga;unfold getMethod specialOf;refine wpAny_bind (wpAny_bind (L0.here ((looks_findIn X hg).here ?_)));dsimp only;rw[if_pos canon_tga];refine wpAny_bind (wpAny_mono (Q:=fun v=>Q (v,[])) (E:=E) ?_ (fun _ _ z=>wpAny_pure z) fun _ _ z=>z);haveI LO:Looks (model prog w) s.heap (opaqueClassAbove (.type "int")) none:=Looks.of_pure hstub;refine cls_open X LO L0 hg (looks_hook X (r:=none) (by rfl)) (by show subIn K _ _=_;rfl) e ?_;show wpAny _ _ (holding [.builtin "int.from_bytes"] (call (.builtin "classmethod_descriptor.__get__") [.builtin "int.from_bytes",.none,.type "int"])>>=fun v=>ret v) _ _ _;refine wpAny_bind (wpAny_holding (wpAny_call_entry KFB.slot_get KFB.type_fb KFB.entry_get (KFB.run_get ⟨_,rfl,wpAny_pure (wpAny_pure h)⟩) (KFB.args_get _ _ _)))
noncomputable def w7(b:Array UInt8):Int:=KFB.value (KBw.bInts b)
theorem FZ(n:ac c "int" i .globalImplicit)(bl:eW S "int" (.type "int"))
  (ef:findCls S.K (.type "int") (.type "type") (PySem.Str.ofString "from_bytes")=some (.get (.builtin "classmethod_descriptor.__get__") (.builtin "int.from_bytes") .none (.type "int")))
  (h:WEx S d c e (fun v σ1=>∃b,v= .bytes b∧b.size≤8∧P (.int (w7 b)) σ1) X σ)(hs:dJ e=true:=by rfl)(hline:(apos.endLine==pos.line)=true:=by rfl)(hkk:c.scope.kind= .function:=by rfl)
  (hb:∀env,attributeBase (.Name "int" np) "from_bytes" env (eval (.Name "int" np) env)=eval (.Name "int" np) env:=by intro _;rfl):
  WEx S d c (.Call (.Attribute (.Name "int" np) "from_bytes" apos) [e,.Constant (.str "big") k sp] [] pos) P X σ:=fun A cl L a ρ s hA C Q E hQ hE=>by
 show wpAny S.M A (eval (.Call (.Attribute (.Name "int" np) "from_bytes" apos) [e,.Constant (.str "big") k sp] [] pos) (c.env cl L a)) Q E s;rw[arm_eval_Call,hb];haveI hn:WEx S d c (.Name "int" np) (fun v σ'=>v= .top (.type "int")∧σ'=σ) X σ:=gK n bl ⟨rfl,rfl⟩ hkk;refine wpAny_bind (WT.use hn hA C (.refl ..) hE fun v v' σ1 ρ1 s1 h1 T1 _ C1 r1=>?_);obtain⟨rfl,rfl⟩:=h1;obtain rfl:=r1.top_inv;refine wpAny_bind (wpAny_standAt ?_);haveI hpos:methodCallPos true (.Name "int" np) (c.env cl L a) apos pos=pure pos:=by unfold methodCallPos;simp[hline]
 haveI hall:[e,.Constant (.str "big") k sp].all dJ=true:=by rw[List.all_cons,hs];rfl
 haveI hse:starEach [e,.Constant (.str "big") k sp] (c.env cl L a)=[e,.Constant (.str "big") k sp].map fun e=>(false,eval e (c.env cl L a)):=cH hall
 rw[hse];unfold methodCall;haveI hform:methodCallForm ([e,PySem.Expr.Constant (.str "big") k sp].length+([]:List Keyword).length) (backTo pos ([e,.Constant (.str "big") k sp].map fun e=>(false,eval e (c.env cl L a)))) (backToKw pos (keywordEach [] (c.env cl L a)))=true:=rfl;rw[hform];refine wpAny_bind (wpAny_holding (QE (S.X.keeps C1.keep) ef ?_));refine wpAny_bind (wpAny_of_eq hpos ?_);obtain⟨C2,T2⟩:=C1.freeze (s':={s1 with heap:=s1.heap.push KFB.bound,toks:=s1.toks+1}) (fun b o e=>Heap.get?_push_of_some _ e) C1.gens rfl (·=s1.heap.objs.size) fun b hb=>by
  subst hb;exact⟨aq _ (nRe _),by show((s1.heap.push _).get? _).isSome=true;rw[Heap.get?_push_size _ rfl];rfl⟩
 haveI g2:(s1.heap.push KFB.bound).get? s1.heap.objs.size=some KFB.bound:=Heap.get?_push_size _ rfl;haveI stand:∀ρ3 (σ3:St) s3,ah [L] (ρ1.more (·=s1.heap.objs.size)) σ1.hp {s1 with heap:=s1.heap.push KFB.bound,toks:=s1.toks+1} ρ3 σ3.hp s3→KFB.StandsAt s1.heap.objs.size s3.heap:=fun ρ3 σ3 s3 T3=>
  (T3.moves C2.toCorrH C2.nsAll).fzh _ _ (.inr rfl) g2
 refine KFB.callWith_fields rfl ?_;show wpAny S.M A (evalArgs (.ref s1.heap.objs.size) true _ (backToKw pos (keywordEach [] (c.env cl L a)))) _ E _;refine gt mu rfl ?_;refine spliced_cons (WT.use h hA C2 (T1.trans T2) hE fun v v' σ3 ρ3 s3 h3 T3 U3 C3 r3=>?_);obtain⟨b,rfl,hsz,hP⟩:=h3;refine spliced_cons ?_;show wpAny S.M A (eval (.Constant (.str "big") k sp) (c.env cl L a)) _ E s3;refine wpAny_Constant_str (spliced_nil (kwAll_nil ⟨stand ρ3 σ3 s3 U3,?_⟩));cases r3 with
 |bytes _ t=>
  refine KFB.call_of (stand ρ3 σ3 s3 U3) (fun z=>KFB.tree_big hsz z) ?_;haveI C4:=(C3.toks (s3.toks+1+1)).1;haveI T4:=(C3.toks (s3.toks+1+1)).2;exact hQ _ _ σ3 ρ3 _ hP (T3.trans T4) C4 (.int _ _)
end
end Az
section
namespace Az
open Builtin Builtin.Str
noncomputable def oct(n:Int):PySem.Str:=toString n
theorem rB {x y:PySem.Str}(h:x.cps.toList=y.cps.toList):x=y:=by
 obtain⟨⟨x⟩⟩:=x;obtain⟨⟨y⟩⟩:=y;dsimp only at h;rw[h]
noncomputable def DJ(m:Nat):Bool:=
 let x:=(Nat.toDigits 10 m).map Char.toNat
 x.all (fun c=>Nat.ble 48 c&&Nat.ble c 57)&&Nat.ble x.length 3&&Nat.ble 1 x.length&&(Nat.beq x.length 1|| !(Nat.beq (x.headD 0) 48))
theorem F0:(List.range 256).all DJ=true:=by decide+kernel
theorem Ir(h:m<256):DJ m=true:=List.all_eq_true.mp F0 m (List.mem_range.mpr h)
structure bn(x:PySem.Str):Prop where
 dig:∀c∈x.cps.toList,48≤c∧c≤57
 le:x.length≤3
 ge:1≤x.length
 lead:x.length=1∨∃c r,x.cps.toList=c::r∧c≠48
theorem len_list(x:PySem.Str):x.length=x.cps.toList.length:=by rw[aTl];rfl
theorem cB(h0:0≤n)(h1:n<256):bn (oct n):=by
 obtain⟨m,rfl⟩:=Int.eq_ofNat_of_zero_le h0;haveI hm:m<256:=Int.ofNat_lt.mp (fi1 (Y1 X0 (.k 256)) [Y1 X0 (.k 256)] rfl h1);have h:=Ir hm;haveI e:(oct (m:Int)).cps.toList=(Nat.toDigits 10 m).map Char.toNat:=KIN.signs_num m;unfold DJ at h;rw[←e]at h;simp only[Bool.and_eq_true,Bool.or_eq_true,Bool.not_eq_true',Nat.beq_eq,Nat.ble_eq,List.all_eq_true]at h;obtain⟨⟨⟨a,b⟩,c⟩,d⟩:=h;refine⟨fun x hx=>a x hx,by rw[len_list];exact b,by rw[len_list];exact c,?_⟩;rcases d with d|d
 ·exact .inl (by rw[len_list];exact d)
 ·right;cases hl:(oct (m:Int)).cps.toList with
  |nil=>rw[hl]at c;simp at c
  |cons ch r=>
   rw[hl]at d;refine⟨ch,r,rfl,fun q=>?_⟩;subst q;simp at d
theorem w8(h:c<48∨57<c)(o:bn x):c∉x.cps.toList:=fun hm=>by have:=o.dig c hm;omega
theorem iA(c:Nat):∀(x:PySem.Str) (r:List PySem.Str),r≠[]→(PySem.Str.join ⟨#[c]⟩ (x::r)).cps.toList=x.cps.toList++c::(PySem.Str.join ⟨#[c]⟩ r).cps.toList
 |x,y::r,_=>by
  show(x++(⟨#[c]⟩:PySem.Str)++PySem.Str.join ⟨#[c]⟩ (y::r)).cps.toList=_;show(x.cps++ #[c]++_).toList=_;simp
theorem vp:∀{a b r t:List Nat},c∉a→c∉b→a++c::r=b++c::t→a=b∧r=t
 |[],[],r,t,_,_,h=>by simpa using h
 |[],y::b,r,t,_,hb,h=>by
  simp at h;exact absurd h.1 (fun e=>hb (by simp[e]))
 |x::a,[],r,t,ha,_,h=>by
  simp at h;exact absurd h.1 (fun e=>ha (by simp[e]))
 |x::a,y::b,r,t,ha,hb,h=>by
  simp only[List.cons_append,List.cons.injEq]at h;haveI e1:=(h).1;haveI e2:=(h).2;haveI f1:=(vp (fun q=>ha (.tail _ q)) (fun q=>hb (.tail _ q)) e2).1;haveI f2:=(vp (fun q=>ha (.tail _ q)) (fun q=>hb (.tail _ q)) e2).2;exact⟨by rw[e1,f1],f2⟩
theorem ze {c:Nat}:∀{l l':List PySem.Str},(∀p∈l,c∉p.cps.toList)→(∀p∈l',c∉p.cps.toList)→l≠[]→l'≠[]→PySem.Str.join ⟨#[c]⟩ l=PySem.Str.join ⟨#[c]⟩ l'→l=l'
 |[],_,_,_,h,_,_=>absurd rfl h
 |_,[],_,_,_,h,_=>absurd rfl h
 |[x],[y],_,_,_,_,h=>by
  have:x=y:=h;rw[this]
 |[x],y::z::r,hx,hy,_,_,h=>by
  have e:x.cps.toList=(PySem.Str.join ⟨#[c]⟩ (y::z::r)).cps.toList:=congrArg (·.cps.toList) (show x=_ from h);rw[iA c y (z::r) (by simp)]at e;exact absurd (by rw[e];simp) (hx x (.head _))
 |x::z::r,[y],hx,hy,_,_,h=>by
  have e:(PySem.Str.join ⟨#[c]⟩ (x::z::r)).cps.toList=y.cps.toList:=congrArg (·.cps.toList) (show _=y from h);rw[iA c x (z::r) (by simp)]at e;exact absurd (by rw[←e];simp) (hy y (.head _))
 |x::a::r,y::b::t,hx,hy,_,_,h=>by
  have e:(PySem.Str.join ⟨#[c]⟩ (x::a::r)).cps.toList=(PySem.Str.join ⟨#[c]⟩ (y::b::t)).cps.toList:=by rw[h]
  rw[iA c x (a::r) (by simp),iA c y (b::t) (by simp)]at e;obtain⟨e1,e2⟩:=vp (hx x (.head _)) (hy y (.head _)) e;have:=ze (l:=a::r) (l':=b::t) (fun p hp=>hx p (.tail _ hp)) (fun p hp=>hy p (.tail _ hp)) (by simp) (by simp) (rB e2);rw[rB e1,this]
theorem DK(h:∀p∈l,c∉p.cps.toList)(hl:l≠[]):Txt.split (Txt.join ⟨#[c]⟩ l) ⟨#[c]⟩=l:=by
 refine ze (c:=c) (StrLaws.split_free _ c) h (fun q=>?_) hl ?_
 ·have:=StrLaws.join_split (Txt.join ⟨#[c]⟩ l) ⟨#[c]⟩;unfold Txt.split at q;split at q
  ·cases q
  ·split at q
   ·cases q
   ·rw[StrLaws.partsBetween_eq]at q;obtain⟨p,r,e⟩:=StrLaws.partsFrom_ne (Txt.join ⟨#[c]⟩ l) (⟨#[c]⟩:PySem.Str).length 0 (occurrences (Txt.join ⟨#[c]⟩ l) ⟨#[c]⟩ 0 (Txt.join ⟨#[c]⟩ l).length ((Txt.join ⟨#[c]⟩ l).length+1));rw[e]at q;cases q
 ·rw[StrLaws.join_split];exact StrLaws.glued_eq_join _ _
theorem zf:∀{l:List PySem.Str},k∈(PySem.Str.join ⟨#[c]⟩ l).cps.toList→k=c∨∃p∈l,k∈p.cps.toList
 |[],h=>by
  have:(PySem.Str.join ⟨#[c]⟩ []).cps.toList=[]:=rfl;rw[this]at h;cases h
 |[x],h=> .inr ⟨x,.head _,h⟩
 |x::y::r,h=>by
  rw[iA c x (y::r) (by simp)]at h;rcases List.mem_append.mp h with h|h
  ·exact .inr ⟨x,.head _,h⟩
  ·cases h with
   |head=>exact .inl rfl
   |tail _ h=>
    rcases zf h with h|⟨p,hp,h⟩
    ·exact .inl h
    ·exact .inr ⟨p,.tail _ hp,h⟩
theorem zg {c:Nat}{a b:PySem.Str}(ha:c∉a.cps.toList):Txt.splitMax (a++⟨#[c]⟩++b) ⟨#[c]⟩ 1=[a,b]:=by
 generalize hx:a++(⟨#[c]⟩:PySem.Str)++b=x;have hl:x.cps.toList=a.cps.toList++c::b.cps.toList:=by
  rw[←hx];show(a.cps++ #[c]++b.cps).toList=_;simp
 have hlen:x.length=a.length+1+b.length:=by rw[len_list,hl,len_list a,len_list b];simp;exact nAs (fj2 (Y0 (.a X0 (.i X1)) (.a (.i X0) X1)) [] rfl) (fj2 (Y0 (.a (.i X0) X1) (.a X0 (.i X1))) [] rfl)
 haveI h1:(decide (x.length<(⟨#[c]⟩:PySem.Str).length)||decide (strKind x<strKind ⟨#[c]⟩))=false∨True:= .inr trivial;haveI hAt:∀i,StrLaws.At x ⟨#[c]⟩ x.length i↔x.cps.toList[i]?=some c:=fun i=>StrLaws.subAt_one x c i
 have hat0:StrLaws.At x ⟨#[c]⟩ x.length a.length:=(hAt _).mpr (by rw[hl,len_list,List.getElem?_append_right (nRe _)];simp);haveI hlim:limitOf x 1=1:=by
  unfold limitOf;rfl
  all_goals (split<;>omega)
 haveI hmem:c∈x.cps.toList:=by rw[hl];simp
 haveI hk:¬strKind x<strKind ⟨#[c]⟩:=by
  have e:∀B,x.cps.all (fun v=>decide (v<B))=true→(⟨#[c]⟩:PySem.Str).cps.all (fun v=>decide (v<B))=true:=fun B h=>by
   rw[Array.all_eq_true_iff_forall_mem]at h⊢;intro v hv;have:v=c:=by simpa using hv
   exact this▸h c (Array.mem_toList_iff.mp hmem)
  unfold Builtin.Str.strKind;split
  ·rename_i q;rw[if_pos (e _ q)];exact fun hz=>fj0 (0,3,.k 0,.k 0) [Y1 (.k 1) (.k 1)] rfl hz
  ·split
   ·rename_i q;split<;>(first|omega|(rw[if_pos (e _ q)];omega))
   ·split<;>(try omega);split<;>omega
 unfold Txt.splitMax;rw[hlim];haveI hc:¬(decide (x.length<(⟨#[c]⟩:PySem.Str).length)||decide (strKind x<strKind ⟨#[c]⟩))=true:=by
  have:(⟨#[c]⟩:PySem.Str).length=1:=rfl;rw[this,dEf (show ¬x.length<1 by exact fun hz=>fj3 (0,3,.k 0,.k 0) [Y2 (.a (.i X0) X1) X2,Y1 X2 (.k 1)] rfl hlen.symm hz),dEf hk];simp
 rw[if_neg hc];rcases StrLaws.occ_head x ⟨#[c]⟩ 1 (nRe _)with ⟨_,h⟩|⟨i,r,e,hi,hmin⟩
 ·exact absurd hat0 (h _)
 ·haveI hr:r=[]:=by
   have:=StrLaws.occ_length_le x ⟨#[c]⟩ 0 x.length 1;rw[e]at this;cases r with
   |nil=>rfl
   |cons _ _=>simp at this
  subst hr;rw[e,if_neg (by simp)];haveI hi':=(hAt i).mp hi;haveI hia:i=a.length:=by
   by_cases q:i<a.length
   ·rw[hl,List.getElem?_append_left (by rw[←len_list];exact q)]at hi';exact absurd (List.mem_of_getElem? hi') ha
   ·by_cases q2:a.length<i
    ·exact absurd hat0 (hmin _ q2)
    ·exact nAs ((nNl q2)) ((nNl q))
  subst hia;rw[StrLaws.partsBetween_eq];show [strSub x 0 a.length,strSub x (a.length+1) x.length]=[a,b];haveI e1:strSub x 0 a.length=a:=rB (by rw[StrLaws.strSub_toList,hl,List.drop_zero,Nat.sub_zero,len_list,List.take_left'];rfl);haveI e2:strSub x (a.length+1) x.length=b:=rB (by
   rw[StrLaws.strSub_toList,hl,hlen,len_list];rw[show a.cps.toList++c::b.cps.toList=(a.cps.toList++[c])++b.cps.toList by simp];rw[List.drop_left' (by simp),List.take_of_length_le];rw[←len_list];exact fj3 (Y0 X0 X1) [Y0 (.a (.i X2) X0) (.a X1 (.i X2))] rfl (lsa (a.cps.toList.length+1+b.length) (a.cps.toList.length+1)))
  rw[e1,e2]
end Az
end
section
namespace Az
open Builtin Builtin.Str
noncomputable def fH(a b c d:Int):PySem.Str:=Txt.join "." [oct a,oct b,oct c,oct d]
noncomputable def hJ(a b c d p:Int):PySem.Str:=fH a b c d++"/" ++oct p
theorem w9:(PySem.Str.ofString ".":PySem.Str)=⟨#[46]⟩:=by decide+kernel
theorem kh:(PySem.Str.ofString "/":PySem.Str)=⟨#[47]⟩:=by decide+kernel
theorem LK:(PySem.Str.ofString ":":PySem.Str)=⟨#[58]⟩:=by decide+kernel
theorem It:(PySem.Str.ofString "0123456789":PySem.Str).cps.toList=[48,49,50,51,52,53,54,55,56,57]:=by decide+kernel
theorem VK:(PySem.Str.ofString "0x":PySem.Str)=⟨#[48,120]⟩:=by decide+kernel
theorem s_0:(PySem.Str.ofString "0":PySem.Str)=⟨#[48]⟩:=by decide+kernel
theorem pC(x:PySem.Str)(c:Nat):sv x ⟨#[c]⟩=decide (c∈x.cps.toList):=StrLaws.found_one x c
theorem jT(x y:PySem.Str):(x++y).cps.toList=x.cps.toList++y.cps.toList:=by
 show(x.cps++y.cps).toList=_;simp
theorem LL(h:48≤c∧c≤57):sv "0123456789" ⟨#[c]⟩=true:=by
 rw[pC,It,decide_eq_true_eq];have:∀k:Nat,k<10→48+k∈[48,49,50,51,52,53,54,55,56,57]:=by decide
 have:=this (c-48) (by exact fj2 (Y1 X0 (.k 10)) [Y0 X1 (.k 57),Y2 (.a X0 (.k 48)) X1] rfl h.2 (sac c 48 h.1));rwa[show 48+(c-48)=c by exact nAs (fj2 (Y0 (.a (.k 48) X0) X1) [Y2 (.a X0 (.k 48)) X1] rfl (sac c 48 h.1)) (fj2 (Y0 X0 (.a (.k 48) X1)) [Y0 X0 (.a X1 (.k 48))] rfl (lsa c 48))]at this
theorem rY(h:x.cps.toList=c::r)(k:Nat)(l:List Nat)(hne:c≠k):Txt.startswith x ⟨(k::l).toArray⟩=false:=by
 unfold Txt.startswith;rw[Bool.and_eq_false_iff];right;rw[StrLaws.subAt_eq,h,List.drop_zero];have:(⟨(k::l).toArray⟩:PySem.Str).length=l.length+1:=by show(k::l).toArray.size=_;simp
 rw[this,List.take_succ_cons];simp;exact fun e=>absurd e hne
section
variable {x:PySem.Str} (o:bn x)
include o
theorem bn.cons:∃c r,x.cps.toList=c::r∧48≤c∧c≤57:=by
 have h1:=o.ge;rw[len_list]at h1;cases hl:x.cps.toList with
 |nil=>rw[hl]at h1;simp at h1
 |cons c r=>exact⟨c,r,rfl,o.dig c (by rw[hl];exact .head _)⟩
theorem bn.no0x:Txt.startswith x "0x" =false:=by
 rw[VK];obtain⟨c,r,hl,hc⟩:=o.cons;unfold Txt.startswith;rw[Bool.and_eq_false_iff];right;rw[StrLaws.subAt_eq,hl,List.drop_zero];cases r with
 |nil=>simp[PySem.Str.length]
 |cons c2 r=>
  have h2:=o.dig c2 (by rw[hl];exact .tail _ (.head _));have:(⟨#[48,120]⟩:PySem.Str).length=2:=rfl;rw[this];simp;lia
theorem bn.lead0:lead0 x=false:=by
 unfold Az.lead0;rw[s_0];rcases o.lead with h|⟨c,r,hl,hc⟩
 ·rw[dEf (by exact fun hz=>fi1 (0,3,.k 0,.k 0) [Y2 X0 (.k 1),Y1 (.k 1) X0] rfl (iOj h) hz)];rfl
 ·rw[rY hl 48 [] hc,Bool.and_false]
theorem bn.starts:Txt.startswith x "0" =true→x.length=1:=fun h=>by
 rcases o.lead with q|⟨c,r,hl,hc⟩
 ·exact q
 ·rw[s_0,rY hl 48 [] hc]at h;cases h
end
section
variable {a b c d p:Int}
theorem vq(h:k<46∨57<k∨k=47)(ha:bn (oct a))(hb:bn (oct b))(hc:bn (oct c))(hd:bn (oct d)):k∉(fH a b c d).cps.toList:=fun hm=>by
 unfold fH Txt.join at hm;rw[StrLaws.glued_eq_join,w9]at hm;rcases zf hm with e|⟨q,hq,hk⟩
 ·lia
 ·have go:∀y,bn y→k∈y.cps.toList→False:=fun y o hy=>by have:=o.dig k hy;lia
  simp only[List.mem_cons,List.not_mem_nil,or_false]at hq;rcases hq with rfl|rfl|rfl|rfl
  ·exact go _ ha hk
  ·exact go _ hb hk
  ·exact go _ hc hk
  ·exact go _ hd hk
theorem ux(ha:bn (oct a))(hb:bn (oct b))(hc:bn (oct c))(hd:bn (oct d)):Txt.split (fH a b c d) "." =[oct a,oct b,oct c,oct d]:=by
 unfold fH;rw[w9];refine DK (fun q hq=>?_) (by simp);simp only[List.mem_cons,List.not_mem_nil,or_false]at hq;rcases hq with rfl|rfl|rfl|rfl
 ·exact w8 (by decide) ha
 ·exact w8 (by decide) hb
 ·exact w8 (by decide) hc
 ·exact w8 (by decide) hd
theorem jp(ha:bn (oct a))(hb:bn (oct b))(hc:bn (oct c))(hd:bn (oct d)):(fH a b c d).length≤15:=by
 haveI e:fH a b c d=PySem.Str.join ⟨#[46]⟩ [oct a,oct b,oct c,oct d]:=by
  unfold fH Txt.join;rw[StrLaws.glued_eq_join,w9]
 haveI h1:=ha.le;haveI h2:=hb.le;haveI h3:=hc.le;haveI h4:=hd.le;rw[len_list]at h1 h2 h3 h4;rw[len_list,e,iA _ _ _ (by simp),iA _ _ _ (by simp),iA _ _ _ (by simp)];show(_++_::(_++_::(_++_::(oct d).cps.toList))).length≤15;simp only[List.length_append,List.length_cons];exact fj4 (1,0,.a X0 (.a (.a X1 (.a (.a X2 (.i X3)) (.k 1))) (.k 1)),.k 15) [Y0 X0 (.k 3),Y0 X1 (.k 3),Y0 X2 (.k 3),Y0 X3 (.k 3)] rfl h1 h2 h3 h4
theorem zh:sv (hJ a b c d p) "/" =true:=by
 rw[kh,pC,decide_eq_true_eq];unfold hJ;rw[jT,jT,kh];simp
theorem DL(ha:bn (oct a))(hb:bn (oct b))(hc:bn (oct c))(hd:bn (oct d)):sv (fH a b c d) "/" =false:=by
 rw[kh,pC];exact dEf (vq (by decide) ha hb hc hd)
theorem DM(ha:bn (oct a))(hb:bn (oct b))(hc:bn (oct c))(hd:bn (oct d)):sv (fH a b c d) ":" =false:=by
 rw[LK,pC];exact dEf (vq (by decide) ha hb hc hd)
theorem zi(ha:bn (oct a))(hb:bn (oct b))(hc:bn (oct c))(hd:bn (oct d)):Txt.splitMax (hJ a b c d p) "/" 1=[fH a b c d,oct p]:=by
 unfold hJ;rw[kh];exact zg (vq (by decide) ha hb hc hd)
theorem DN(ha:bn (oct a))(hb:bn (oct b))(hc:bn (oct c))(hd:bn (oct d))(hp:bn (oct p)):(hJ a b c d p).length≤19:=by
 haveI h1:=jp ha hb hc hd;haveI h2:=hp.le;rw[len_list]at h1 h2⊢;unfold hJ;rw[jT,jT,kh];simp only[List.length_append,List.length_cons,List.length_nil];exact fj2 (Y0 (.a (.a X0 (.i (.k 0))) X1) (.k 19)) [Y0 X0 (.k 15),Y0 X1 (.k 3)] rfl h1 h2
end
theorem QF(ha:0≤a∧a<256)(hb:0≤b∧b<256)(hc:0≤c∧c<256)(hd:0≤d∧d<256):
  w7 (Builtin.Bytes.joined #[] [byteArr [a],byteArr [b],byteArr [c],byteArr [d]])=((a*256+b)*256+c)*256+d:=by
 have back:∀{n:Int},0≤n∧n<256→((n.toNat.toUInt8.toNat:Nat):Int)=n:=fun h=>byte_back h.1 h.2
 unfold w7;haveI e:KBw.bInts (Builtin.Bytes.joined #[] [byteArr [a],byteArr [b],byteArr [c],byteArr [d]])=[a,b,c,d]:=by
  show((Builtin.Bytes.joined #[] _).toList.map fun c=>((c.toNat:Nat):Int))=_;rw[mZ];simp only[byteArr,List.flatMap_cons,List.flatMap_nil,List.map_cons,List.map_nil,List.append_nil,List.toList_toArray,List.cons_append,List.nil_append];rw[back ha,back hb,back hc,back hd]
 rw[e];unfold KFB.value;simp only[List.foldl_cons,List.foldl_nil];exact iAs (fi4 (1,0,.a (.n (.a (.n (.a (.n (.a (.m 0 (.k 256)) X0) 256) X1) 256) X2) 256) X3,.a (.n (.a (.n (.a (.n X0 256) X1) 256) X2) 256) X3) [] rfl) (fi4 (1,0,.a (.n (.a (.n (.a (.n X0 256) X1) 256) X2) 256) X3,.a (.n (.a (.n (.a (.n (.a (.m 0 (.k 256)) X0) 256) X1) 256) X2) 256) X3) [] rfl)
end Az
end
namespace Az
section
variable {S:Sta} {d:Nat}
theorem QG:findCls S.K (.type "int") (.type "type") (PySem.Str.ofString "from_bytes")=some (.get (.builtin "classmethod_descriptor.__get__") (.builtin "int.from_bytes") .none (.type "int")):=by kernel_rfl
theorem JT:nsIn S.K 3 "__builtins__" =some (some (.ref 4)):=bd
theorem QH:S.K.lookup 4=some ⟨.type "module",some 0,.plain,#[]⟩:=by kernel_rfl
structure B4(a b c e:Int):Prop where
 a:0≤a∧a<256
 b:0≤b∧b<256
 c:0≤c∧c<256
 e:0≤e∧e<256
noncomputable def Ga(n:Int):V:= .bytes (byteArr [n])
theorem QI(ok:B4 a b c e)(h:n∈[a,b,c,e]):0≤n∧n<256:=by
 simp only[List.mem_cons,List.not_mem_nil,or_false]at h;rcases h with rfl|rfl|rfl|rfl
 ·exact ok.a
 ·exact ok.b
 ·exact ok.c
 ·exact ok.e
theorem QJ {n:Int}(h:0≤n∧n<256):n.fdiv (2^(8:Int).toNat)=0:=by
 have e:(2:Int)^(8:Int).toNat=256:=by decide
 rw[e,Int.fdiv_eq_ediv_of_nonneg _ (by decide)];exact iAs (fi3 (256,0,X0,.k 0) [Y1 X1 (.k 256),Y2 (.a (.m 256 X0) X2) X1,Y0 (.k 0) X2] rfl h.2 (Int.mul_ediv_add_emod n 256) (Int.emod_nonneg n (b:=256) (by decide))) (fi3 (256,0,.k 0,X0) [Y0 (.k 0) X1,Y2 X1 (.a (.m 256 X0) X2),Y1 X2 (.k 256)] rfl h.1 (Int.mul_ediv_add_emod n 256).symm (Int.emod_lt_of_pos n (b:=256) (by decide)))
theorem Iu(hd:d<880)(ok:B4 a b c e):PFn S d (.ref re) [.str (fH a b c e)] [] (·= .bytes (Builtin.Bytes.joined #[] ([a,b,c,e].map fun n=>byteArr [n]))):=by
 have oa:=cB ok.a.1 ok.a.2;have ob:=cB ok.b.1 ok.b.2;have oc:=cB ok.c.1 ok.c.2;have oe:=cB ok.e.1 ok.e.2;have hln:=jp oa ob oc oe;refine PFn.sealed ?_;refine Hp CL ?_ (dd0 hd rfl);refine s_i (al (aQ qw ao (aa iQ rfl (gK zW gw ?_))));refine lD rfl (aK ?_);refine dt (by rfl) ?_;refine s_a (aQ t9 CF (iC (LH (ag o4 .z1 (s_a (cy iQ rfl (vo ?_)))))));refine iC (Bx (by decide+kernel) (fj1 (Y0 X0 (.k 100000)) [Y0 X0 (.k 15)] rfl hln) ?_);rw[ux oa ob oc oe];refine ag j6 .z2 (s_i (bz (aQ rR ir (aa j6 rfl (wU (.inr rfl) (blE rfl) (af (el ?_)))))));refine kb (dt (by rfl) ?_);refine s_a (gu (fB ?_));refine lV .nil ?_;refine ag i7 .z3 (ay (tG (aa j6 rfl ?_)));refine⟨_,.inr rfl,?_⟩;refine qn (g:=fun n=>V.str (oct n)) (xs:=[a,b,c,e]) (fun rest σ=>∃(done:List Int) (o1 o2:Option V),done++rest=[a,b,c,e]∧σ=⟨[some (.str (fH a b c e)),some .any,some (.list ([oct a,oct b,oct c,oct e].map .str)),some (.obj 0),o1,o2,none,none,none,none,none,none,none,none],[.list (done.map Ga)]⟩) (fun n rest σ hi=>?_) (fun σ hi=>?_) ⟨[],none,none,rfl,rfl⟩
 ·obtain⟨done,o1,o2,eD,rfl⟩:=hi;have hn:0≤n∧n<256:=QI ok (eD▸List.mem_append_right done (.head rest));have on:=cB hn.1 hn.2;have hdl:done.length≤4:=by have:=congrArg List.length eD;simp at this;exact fj2 (Y0 X0 (.k 4)) [Y2 (.a X0 (.i X1)) (.k 4)] rfl this
  refine a_n eK .z4 (s_i (bz ?_));refine nE (gO.of (cel:=[]) rfl) (aa eK rfl ?_);refine⟨_,_,LI,(by unfold signs;rw[lMa,←len_list];have:=on.le;exact fj1 (Y0 X0 (.k 100000)) [Y0 X0 (.k 3)] rfl this),?_⟩;refine PK (fun σ=>∃q:Option V,σ=⟨[none,q],[.list (done.map Ga)]⟩) (fun _=>none) (fun v hv σ hi=>?_) (fun ws σ ew hi=>?_) ⟨none,rfl⟩
  ·obtain⟨q,rfl⟩:=hi;obtain⟨ch,hch,rfl⟩:=lMm hv;have hg:=on.dig ch hch;refine a_n (ac.of (i:=1) (k:= .local) (l:=Qg)) .z1 (xI (fF (ac.of (i:=1) (k:= .local) (l:=Qg)) rfl ?_));refine iC (Hh (kb ?_));refine⟨fun hb=>absurd hb (by rw[LL hg];decide),fun _=>⟨rfl,trivial,_,rfl⟩⟩
  ·obtain⟨q,rfl⟩:=hi;rw[List.filterMap_eq_nil_iff.mpr (fun _ _=>rfl)]at ew;subst ew;refine fS (fB ?_);refine xM (ns:=[]) (ms:=[]) (.inr rfl) (.inr rfl) (dd hd rfl) (kb ?_);refine aC (by decide) ?_;refine cX (uK (al (cy eK rfl (za (iC (zb ?_))))));refine aK (so (by exact on.no0x) ?_);refine uK (bK (al (cy eK rfl (za (iC (zb ?_))))));refine aK ?_;refine lu (fun h1=>?_) (fun h1=>?_)
   ·
    refine bK (bz (aQ rR ir (aa eK rfl ?_)));refine QD (by have:=on.le;exact fj1 (Y0 X0 (.k 100000)) [Y0 X0 (.k 3)] rfl this) ?_;refine af (lS (kb ?_));refine fD (by have:=on.starts h1;simp[this]) ?_;refine so (by rfl) (tC (aC (by rfl) ?_));refine ae (ay (oH (s_a (aQ rS jK (aa eK rfl ?_)))));refine zc hn.1 (by lia) ?_;refine ag fN .z5 (ae (cX (bz (eg fN rfl ?_))));refine j2 (by decide) ?_;refine af (sg (kb ?_));refine aC (by rw[QJ hn];decide) ?_;refine ae (s_e (cy i7 rfl (bo rfl (aQ pL yf (fS (aa fN rfl ?_))))));refine By (.inr rfl) (ns:=[n]) (fun m hm=>by obtain rfl:=lMs hm;exact hn) (blE rfl) ?_;refine lW rfl (by rw[lMa];exact fj1 (Y0 X0 (.k 100000)) [Y0 X0 (.k 4)] rfl hdl) ?_;refine ae ?_;refine⟨.inr rfl,done++[n],some (.str (oct n)),some (.int n),by rw[←eD];simp,?_⟩;rw[lMp];rfl
   ·
    refine so (by rfl) (tC (aC (by rfl) ?_));refine ae (ay (oH (s_a (aQ rS jK (aa eK rfl ?_)))));refine zc hn.1 (by lia) ?_;refine ag fN .z5 (ae (cX (bz (eg fN rfl ?_))));refine j2 (by decide) ?_;refine af (sg (kb ?_));refine aC (by rw[QJ hn];decide) ?_;refine ae (s_e (cy i7 rfl (bo rfl (aQ pL yf (fS (aa fN rfl ?_))))));refine By (.inr rfl) (ns:=[n]) (fun m hm=>by obtain rfl:=lMs hm;exact hn) (blE rfl) ?_;refine lW rfl (by rw[lMa];exact fj1 (Y0 X0 (.k 100000)) [Y0 X0 (.k 4)] rfl hdl) ?_;refine ae ?_;refine⟨.inr rfl,done++[n],some (.str (oct n)),some (.int n),by rw[←eD];simp,?_⟩;rw[lMp];rfl
 ·obtain⟨done,o1,o2,eD,rfl⟩:=hi;rw[List.append_nil]at eD;subst eD;refine je (qj ?_);refine LJ (LF (aa i7 rfl ?_));refine LG (bs:=[a,b,c,e].map fun n=>byteArr [n]) (.inl ⟨_,rfl,by rw[List.map_map];rfl⟩) (by simp) (by simp[byteArr]) ?_;exact⟨_,.nob rfl,rfl⟩
theorem LM(hd:d<870)(ok:B4 a b c e):PFn S d (.ref tN) [.int 2,.str (fH a b c e)] [] (·= .bytes (Builtin.Bytes.joined #[] ([a,b,c,e].map fun n=>byteArr [n]))):=by
 refine Kz Fh ?_ (dd0 hd rfl);refine s_i (fF vK rfl (au u2 vJ (el (kb ?_))));refine dt (by rfl) ?_;refine s_r (bH lC oY (aa l3 rfl ?_));refine bL (Iu (dd hd rfl) ok) ?_ Hm;exact⟨rfl,rfl⟩
theorem Iv:S.K.lookup 30=some ⟨(.type "dict"),none,(.dict #[⟨PyData.keyHash S.w.params "__module__",(.str ⟨⟨[95,95,109,111,100,117,108,101,95,95]⟩⟩ 211),(.str "netaddr.core" 194)⟩,⟨PyData.keyHash S.w.params "__firstlineno__",(.str ⟨⟨[95,95,102,105,114,115,116,108,105,110,101,110,111,95,95]⟩⟩ 215),(.int (9) 214)⟩,⟨PyData.keyHash S.w.params "__static_attributes__",(.str ⟨⟨[95,95,115,116,97,116,105,99,95,97,116,116,114,105,98,117,116,101,115,95,95]⟩⟩ 216),(.ref 29)⟩,⟨PyData.keyHash S.w.params "__weakref__",(.str ⟨⟨[95,95,119,101,97,107,114,101,102,95,95]⟩⟩ 218),(.ref 32)⟩,⟨PyData.keyHash S.w.params "__doc__",(.str ⟨⟨[95,95,100,111,99,95,95]⟩⟩ 219),.none⟩] 3),#[]⟩:=by kernel_rfl
theorem QK:S.K.lookup 31=some (excClassObj "AddrFormatError" "AddrFormatError" 31 30 [.type "Exception"] [.type "Exception",.type "BaseException",.type "object"] true [] [] false none none (some (.ref 22)) none (some (.str "AddrFormatError" 204)) (some (.str "AddrFormatError" 212)) (some (.bool true)) "Exception.__new__"):=by kernel_rfl
theorem TZ(h:P .any σ):aI S d c (.top (.ref 31)) [x] [] P X σ:=
 TY QK Iv (by kernel_rfl) (by kernel_rfl) (by kernel_rfl) h
theorem Gb(ok:B4 a b c e):w7 (Builtin.Bytes.joined #[] ([a,b,c,e].map fun n=>byteArr [n]))=((a*256+b)*256+c)*256+e:=QF ok.a ok.b ok.c ok.e
theorem Iw:(Builtin.Bytes.joined #[] ([a,b,c,e].map fun n=>byteArr [n])).size≤8:=by
 rw[←aTl,mZ,y5];simp[byteArr]
theorem QL(oa:bn (oct a))(ob:bn (oct b))(oc:bn (oct c))(oe:bn (oct e))(h:t∈[oct a,oct b,oct c,oct e]):t.length≤3:=by
 simp only[List.mem_cons,List.not_mem_nil,or_false]at h;rcases h with rfl|rfl|rfl|rfl
 ·exact oa.le
 ·exact ob.le
 ·exact oc.le
 ·exact oe.le
theorem LN(hd:d<860)(ok:B4 a b c e):PFn S d (.ref tO) [.str (fH a b c e),.int 1] [] (·= .int (((a*256+b)*256+c)*256+e)):=by
 have oa:=cB ok.a.1 ok.a.2;have ob:=cB ok.b.1 ok.b.2;have oc:=cB ok.c.1 ok.c.2;have oe:=cB ok.e.1 ok.e.2;have hln:=jp oa ob oc oe;refine KG Fj ?_ (dd0 hd rfl);refine s_a (bH mX rD (iC (TZ (ag yg .z2 (s_i (bz (iC ?_)))))));refine aa kr rfl (Cu (kb ?_));refine aC (by exact DM oa ob oc oe) ?_;refine k8 (Vw (cC l6 rfl (au sF fZ (cU ?_))));refine dB (qr (by rfl) ?_);refine ag ji .z3 (s_i (al (cC l6 rfl (au ua iG (cU ?_)))));refine dB (aC (by rfl) ?_);refine s_i (bK (al (aa ji rfl ?_)));refine dB (ls (by rfl) ?_);refine bK (al ?_);refine Im CM Qe (.tail _ (.head _)) rfl (by kernel_rfl) (by kernel_rfl) JT QH (dd hd rfl) (co) (by kernel_rfl) (by kernel_rfl) (AQ rfl (by kernel_rfl) (by kernel_rfl) ir rfl) ?_;refine cy kr rfl (vo (iC ?_));refine Bx (by decide+kernel) (fj1 (Y0 X0 (.k 100000)) [Y0 X0 (.k 15)] rfl hln) ?_;rw[ux oa ob oc oe];refine⟨[oct a,oct b,oct c,oct e],.inr rfl,blE rfl,(fun t ht=>by have:=QL oa ob oc oe ht;exact fj1 (Y0 X0 (.k 100000)) [Y0 X0 (.k 3)] rfl this),?_⟩;refine aK ?_;refine fD (by simp[oa.lead0,ob.lead0,oc.lead0,oe.lead0]) ?_;refine aC (by rfl) ?_;refine ae (ae (ay (oH (s_i (al (aa ji rfl ?_))))));refine dB (dt (by rfl) ?_);refine s_a (bH sG zU (au u3 vJ (aa kr rfl ?_)));refine bL (LM (dd hd rfl) ok) ?_ Kv;refine ag pM .z4 (ae (ae (je (FZ CN jK QG (aa pM rfl ?_)))));refine⟨_,rfl,Iw,?_⟩;exact⟨congrArg V.int (Gb ok),rfl⟩
theorem Ix(hd:d<850)(ok:B4 a b c e):PFn S d (.ref rg) [.top (.ref m4),.str (fH a b c e),.int 1] [] (·= .int (((a*256+b)*256+c)*256+e)):=by
 refine Hv CP ?_ (dd0 hd rfl);refine s_r (bH me rE (aa qx rfl (aa pN rfl ?_)));refine bL (LN (dd hd rfl) ok) ?_ KC;exact⟨rfl,rfl⟩
end
section
variable {S:Sta} {d:Nat}
theorem JU(h:P (.bool false) σ):WO2 S d c (compareOp .Eq) .none (.int k) RelV P X σ:=fun A cl L ρ s hA C x' y' rx ry Q E hQ hE=>by
 obtain rfl:=rx.none_inv;obtain⟨t,rfl⟩:=ry.int_inv;exact EqNone.eq_none_int (hQ _ _ σ ρ s h (.refl ..) C (.bool _))
theorem QM(hd:d<840)(ok:B4 a b c e)(hb:Binds S (be S) vs ks [("self",.obj 0),("addr",.str (fH a b c e)),("version",.int 4),("flags",.int 1)])(h:P .none [pe m4 (((a*256+b)*256+c)*256+e)]):WFn S d (.ref eZ) vs ks P no [.inst aU []]:=by
 have oa:=cB ok.a.1 ok.a.2;have ob:=cB ok.b.1 ok.b.2;have oc:=cB ok.c.1 ok.c.2;have oe:=cB ok.e.1 ok.e.2;haveI hln:=jp oa ob oc oe;haveI M:=pb (S:=S);refine i6 hb ?_ (dd0 hd rfl);refine s_i (al (cC bp rfl (hZ (am (am (au dF fZ (au dU iG ?_)))))));refine lQ (au bg dC (lQ (ko (cU ?_))));refine dB (aC (by rfl) ?_);refine cX (bK (al (cC bp rfl (au bg dC (cU ?_)))));refine dB (fD (by rfl) (aC (by rfl) ?_));refine cX (al (aQ aR ao (aa az rfl (au eQ l0 ?_))));refine wD rfl (aK ?_);refine aC (by rfl) ?_;refine s_i (fF bj rfl (bh (er rfl (kb ?_))));refine dt (by rfl) ?_;refine s_i (dR bj rfl (el (kb ?_)));refine dt (by rfl) ?_;refine dl (au jL iX (aa n_AddrInit_self rfl ?_));refine fL rfl fe (by repeat' first|exact fG|exact dE|apply gQ|kernel_rfl) (blE rfl) .zero ?_;refine ae (cX (bK (al (aQ aR ao (aa az rfl (gK fg gw ?_))))));refine lD rfl (aK ?_);refine ls (by rfl) ?_;refine bK (bz (iC (aa az rfl (Cu (kb ?_)))));refine fD (by exact DL oa ob oc oe) (aC (by rfl) ?_);refine cX (bz (av n_AddrInit_self rfl ?_));refine cm (.inl ⟨_,rfl,rfl⟩) ?_;refine bh (ju rfl (kb ?_));refine aC (by rfl) ?_;refine s_i (al (aQ aR ao (aa az rfl (gK fg gw ?_))));refine lD rfl (aK ?_);refine dt (by rfl) ?_;refine ay (oH (dl (qj (av n_AddrInit_self rfl ?_))));refine cm (.inl ⟨_,rfl,rfl⟩) (Hc wX wY (wW _) Fd Fe (j0) ?_);refine aa az rfl (aa bp rfl ?_);refine bL (Ix (dd hd rfl) ok) ?_ Hs;refine aa n_AddrInit_self rfl (fL rfl fK (by repeat' exact dE) (blE rfl) .zero ?_);refine ae (ae (ae (ae (ae (ae ?_)))));exact h
theorem LP(hd:d<830)(ok:B4 a b c e):PFn S d (.ref aU) [.str (fH a b c e),.int 4] [("flags",.int 1)] (·=dj m4 (((a*256+b)*256+c)*256+e)):=mkA fun P h=>QM (dd hd rfl) ok pP h
theorem vr(ok:B4 a b c e):0≤(((a*256+b)*256+c)*256+e)∧(((a*256+b)*256+c)*256+e)<2^32:=by
 obtain⟨⟨a1,a2⟩,⟨b1,b2⟩,⟨c1,c2⟩,e1,e2⟩:=ok;have:(2:Int)^32=4294967296:=by decide
 exact⟨fi4 (1,0,.k 0,.a (.n (.a (.n (.a (.n X0 256) X1) 256) X2) 256) X3) [(16777216,0,.k 0,X0),(65536,0,.k 0,X1),(256,0,.k 0,X2),Y0 (.k 0) X3] rfl a1 b1 c1 e1,fi5 (1,1,.a (.n (.a (.n (.a (.n X0 256) X1) 256) X2) 256) X3,X4) [(16777216,1,X0,.k 256),(65536,1,X1,.k 256),(256,1,X2,.k 256),Y1 X3 (.k 256),Y2 (.k 4294967296) X4] rfl a2 b2 c2 e2 this.symm⟩
theorem Gc(hd:d<820)(ok:B4 a b c e)(hp:0≤p∧p≤32):PFn S d (.ref lI) [.top (.ref m4),.str (hJ a b c e p),.int 0] [("expand_partial",.bool false)] (·= .tup [.int (((a*256+b)*256+c)*256+e),.int p]):=by
 have oa:=cB ok.a.1 ok.a.2;have ob:=cB ok.b.1 ok.b.2;have oc:=cB ok.c.1 ok.c.2;have oe:=cB ok.e.1 ok.e.2;haveI hln:=jp oa ob oc oe;haveI op:=cB hp.1 (fi1 (Y1 X0 (.k 256)) [Y0 X0 (.k 32)] rfl hp.2:p<256);haveI hl2:=DN (p:=p) oa ob oc oe op;haveI M:=pb (S:=S);refine sJ ue ?_ (dd0 hd rfl);refine s_i (al (aQ fV ao (aa cZ rfl (gK k9 sD ?_))));refine yG rfl (aK ?_);refine aC (by rfl) ?_;refine s_i (al (aQ fV ao (aa cZ rfl (gK Af gw ?_))));refine lD rfl (aK ?_);refine dt (by rfl) ?_;refine s_i (bz (iC (aa cZ rfl (Cu (kb ?_)))));refine dt (by exact zh) ?_;refine ay (eH (cy cZ rfl (vo (iC (af ?_)))));refine Ip (by decide+kernel) (fj1 (Y0 X0 (.k 100000)) [Y0 X0 (.k 19)] rfl hl2) (by decide+kernel) ?_;rw[zi oa ob oc oe];refine dh (by exact .inr (.inr rfl)) rfl ?_;refine a_n qz .z6 (a_n qA .z7 (cX (al (aa iY rfl ?_))));refine aK (aC (by rfl) ?_);refine k8 (bH rF cI (aa qz rfl (av d8 rfl ?_)));refine aA.version (by assumption) (au rG fZ ?_);refine bL (LP (dd hd rfl) ok) ?_ jx;refine ag ud .z8 (s_a (av ud rfl ?_));refine dL (.inr rfl) ?_;refine ag dN .z4 (ay (oH (s_a (aQ Ag jK (aa qA rfl ?_)))));refine zc hp.1 (by lia) ?_;refine ag cg .z5 (ae (cX (lr (im (af (aa cg rfl (hY ?_)))))));refine⟨_,rfl,?_⟩;refine qr (by simpa using hp.1) (av d8 rfl (aA.width (by assumption) (hY ?_)));refine⟨_,rfl,?_⟩;refine aC (by simp;exact hp.2) ?_;refine ae (ae (cX (al (cC i8 rfl (au j9 gR (cU ?_))))));refine dB (aC (by rfl) ?_);refine je (bc (aa dN rfl (aa cg rfl ?_)));exact⟨rfl,rfl⟩
theorem QN(hd:d<810)(ok:B4 a b c e)(hp:0≤p∧p≤32)(hb:Binds S (bQ S) vs ks [("self",.obj 0),("addr",.str (hJ a b c e p)),("version",.none),("flags",.int 0),("expand_partial",.bool false)])(h:P .none [sO m4 (((a*256+b)*256+c)*256+e) p]):WFn S d (.ref fU) vs ks P no [.inst aM []]:=by
 refine jN hb ?_ (dd0 hd rfl);refine s_i (al (cC cp rfl (hZ (au d9 gR (ko (cU ?_))))));refine dB (aC (by rfl) ?_);refine ae (ay (eH (bc (bh (bh (bh ?_))))));refine dh (by exact .inl rfl) rfl ?_;refine a_n aW .z5 (a_n aH .z6 (a_n aJ .z7 (s_i (al (aQ bv ao (aa aN rfl (au dV aD ?_)))))));refine sM rfl (aK ?_);refine aC (by rfl) ?_;refine s_i (al (aQ bv ao (aa aN rfl (au fE cI ?_))));refine sN rfl (aK ?_);refine aC (by rfl) ?_;refine s_i (dR di rfl (JU (kb ?_)));refine aC (by rfl) ?_;refine s_i (dR di rfl (JU (kb ?_)));refine aC (by rfl) ?_;refine s_i (fF di rfl (bh (er rfl (kb ?_))));refine aC (by rfl) ?_;refine ae (ay (oH (s_a (au ia iX (ag aJ .z7 (ay (eH ?_)))))));refine bH eM ip (aa aJ rfl (aa aN rfl (aa cp rfl (aa fv rfl ?_))));refine bL (Gc (dd hd rfl) ok hp) ?_ sI;refine dh (by exact .inl rfl) rfl ?_;refine a_n aW .z5 (a_n aH .z6 (ae (ae (ae (ae (ae (ae ?_)))))));refine dl (aa aW rfl (aa n_NetInit_self rfl ?_));refine et rfl gv (by repeat' exact dE) (blE rfl) .zero ?_;refine dl (aa aH rfl (aa n_NetInit_self rfl ?_));refine et rfl ft (by repeat' first|exact fG|exact dE|apply gQ|kernel_rfl) (blE rfl) .zero ?_;refine dl (aa aJ rfl (aa n_NetInit_self rfl ?_));refine et rfl fM (by repeat' first|exact fG|exact dE|apply gQ|kernel_rfl) (blE rfl) .zero (ae ?_);exact h
theorem LQ(hd:d<800)(ok:B4 a b c e)(hp:0≤p∧p≤32):PFn S d (.ref aM) [.str (hJ a b c e p)] [] (·=aY m4 (((a*256+b)*256+c)*256+e) p):=mkN fun P h=>QN (dd hd rfl) ok hp l7 h
end
inductive Org where
 |net (x:fC)
 |rng (m:Addr) (w:Nat) (ver a b:Int)
noncomputable def Org.val:Org→V
 | .net x=>x.val
 | .rng m _ _ a b=>qq m a b
noncomputable def Org.ver:Org→Int
 | .net x=>x.ver
 | .rng _ _ v _ _=>v
noncomputable def Org.first:Org→Int
 | .net x=>x.v-x.v%2^(x.w-x.p)
 | .rng _ _ _ a _=>a
noncomputable def Org.last:Org→Int
 | .net x=>x.v-x.v%2^(x.w-x.p)+(2^(x.w-x.p)-1)
 | .rng _ _ _ _ b=>b
noncomputable def JV:Option Org→List V
 |some o=>[o.val]
 |none=>[]
noncomputable def ib(e:Ent Org):V:= .tup (.int e.ver:: .int e.last:: .int e.first::JV e.orig)
noncomputable def gg(o:Org):Ent Org:=⟨o.ver,o.first,o.last,some o⟩
noncomputable def mOf(k:Int):Addr:=if k=4 then m4 else m6
noncomputable def wOf(k:Int):Nat:=if k=4 then 32 else 128
inductive Org.Ok(S:Sta):Org→Prop
 |net {x:fC} (h:x.Ok S):Ok S (.net x)
 |rng {m:Addr} {w:Nat} {ver a b:Int} (M:aA S m w ver) (h1:bS w a) (h2:bS w b) (h:a≤b):Ok S (.rng m w ver a b)
structure ig(S:Sta)(e:Ent Org):Prop where
 mod:aA S (mOf e.ver) (wOf e.ver) e.ver
 lo:0≤e.first
 le:e.first≤e.last
 hi:e.last<2^wOf e.ver
 org:∀o,e.orig=some o→o.Ok S∧e=gg o
section
variable {S:Sta}
theorem aA.of(M:aA S m w ver):m=mOf ver∧w=wOf ver:=by
 rcases M.kind with ⟨rfl,rfl,rfl⟩|⟨rfl,rfl,rfl⟩<;>exact⟨rfl,rfl⟩
theorem ig.kind(h:ig S e):e.ver=4∨e.ver=6:=by
 rcases h.mod.kind with ⟨_,_,h⟩|⟨_,_,h⟩
 ·exact .inl h
 ·exact .inr h
theorem lM(h:o.Ok S):ig S (gg o):=by
 cases h with
 |net h=>
  rename_i x;haveI M:=(h).1;haveI ok:=(h).2;haveI e1:=(M.of).1;haveI e2:=(M.of).2;haveI hp:=aV (x.w-x.p);haveI ht:=yK (e:=x.v) (w:=x.w) (k:=x.w-x.p) ok.hi (nSl ..);haveI hn:=iz ok.lo (x.w-x.p);unfold fl at ht hn;refine⟨by show aA S (mOf x.ver) (wOf x.ver) x.ver;rw[←e1,←e2];exact M,hn,?_,?_,fun o e=>?_⟩
  ·show x.v-x.v%2^(x.w-x.p)≤x.v-x.v%2^(x.w-x.p)+(2^(x.w-x.p)-1);exact fi3 (Y0 (.s X0 X1) (.a (.s X0 X1) (.s X2 (.k 1)))) [Y1 (.k 0) X2] rfl hp
  ·show x.v-x.v%2^(x.w-x.p)+(2^(x.w-x.p)-1)<2^wOf x.ver;rw[←e2];exact fi4 (Y1 (.a (.s X0 X1) (.s X2 (.k 1))) X3) [Y0 (.a (.s X0 X1) X2) X3] rfl ht
  ·cases e;exact⟨.net ⟨M,ok⟩,rfl⟩
 |rng M h1 h2 h=>
  rename_i m w ver a b;haveI e1:=(M.of).1;haveI e2:=(M.of).2;refine⟨by show aA S (mOf ver) (wOf ver) ver;rw[←e1,←e2];exact M,h1.lo,h,by show b<2^wOf ver;rw[←e2];exact h2.hi,fun o e=>?_⟩;cases e;exact⟨.rng M h1 h2 h,rfl⟩
theorem DO:∀(r:List (Ent Org)) (cur:Ent Org) (done:List (Ent Org)),ig S cur→(∀e∈r,ig S e)→(∀e∈done,ig S e)→∀e∈mg cur r done,ig S e
 |[],cur,done,hc,_,hd,e,he=>by
  cases he with
  |head=>exact hc
  |tail _ he=>exact hd e he
 |p::r,cur,done,hc,hr,hd,e,he=>by
  rw[H3]at he;split at he
  ·refine DO r ⟨cur.ver,if cur.first<p.first then cur.first else p.first,cur.last,none⟩ done ⟨hc.mod,?_,?_,hc.hi,fun o e=>by cases e⟩ (fun z hz=>hr z (.tail _ hz)) hd e he
   ·have:=hc.lo;have:=(hr p (.head _)).lo;show(0:Int)≤(if cur.first<p.first then cur.first else p.first);split<;>lia
   ·have:=hc.le;show(if cur.first<p.first then cur.first else p.first)≤cur.last;split<;>lia
  ·exact DO r p (cur::done) (hr p (.head _)) (fun z hz=>hr z (.tail _ hz)) (fun z hz=>by
    cases hz with
    |head=>exact hc
    |tail _ hz=>exact hd z hz) e he
noncomputable def cut(e:Ent Org):List fC:=match e.orig with
 |some (.net x)=>[x]
 |some (.rng m w ver a b)=>(bB a b w).map fun y=>⟨m,w,ver,y.1,y.2⟩
 |none=>(bB e.first e.last (wOf e.ver)).map fun y=>⟨mOf e.ver,wOf e.ver,e.ver,y.1,y.2⟩
noncomputable def gB(k:Int)(x:Int×Int):List V:=jo k (wOf k) x
theorem Iy(h:ig S e):(cut e).map mJ=gB e.ver (e.first,e.last):=by
 haveI h2:=h.org;haveI hlo:=h.lo;haveI hle:=h.le;haveI hhi:=h.hi;obtain⟨ver,first,last,orig⟩:=e;unfold cut gB;dsimp only at h2 hlo hle hhi⊢;cases orig with
 |none=>dsimp only;rw[List.map_map];exact yU hlo hle hhi
 |some o=>
  haveI ho:=(h2 o rfl).1;haveI e:=(h2 o rfl).2;cases o with
  |net x=>
   cases ho with
   |net hx=>
    haveI M:=(hx).1;haveI ok:=(hx).2;haveI e2:=(M.of).2;have e1:=congrArg Ent.ver e;have e3:=congrArg Ent.first e
    have e4:=congrArg Ent.last e;dsimp only[gg,Org.ver,Org.first,Org.last]at e1 e3 e4;subst e1 e3 e4;have:=H8 ok;rw[←e2];exact this
  |rng m w v a b=>
   cases ho with
   |rng M h1 k2 h3=>
    haveI e2:=(M.of).2;haveI e1:=congrArg Ent.ver e;haveI e3:=congrArg Ent.first e
    haveI e4:=congrArg Ent.last e;dsimp only[gg,Org.ver,Org.first,Org.last]at e1 e3 e4;subst e1 e3 e4;dsimp only;rw[List.map_map,←e2];exact yU h1.lo h3 k2.hi
theorem rZ:∀(n:Nat) (lo:Int),0≤lo→∀y∈iK W high n lo,lo≤y.1∧y.1≤high∧y.2≤W
 |0,lo,_,y,h=>by
  have:iK W high 0 lo=[]:=rfl;rw[this]at h;cases h
 |n+1,lo,h0,y,h=>by
  by_cases q:lo≤high
  ·rw[jP q]at h;haveI hb:=nT h0 q;cases h with
   |head=>
    have:=Bm (n:=bsz lo high) (fi1 (Y1 (.k 0) X0) [Y0 (.k 1) X0] rfl hb.1);exact⟨Int.le_refl _,q,by dsimp only;exact fi2 (Y0 (.s (.i X0) X1) X0) [Y0 (.k 1) X1] rfl this⟩
   |tail _ h=>
    obtain⟨a,b,c⟩:=rZ n _ (fi2 (Y0 (.k 0) (.a X0 X1)) [Y0 (.k 0) X0,Y0 (.k 1) X1] rfl h0 hb.1) y h;exact⟨fi3 (Y0 X0 X1) [Y0 (.k 1) X2,Y0 (.a X0 X2) X1] rfl hb.1 a,b,c⟩
  ·rw[gE q]at h;cases h
theorem AU(h0:0≤a)(h1:a≤b)(h2:b<2^w):∀y∈bB a b w,cF w y.1 y.2:=fun y hy=>by
 haveI hm:(y.1,(y.2:Int))∈cx w a b:=by
  rw[←jS h0 h1 h2];exact List.mem_map.mpr ⟨y,hy,rfl⟩
 obtain⟨p,q,r⟩:=rZ _ _ h0 _ hm;dsimp only at p q r;exact⟨fi2 (Y0 (.k 0) X0) [Y0 (.k 0) X1,Y0 X1 X0] rfl h0 p,fi3 (Y1 X0 X1) [Y1 X2 X1,Y0 X0 X2] rfl h2 q,iOm (fi2 (Y0 X0 X1) [Y0 X0 X1] rfl r)⟩
theorem Bz(h:ig S e):bS (wOf e.ver) e.first∧bS (wOf e.ver) e.last:=
 ⟨⟨h.lo,by have:=h.le;have:=h.hi;lia⟩,⟨by have:=h.le;have:=h.lo;lia,h.hi⟩⟩
theorem mM(h0:0≤a)(h1:a≤b)(h2:b<2^w)(hw:w≤128):(bB a b w).length≤257:=by
 have:=ul h0 h2 hw;rw[←jS h0 h1 h2,lMa]at this;exact this
theorem vt(h:ig S e):(cut e).length≤257:=by
 haveI h2:=h.org;haveI hlo:=h.lo;haveI hle:=h.le;haveI hhi:=h.hi;haveI hw:=h.mod.le;obtain⟨ver,first,last,orig⟩:=e;unfold cut;dsimp only at h2 hlo hle hhi hw⊢;cases orig with
 |none=>dsimp only;rw[lMa];exact mM hlo hle hhi hw
 |some o=>
  obtain⟨ho,_⟩:=h2 o rfl;cases ho with
  |net=>exact blE rfl
  |rng M h1 k2 h3=>dsimp only;rw[lMa];exact mM h1.lo h3 k2.hi M.le
theorem QO(h:ig S e):∀x∈cut e,x.Ok S:=by
 haveI cidrs_ok:∀{m:Addr} {w:Nat} {ver a b:Int},aA S m w ver→0≤a→a≤b→b<2^w→∀x∈(bB a b w).map (fun y=>(⟨m,w,ver,y.1,y.2⟩:fC)),x.Ok S:=fun {m w ver a b} M h0 h1 h2 x hx=>by
  obtain⟨y,hy,rfl⟩:=lMm hx;exact⟨M,AU h0 h1 h2 y hy⟩
 haveI h2:=h.org;haveI hlo:=h.lo;haveI hle:=h.le;haveI hhi:=h.hi;haveI hM:=h.mod;obtain⟨ver,first,last,orig⟩:=e;unfold cut;dsimp only at h2 hlo hle hhi hM⊢;cases orig with
 |none=>exact cidrs_ok hM hlo hle hhi
 |some o=>
  haveI ho:=(h2 o rfl).1;cases ho with
  |net hx=>intro x h;rw[lMs h];exact hx
  |rng M h1 k2 h3=>exact cidrs_ok M h1.lo h3 k2.hi
end
theorem zj(f:α→β):∀{l l':List β},l.Perm l'→∀{os:List α},l'=os.map f→∃os':List α,l=os'.map f∧os'.Perm os:=by
 intro l l' h
 induction h with
 |nil=>intro os e;exact⟨[],rfl,by cases os with|nil=>exact .nil|cons _ _=>cases e⟩
 |cons x h ih=>
  intro os e;cases os with
  |nil=>cases e
  |cons o os=>
   simp only[List.map_cons,List.cons.injEq]at e;obtain⟨e1,e2⟩:=e;obtain⟨os',h1,h2⟩:=ih e2;exact⟨o::os',by rw[List.map_cons,←e1,←h1],.cons o h2⟩
 |swap x y r=>
  intro os e;cases os with
  |nil=>cases e
  |cons o os=>
   cases os with
   |nil=>cases e
   |cons o2 os=>
    simp only[List.map_cons,List.cons.injEq]at e;obtain⟨e1,e2,e3⟩:=e;exact⟨o2::o::os,by rw[List.map_cons,List.map_cons,←e1,←e2,←e3],.swap o o2 os⟩
 |trans h1 h2 ih1 ih2=>
  intro os e;obtain⟨os1,a,b⟩:=ih2 e;obtain⟨os2,c,d⟩:=ih1 a;exact⟨os2,c,d.trans b⟩
theorem nY:∀{l:List α},(∀x∈l,f x=g x)→l.flatMap f=l.flatMap g
 |[],_=>rfl
 |x::r,h=>by rw[List.flatMap_cons,List.flatMap_cons,h x (.head _),nY fun y hy=>h y (.tail _ hy)]
noncomputable def jU(o:Org):List Int:=[o.ver,o.last,o.first]
noncomputable def Iz(o:Org):V×List Int:=(ib (gg o),jU o)
noncomputable def gh(os:List Org):List (Ent Org):=match(os.map gg).reverse with
 |[]=>[]
 |c::r=>mg c r []
section
variable {S:Sta}
theorem IA(k:Int):wOf k≤128:=by unfold wOf;split<;>decide
theorem DP(h:x<2^wOf k):x<(B128:Int):=by
 have h1:(2:Int)^wOf k≤2^128:=qC (IA k);have h2:(2:Int)^128=(B128:Int):=by decide+kernel
 exact fi4 (Y1 X0 X1) [Y1 X0 X2,Y0 X2 X3,Y2 X3 X1] rfl h h1 h2
theorem LR(h:o.Ok S):In3 (jU o):=by
 have ho:=lM h;have h1:=ho.lo;have h2:=ho.le;have h3:=DP ho.hi;have h4:=ho.kind;dsimp only[gg]at h1 h2 h3 h4;refine⟨o.ver.toNat,o.last.toNat,o.first.toNat,?_,Int.ofNat_lt.mp (fi3 (Y1 X0 X1) [Y1 X2 X1,Y2 X0 X2] rfl h3 (tnn o.last (fi2 (Y0 (.k 0) X0) [Y0 (.k 0) X1,Y0 X1 X0] rfl h1 h2))),Int.ofNat_lt.mp (fi4 (Y1 X0 X1) [Y0 X2 X3,Y1 X3 X1,Y2 X0 X2] rfl h2 h3 (tnn o.first h1))⟩;unfold jU
 congr 1
 ·rcases h4 with h|h<;>rw[h]<;>rfl
 ·congr 1
  ·exact iAs ((iSt (o.last))) (fi2 (Y0 X0 X1) [Y2 X0 X1] rfl (tnn o.last (fi2 (Y0 (.k 0) X0) [Y0 (.k 0) X1,Y0 X1 X0] rfl h1 h2)))
  ·congr 1;exact iAs ((iSt (o.first))) (fi2 (Y0 X0 X1) [Y2 X0 X1] rfl (tnn o.first h1))
theorem LS(ha:a.Ok S)(hb:b.Ok S)(h:bT (jU a)≤bT (jU b)):a.ver<b.ver∨(a.ver=b.ver∧a.last≤b.last):=by
 have oa:=lM ha;have ob:=lM hb;have h1:=oa.lo;have h2:=oa.le;have h3:=DP oa.hi;have h4:=oa.kind;have k1:=ob.lo;have k2:=ob.le;have k3:=DP ob.hi;have k4:=ob.kind;dsimp only[gg]at h1 h2 h3 h4 k1 k2 k3 k4;have v1:0≤a.ver:=by lia
 have v2:0≤b.ver:=by lia
 clear h4 k4;unfold bT jU at h;dsimp only at h;have la:a.last.toNat<B128:=(Int.toNat_lt (Int.le_trans h1 h2)).mpr h3;have lb:b.last.toNat<B128:=(Int.toNat_lt (Int.le_trans k1 k2)).mpr k3;have fa:a.first.toNat<B128:=Nat.lt_of_le_of_lt (Int.toNat_le_toNat h2) la
 have fb:b.first.toNat<B128:=Nat.lt_of_le_of_lt (Int.toNat_le_toNat k2) lb
 have q:a.ver.toNat*B128+a.last.toNat≤b.ver.toNat*B128+b.last.toNat:=(lJ fa fb h).elim Nat.le_of_lt fun e=>Nat.le_of_eq e.1
 clear h fa fb h3 k3 oa ob ha hb;have fin:=lJ la lb q;clear q la lb;rcases fin with e|⟨e,e2⟩
 ·exact .inl (fi4 (Y1 X0 X1) [Y1 X2 X3,Y0 X0 X2,Y2 X3 X1] rfl (iOt e) (iSt a.ver) (tnn b.ver v2))
 ·exact .inr ⟨iAs (fi4 (Y0 X0 X1) [Y2 X2 X3,Y0 X0 X2,Y2 X3 X1] rfl (iOj e) (iSt a.ver) (tnn b.ver v2)) (fi4 (Y0 X0 X1) [Y2 X2 X3,Y0 X0 X2,Y2 X3 X1] rfl (iOj e.symm) (iSt b.ver) (tnn a.ver v1)),fi4 (Y0 X0 X1) [Y0 X2 X3,Y0 X0 X2,Y2 X3 X1] rfl (iOl e2) (iSt a.last) (tnn b.last (fi2 (Y0 (.k 0) X0) [Y0 (.k 0) X1,Y0 X1 X0] rfl k1 k2))⟩
theorem zk:∀(l:List (Ent Org)),(∀e∈l,e.first≤e.last)→l.Pairwise (fun b a=>a.ver<b.ver∨(a.ver=b.ver∧a.last≤b.last))→∀c r,l=c::r→sS c r
 |[],_,_,_,_,h=>by cases h
 |[x],hv,_,c,r,h=>by cases h;exact hv _ (.head _)
 |x::y::l,hv,hp,c,r,h=>by
  cases h;obtain⟨h1,h2⟩:=List.pairwise_cons.mp hp;exact⟨hv _ (.head _),h1 y (.head _),zk (y::l) (fun e he=>hv e (.tail _ he)) h2 y l rfl⟩
theorem pR {α:Type}{R R':α→α→Prop}{l:List α}(h:l.Pairwise R)(k:∀a∈l,∀b∈l,R a b→R' a b):l.Pairwise R':=by
 induction l with
 |nil=>exact .nil
 |cons x r ih=>
  obtain⟨h1,h2⟩:=List.pairwise_cons.mp h;exact List.pairwise_cons.mpr ⟨fun y hy=>k x (.head _) y (.tail _ hy) (h1 y hy),ih h2 fun a ha b hb=>k a (.tail _ ha) b (.tail _ hb)⟩
theorem nZ {os:List Org}(hok:∀o∈os,o.Ok S):∀e∈gh os,ig S e:=by
 unfold gh;have hall:∀e∈(os.map gg).reverse,ig S e:=fun e he=>by
  obtain⟨o,ho,rfl⟩:=lMm (List.mem_reverse.mp he);exact lM (hok o ho)
 cases hl:(os.map gg).reverse with
 |nil=>intro e he;cases he
 |cons c r=>
  rw[hl]at hall;exact DO r c [] (hall c (.head _)) (fun z hz=>hall z (.tail _ hz)) fun z hz=>by cases hz
theorem qK:∀(r:List (Ent α)) (cur:Ent α) (done:List (Ent α)),(mg cur r done).length≤r.length+1+done.length
 |[],cur,done=>by show(cur::done).length≤_;simp;exact fj1 (Y0 (.i X0) (.a (.k 1) X0)) [] rfl
 |p::r,cur,done=>by
  rw[H3];split
  ·have:=qK r ⟨cur.ver,if cur.first<p.first then cur.first else p.first,cur.last,none⟩ done;rw[lCo];exact fj3 (Y0 X0 (.a (.i (.a X1 (.k 1))) X2)) [Y0 X0 (.a (.i X1) X2)] rfl this
  ·have:=qK r p (cur::done);rw[lCo]at this⊢;exact fj3 (Y0 X0 (.a (.i (.a X1 (.k 1))) X2)) [Y0 X0 (.a (.i X1) (.i X2))] rfl this
theorem r9(os:List Org):(gh os).length≤os.length:=by
 unfold gh;cases hl:(os.map gg).reverse with
 |nil=>exact nZl _
 |cons c r=>
  have h:=qK r c [];have:=congrArg List.length hl;rw[List.length_reverse,lMa,lCo]at this;show(mg c r []).length≤_;simp only[List.length_nil]at h;exact fj3 (Y0 X0 X1) [Y0 X0 (.a (.i X2) (.k 0)),Y2 (.i X2) X1] rfl h this.symm
theorem AV {os:List Org}(hok:∀o∈os,o.Ok S)(hs:os.Pairwise fun a b=>bT (jU a)≤bT (jU b)){mine:Int→List (Int×Int)}{pszq:Int→List Int}
  (hu:∀k x,(∃o∈os,o.ver=k∧o.first≤x∧x≤o.last)↔InU x (mine k))(hp:∀k,(pszq k).Pairwise (·≤·))(hm:∀k x,x∈pszq k↔∃p∈mine k,x=p.1∨x=p.2+1)(hv:∀k,∀p∈mine k,p.1≤p.2):
  ((gh os).flatMap cut).map mJ=(aP (dI (mine 4)) (pszq 4) none).flatMap (gB 4)++(aP (dI (mine 6)) (pszq 6) none).flatMap (gB 6):=by
 have hmo:=nZ hok;have e1:((gh os).flatMap cut).map mJ=(gh os).flatMap fun e=>gB e.ver (e.first,e.last):=by
  rw[List.map_flatMap];exact nY fun e he=>Iy (hmo e he)
 rw[e1];have hin:∀(l:List (Ent Org)) (k x:Int),InU x (iv k l)↔∃e∈l,e.ver=k∧e.first≤x∧x≤e.last:=by
  intro l k x
  induction l with
  |nil=>exact⟨fun h=>(jB h).elim,fun⟨e,h,_⟩=>by cases h⟩
  |cons e r ih=>
   rw[eF]
   by_cases q:e.ver=k
   ·rw[if_pos q,bY,ih];constructor
    ·rintro(h|⟨z,hz,h⟩)
     ·exact⟨e,.head _,q,h⟩
     ·exact⟨z,.tail _ hz,h⟩
    ·rintro⟨z,hz,h⟩
     cases hz with
     |head=>exact .inl h.2
     |tail _ hz=>exact .inr ⟨z,hz,h⟩
   ·rw[if_neg q,ih];constructor
    ·rintro⟨z,hz,h⟩;exact⟨z,.tail _ hz,h⟩
    ·rintro⟨z,hz,h⟩
     cases hz with
     |head=>exact absurd h.1 q
     |tail _ hz=>exact⟨z,hz,h⟩
 unfold gh at hmo⊢;cases hl:(os.map gg).reverse with
 |nil=>
  have hos:os=[]:=by
   have:=congrArg List.length hl;rw[List.length_reverse,lMa]at this;exact List.length_eq_zero_iff.mp this
  subst hos;have em:∀k,mine k=[]:=fun k=>by
   cases hk:mine k with
   |nil=>rfl
   |cons p r=>
    have h1:=hv k p (by rw[hk];exact .head _);obtain⟨o,ho,_⟩:=(hu k p.1).mpr ⟨p,by rw[hk];exact .head _,Int.le_refl _,h1⟩;cases ho
  have ep:∀k,pszq k=[]:=fun k=>by
   cases hk:pszq k with
   |nil=>rfl
   |cons x r=>
    obtain⟨p,hp,_⟩:=(hm k x).mp (by rw[hk];exact .head _);rw[em k]at hp;cases hp
  rw[ep,ep];rfl
 |cons c r=>
  rw[hl]at hmo;refine H4 gB ?_ (fun e he=>(hmo e he).kind) (fun k x=>?_) hp hm hv
  ·refine zk _ (fun e he=>?_) ?_ c r hl
   ·obtain⟨o,ho,rfl⟩:=lMm (List.mem_reverse.mp he);exact(lM (hok o ho)).le
   ·rw[List.pairwise_reverse,List.pairwise_map];exact pR hs fun a ha b hb h=>LS (hok a ha) (hok b hb) h
  ·rw[←hl,hin,←hu];constructor
   ·rintro⟨e,he,h⟩
    obtain⟨o,ho,rfl⟩:=lMm (List.mem_reverse.mp he);exact⟨o,ho,h⟩
   ·rintro⟨o,ho,h⟩
    exact⟨gg o,List.mem_reverse.mpr (List.mem_map.mpr ⟨o,ho,rfl⟩),h⟩
end
section
variable {S:Sta} {d:Nat}
inductive ax where
 |addr (m:Addr) (w:Nat) (ver v:Int)
 |net (x:fC)
 |rng (m:Addr) (w:Nat) (ver a b:Int)
 |txt (a b c e:Int) (p:Nat)
noncomputable def ax.val:ax→V
 | .addr m _ _ v=>dj m v
 | .net x=>x.val
 | .rng m _ _ a b=>qq m a b
 | .txt a b c e p=> .str (hJ a b c e p)
noncomputable def ax.org:ax→Org
 | .addr m w ver v=> .net ⟨m,w,ver,v,w⟩
 | .net x=> .net x
 | .rng m w ver a b=> .rng m w ver a b
 | .txt a b c e p=> .net ⟨m4,32,4,((a*256+b)*256+c)*256+e,p⟩
inductive ax.Ok(S:Sta):ax→Prop
 |addr {m:Addr} {w:Nat} {ver v:Int} (M:aA S m w ver) (h:bS w v):Ok S (.addr m w ver v)
 |net {x:fC} (h:x.Ok S):Ok S (.net x)
 |rng {m:Addr} {w:Nat} {ver a b:Int} (M:aA S m w ver) (h1:bS w a) (h2:bS w b) (h:a≤b):Ok S (.rng m w ver a b)
 |txt {a b c e:Int} {p:Nat} (h:B4 a b c e) (hp:p≤32):Ok S (.txt a b c e p)
theorem ax.org_ok {t:ax}(h:t.Ok S):t.org.Ok S:=by
 cases h with
 |addr M h=>exact .net ⟨M,h.lo,h.hi,nRe _⟩
 |net h=>exact .net h
 |rng M h1 h2 h=>exact .rng M h1 h2 h
 |txt h hp=>exact .net ⟨pb,(vr h).1,(vr h).2,hp⟩
noncomputable def JW(t:ax):V:=ib (gg t.org)
theorem LU(t:ax):(JW t).nob=true:=by
 cases t<;>rfl
theorem AW(hI:ck σ.hp v cu fs)(hl:look fs "cidrs" =none)(h:P (.top (.ref jG)) [v] σ):iO S d c v "cidrs" P X σ:=xx hI (lZ _) (aS) (by kernel_rfl) hl h
theorem Gd(e:du σ.hp v=some (.type "list"))(h:P (.bool false) σ):aI S d c (.top (.builtin "isinstance")) [v,.tup [.top (.type "int"),.top (.ref aU)]] [] P X σ:=ql e rfl (by kernel_rfl) h
theorem LV:(A++x::R)[A.length]?=some x:=by rw[List.getElem?_append_right (nRe _)];simp
theorem IB:(A++x::y::R)[A.length+1]?=some y:=by rw[List.getElem?_append_right (Nat.le_succ _)];simp
theorem LW:(A++x::R).set A.length y=A++y::R:=by simp
theorem Ge:(A++x::y::R).eraseIdx (A.length+1)=A++x::R:=by rw[List.eraseIdx_append_of_length_le (Nat.le_succ _)];simp
noncomputable def MSt(goal L:List (Ent Org))(i:Int):Prop:=(L=[]∧i= -1∧goal=[])∨∃A cur done,L=A++cur::done∧i=(A.length:Int)∧mg cur A.reverse done=goal
theorem MSt.step(h:MSt goal L i)(hi:0<i):∃A q cur done,L=A++q::cur::done∧i=(A.length:Int)+1∧mg cur (q::A.reverse) done=goal:=by
 rcases h with ⟨_,h,_⟩|⟨A,cur,done,rfl,rfl,h⟩
 ·lia
 ·cases hA:A.reverse with
  |nil=>
   have:=congrArg List.length hA;rw[List.length_reverse]at this;simp at this;subst this;simp at hi
  |cons q r=>
   haveI e:A=r.reverse++[q]:=by rw[←List.reverse_reverse A,hA];simp
   subst e;rw[hA]at h;exact⟨r.reverse,q,cur,done,by simp,by simp,by rw[List.reverse_reverse];exact h⟩
theorem MSt.stop(h:MSt goal L i)(hi:¬0<i):L=goal:=by
 rcases h with ⟨rfl,_,rfl⟩|⟨A,cur,done,rfl,rfl,h⟩
 ·rfl
 ·have:A=[]:=by cases A with|nil=>rfl|cons _ _=>(simp at hi;done)
  subst this;exact h
theorem MSt.start(os:List Org):MSt (gh os) (os.map gg) ((os.length:Int)-1):=by
 unfold gh;cases hl:(os.map gg).reverse with
 |nil=>
  have:=congrArg List.length hl;rw[List.length_reverse,lMa]at this;haveI h0:os=[]:=List.length_eq_zero_iff.mp this;subst h0;exact .inl ⟨rfl,rfl,rfl⟩
 |cons c r=>
  haveI e:os.map gg=r.reverse++[c]:=by rw[←List.reverse_reverse (os.map gg),hl];simp
  haveI h2:=congrArg List.length e;simp at h2;exact .inr ⟨r.reverse,c,[],e,by first|(simp;done)|(simp;exact iAs (fi2 (Y0 (.s X0 (.k 1)) X1) [Y2 X0 (.i X1)] rfl (iOj h2)) (fi2 (Y0 X0 (.s X1 (.k 1))) [Y2 (.i X0) X1] rfl (iOj h2.symm))),by rw[List.reverse_reverse]⟩
theorem vu {α β:Type}{f:α→List β}{n:Nat}:∀{l:List α},(∀x∈l,(f x).length≤n)→(l.flatMap f).length≤n*l.length
 |[],_=>nZl _
 |x::r,h=>by
  rw[List.flatMap_cons,lAp,lCo,Nat.mul_succ];haveI h1:=h x (.head _);haveI h2:=vu (l:=r) fun y hy=>h y (.tail _ hy)
  exact fj4 (Y0 (.a X0 X1) (.a X2 X3)) [Y0 X0 X3,Y0 X1 X2] rfl h1 h2
theorem qL:(l++[x]).flatMap f=l.flatMap f++f x:=by simp
theorem zl:(bI m l).length=l.length:=by unfold bI;rw[lMa]
theorem zm:bI m l=(l.map fun y=>(⟨m,w,ver,y.1,y.2⟩:fC)).map fC.val:=by unfold bI;rw[List.map_map];rfl
theorem n7(h:k=A.length+1):((A++x::y::R).map ib)[k]?=some (ib y):=by subst h;rw[List.getElem?_map,IB];rfl
theorem vv(h:k=A.length):((A++x::y::R).map ib)[k]?=some (ib x):=by subst h;rw[List.getElem?_map,LV];rfl
theorem LX:((A++x::R).map ib).set A.length (.tup [.int v,.int l,.int f])=(A++⟨v,f,l,none⟩::R).map ib:=by
 rw[lMp,List.map_cons,lMp,List.map_cons];have:A.length=(A.map ib).length:=(lMa ..).symm;rw[this,LW];rfl
theorem Gf:((A++x::y::R).map ib).eraseIdx (A.length+1)=(A++x::R).map ib:=by
 rw[lMp,List.map_cons,List.map_cons,lMp,List.map_cons];have:A.length=(A.map ib).length:=(lMa ..).symm;rw[this,Ge]
theorem QP(h:mg cur (q::r) done=goal)(e1:cur.ver=q.ver)(e2:cur.first-1≤q.last):mg ⟨cur.ver,if cur.first<q.first then cur.first else q.first,cur.last,none⟩ r done=goal:=by
 rw[←h];exact(if_pos (⟨e1,e2⟩:cur.ver=q.ver∧cur.first-1≤q.last)).symm
theorem JX(h:mg cur (q::r) done=goal)(e:¬(cur.ver=q.ver∧cur.first-1≤q.last)):mg q r (cur::done)=goal:=by
 rw[←h];exact(if_neg e).symm
theorem jD(e:Ent Org):(.int e.ver:: .int e.last:: .int e.first::JV e.orig:List V).length≤100000:=by
 cases e.orig<;>exact blE rfl
inductive MI1(b0 b2:ai)(ts:List ax):List ax→St→Prop
 |mk {rest:List ax} (done:List ax) (o1 o2:Option V) (eD:done++rest=ts):MI1 b0 b2 ts rest ⟨[some (.obj 1),some (.obj 3),o1,o2,none,none,none,none,none,none,none,none,none,none,none,none,none,none,none,none],[b0,.list (ts.map ax.val),b2,.list (done.map JW)]⟩
inductive MI2(b0 b2:ai)(ts:List ax)(os:List Org)(o1 o2:Option V):Nat→St→Prop
 |mk {n:Nat} (L:List (Ent Org)) (i:Int) (hn:n=i.toNat) (hM:MSt (gh os) L i) (hL:L.length≤ts.length):MI2 b0 b2 ts os o1 o2 n ⟨[some (.obj 1),some (.obj 3),o1,o2,some (.int i),none,none,none,none,none,none,none,none,none,none,none,none,none,none,none],[b0,.list (ts.map ax.val),b2,.list (L.map ib)]⟩
theorem MI2.at {b0 b2:ai}{ts:List ax}{os:List Org}{o1 o2:Option V}{n:Nat}{σ σ':St}(h:MI2 b0 b2 ts os o1 o2 n σ)(e:σ'=σ):MI2 b0 b2 ts os o1 o2 n σ':=e▸h
inductive MI3(b0 b2:ai)(ts:List ax)(os:List Org)(o1 o2:Option V)(i:Int):List (Ent Org)→St→Prop
 |mk {rest:List (Ent Org)} (done:List (Ent Org)) (q1 q2 q3 q4 q5:Option V) (eD:done++rest=gh os):MI3 b0 b2 ts os o1 o2 i rest ⟨[some (.obj 1),some (.obj 3),o1,o2,some (.int i),some (.obj 4),q1,q2,q3,q4,q5,none,none,none,none,none,none,none,none,none],[b0,.list (ts.map ax.val),b2,.list ((gh os).map ib),.list ((done.flatMap cut).map fC.val)]⟩
theorem IC {b0 b2:ai}{ts:List ax}{P:PX}(hd:d<780)(hok:∀t∈ts,t.Ok S)(hz:ts.length≤20)(h:∀os:List Org,os.Perm (ts.map ax.org)→(os.Pairwise fun a b=>bT (jU a)≤bT (jU b))→P (.obj 4) [b0,.list (ts.map ax.val),b2,.list ((gh os).map ib),.list (((gh os).flatMap cut).map fC.val)]):WFn S d (.ref rh) [.obj 1] [] P no [b0,.list (ts.map ax.val),b2]:=by
 refine HH Dn ?_ (dd0 hd rfl);refine s_i (uK (fF gX rfl (bh (ju rfl (kb ?_)))));refine so (by rfl) ?_;refine uK (al (aQ c0 ao (aa gX rfl (bc (gK AJ jK (au iS cI (Gd rfl ?_)))))));refine aK (so (by rfl) (tC (aC (by rfl) ?_)));refine k8 (gu (fB ?_));refine lV (.cons (.cons (.cons .nil))) ?_;refine ag aO .z1 (ay (tG (aa gX rfl ?_)));refine⟨_,.inl ⟨1,rfl,rfl⟩,?_⟩;refine qn (g:=ax.val) (xs:=ts) (MI1 b0 b2 ts) (fun t rest σ hi=>?_) (fun σ hi=>?_) (.mk [] none none rfl)
 ·cases hi with
  |mk done o1 o2 eD=>
   have ht:t.Ok S:=hok t (eD▸List.mem_append_right done (.head rest));haveI hdl:done.length≤ts.length:=by rw[←eD];simp
   refine a_n e5 .z2 ?_;cases ht with
   |addr Mx hx=>
    rename_i m w ver v;have okA:cF _ _ _:=⟨hx.lo,hx.hi,nRe _⟩;refine s_i (al (aQ c0 ao (aa e5 rfl (bc (au dK aD (au ez iq (HU rfl ?_)))))));refine aK (aC (by rfl) ?_);refine s_a (bH dK aD (aa e5 rfl ?_));refine bL (vb Mx (dd hd rfl)) ?_ dw;refine ag ba .z3 (ae (s_e (cy aO rfl (bo rfl (bc (av ba rfl ?_))))));refine bx (.inr rfl) (PFn.ga (bO Mx (dd (k:=2) hd rfl) okA) ?_);refine av ba rfl ?_;refine dm (.inr rfl) (PFn.ga (dH Mx (dd (k:=2) hd rfl) okA) ?_);refine av ba rfl ?_;refine bA (.inr rfl) (PFn.ga (bX Mx (dd (k:=2) hd rfl) okA) ?_);refine aa ba rfl ?_;refine bw rfl (wZ (x:=ax.addr m w ver v) rfl) (by rw[lMa];exact fj2 (Y0 X0 (.k 100000)) [Y0 X1 (.k 20),Y0 X0 X1] rfl hz hdl) ?_;refine ae ?_;exact⟨.inl ⟨1,rfl,rfl⟩,.mk (done++[ax.addr m w ver v]) _ _ (by rw[←eD];simp)⟩
   |net hx=>
    rename_i x;haveI Mx:=(hx).1;haveI hx:=(hx).2;refine s_i (al (aQ c0 ao (aa e5 rfl (bc (au dK aD (au ez iq (K8 rfl ?_)))))));refine aK (dt (by rfl) ?_);refine s_a (aa e5 rfl (ag ba .z3 (ae (s_e (cy aO rfl (bo rfl (bc ?_)))))));refine av ba rfl ?_;refine bx (.inr rfl) (PFn.ga (bO Mx (dd (k:=2) hd rfl) hx) ?_);refine av ba rfl ?_;refine dm (.inr rfl) (PFn.ga (dH Mx (dd (k:=2) hd rfl) hx) ?_);refine av ba rfl ?_;refine bA (.inr rfl) (PFn.ga (bX Mx (dd (k:=2) hd rfl) hx) ?_);refine aa ba rfl ?_;refine bw rfl (wZ (x:=ax.net x) rfl) (by rw[lMa];exact fj2 (Y0 X0 (.k 100000)) [Y0 X1 (.k 20),Y0 X0 X1] rfl hz hdl) ?_;refine ae ?_;exact⟨.inl ⟨1,rfl,rfl⟩,.mk (done++[ax.net x]) _ _ (by rw[←eD];simp)⟩
   |rng Mx h1 h2 h3=>
    rename_i m w ver a b;refine s_i (al (aQ c0 ao (aa e5 rfl (bc (au dK aD (au ez iq (K9 rfl ?_)))))));refine aK (dt (by rfl) ?_);refine s_a (aa e5 rfl (ag ba .z3 (ae (s_e (cy aO rfl (bo rfl (bc ?_)))))));refine av ba rfl ?_;refine uY (.inr rfl) (PFn.ga (wE Mx (dd (k:=2) hd rfl) h1) ?_);refine av ba rfl ?_;refine zM (.inr rfl) (PFn.ga (Dv Mx (dd (k:=2) hd rfl) h1) ?_);refine av ba rfl ?_;refine yb (.inr rfl) (PFn.ga (AN Mx (dd (k:=2) hd rfl) h1) ?_);refine aa ba rfl ?_;refine bw rfl (wZ (x:=ax.rng m w ver a b) rfl) (by rw[lMa];exact fj2 (Y0 X0 (.k 100000)) [Y0 X1 (.k 20),Y0 X0 X1] rfl hz hdl) ?_;refine ae ?_;exact⟨.inl ⟨1,rfl,rfl⟩,.mk (done++[ax.rng m w ver a b]) _ _ (by rw[←eD];simp)⟩
   |txt hx hp=>
    rename_i a b c e p;have Mx:=pb (S:=S);haveI hv4:=vr hx;have okT:cF 32 (((_*256+_)*256+_)*256+_) _:=⟨hv4.1,hv4.2,hp⟩;refine s_i (al (aQ c0 ao (aa e5 rfl (bc (au dK aD (au ez iq (La rfl ?_)))))));refine aK (aC (by rfl) ?_);refine s_a (bH dK aD (aa e5 rfl ?_));refine bL (LQ (dd hd rfl) hx ⟨iNn _,fi1 (Y0 X0 (.k 32)) [Y0 X0 (.k 32)] rfl (iOl hp)⟩) ?_ dw;refine ag ba .z3 (ae (s_e (cy aO rfl (bo rfl (bc (av ba rfl ?_))))));refine bx (.inr rfl) (PFn.ga (bO Mx (dd (k:=2) hd rfl) okT) ?_);refine av ba rfl ?_;refine dm (.inr rfl) (PFn.ga (dH Mx (dd (k:=2) hd rfl) okT) ?_);refine av ba rfl ?_;refine bA (.inr rfl) (PFn.ga (bX Mx (dd (k:=2) hd rfl) okT) ?_);refine aa ba rfl ?_;refine bw rfl (wZ (x:=ax.txt a b c e p) rfl) (by rw[lMa];exact fj2 (Y0 X0 (.k 100000)) [Y0 X1 (.k 20),Y0 X0 X1] rfl hz hdl) ?_;refine ae ?_;exact⟨.inl ⟨1,rfl,rfl⟩,.mk (done++[ax.txt a b c e p]) _ _ (by rw[←eD];simp)⟩
 ·cases hi with
  |mk done o1 o2 eD=>
   rw[List.append_nil]at eD;replace eD:=eD.symm;subst eD;refine ae (s_e ?_);refine FV (n:="one") (.head _) rfl (by kernel_rfl) (by intro _;rfl) (by intro _;rfl) (by kernel_rfl) JT QH (by intro _ _ _ _;kernel_rfl) (co) (dd hd rfl) rfl (by intro _;rfl) rfl rfl rfl (aa aO rfl ?_);refine⟨3,ts.map fun t=>Iz t.org,rfl,by rw[List.map_map];rfl,lP (fun v hv=>by obtain⟨q,hq,rfl⟩:=lMm hv;obtain⟨t,_,rfl⟩:=lMm hq;exact LU t),by rw[lMa];exact fj1 (Y1 X0 (.k 64)) [Y0 X0 (.k 20)] rfl hz,fun q hq=>by obtain⟨t,ht,rfl⟩:=lMm hq;exact LR (ax.org_ok (hok t ht)),fun q hq a1 a2=>?_,fun td hp hs=>?_⟩
   ·
    obtain⟨t,ht,rfl⟩:=lMm hq;refine⟨[some (ib (gg t.org))],.cons (l:=[none]) (.nil (by kernel_rfl)) (ac.of (i:=0) (k:= .local) (l:=CJ)) .zero,?_⟩;refine bc (d0 (ac.of (i:=0) (k:= .local) (l:=CJ)) rfl (af (eX (by decide) rfl (blE rfl) (d0 (ac.of (i:=0) (k:= .local) (l:=CJ)) rfl (af (eX (by decide) rfl (blE rfl) (d0 (ac.of (i:=0) (k:= .local) (l:=CJ)) rfl ?_)))))));refine af (eX (by decide) rfl (blE rfl) ?_);exact⟨rfl,rfl⟩
   ·
    obtain⟨os,etd,hpo⟩:=zj Iz hp (os:=ts.map ax.org) (by rw[List.map_map];rfl);subst etd;haveI hs:os.Pairwise fun a b=>bT (jU a)≤bT (jU b):=(List.pairwise_map (f:=Iz) (R:=fun a b:V×List Int=>bT a.2≤bT b.2)).mp hs
    haveI hoo:∀o∈os,o.Ok S:=fun o ho=>by obtain⟨t,ht,rfl⟩:=lMm (hpo.mem_iff.mp ho);exact ax.org_ok (hok t ht)
    haveI hol:os.length=ts.length:=by rw[hpo.length_eq,lMa]
    refine pszq (ws:=os.map fun o=>ib (gg o)) (by rw[List.map_map];rfl) ?_;refine s_a (am (aQ kt ir (aa aO rfl ?_)));refine wU (.inl ⟨3,rfl,rfl⟩) (by rw[lMa];exact fj2 (Y0 X0 (.k 100000)) [Y0 X1 (.k 20),Y2 X0 X1] rfl hz hol) ?_;refine af (bu (ag bZ .z4 (ay ?_)));refine nv (MI2 b0 b2 ts os o1 o2) ((os.length:Int)-1).toNat (MI2.at (MI2.mk (os.map gg) ((os.length:Int)-1) rfl (MSt.start os) (by rw[lMa];exact fj2 (Y0 X0 X1) [Y2 X0 X1] rfl hol)) ?_) ?_
    ·rw[List.map_map,lMa];rfl
    rintro _ _ ⟨L,i,rfl,hM,hL⟩
    refine dR bZ rfl (lS (kb ?_));refine PC (fun h1=>?_) (fun h1=>?_)
    ·
     have hi:0<i:=by simpa using h1
     obtain⟨A,q,cur,done,rfl,rfl,hm⟩:=hM.step hi;haveI hlen:(A++q::cur::done).length=A.length+2+done.length:=by simp;exact nAs (fj2 (Y0 (.a X0 (.i (.a X1 (.k 1)))) (.a (.a X0 (.k 2)) X1)) [] rfl) (fj2 (Y0 (.a (.a X0 (.k 2)) X1) (.a X0 (.i (.a X1 (.k 1))))) [] rfl)
     refine s_i (bK (bz (ie (d0 aO rfl (aa bZ rfl ?_)))));refine dD (.inl ⟨3,rfl,rfl⟩) (iLl (by assumption)) (n7 (by lia)) (by rw[lMa];exact fj2 (Y0 X0 (.k 100000)) [Y0 X1 (.k 20),Y0 X0 X1] rfl hz hL) ?_;refine af (eX (by decide) rfl (jD _) ?_);refine ie (d0 aO rfl (eg bZ rfl (bu ?_)));refine dD (.inl ⟨3,rfl,rfl⟩) (fi1 (Y0 (.k 0) (.s (.i X0) (.k 1))) [Y1 (.k 0) (.i X0)] rfl (dtr h1)) (vv (by lia)) (by rw[lMa];exact fj2 (Y0 X0 (.k 100000)) [Y0 X1 (.k 20),Y0 X0 X1] rfl hz hL) ?_;refine af (eX (by decide) rfl (jD _) ?_);refine el (kb ?_);refine lu (fun h2=>?_) (fun h2=>?_)
     ·
      have e1:cur.ver=q.ver:=by simpa using h2
      refine bK (bz (am (ie (d0 aO rfl (aa bZ rfl ?_)))));refine dD (.inl ⟨3,rfl,rfl⟩) (iLl (by assumption)) (n7 (by lia)) (by rw[lMa];exact fj2 (Y0 X0 (.k 100000)) [Y0 X1 (.k 20),Y0 X0 X1] rfl hz hL) ?_;refine af (eX (by decide) rfl (jD _) ?_);refine af (bu (ie (d0 aO rfl (eg bZ rfl (bu ?_)))));refine dD (.inl ⟨3,rfl,rfl⟩) (fi1 (Y0 (.k 0) (.s (.i X0) (.k 1))) [Y1 (.k 0) (.i X0)] rfl (dtr h1)) (vv (by lia)) (by rw[lMa];exact fj2 (Y0 X0 (.k 100000)) [Y0 X1 (.k 20),Y0 X0 X1] rfl hz hL) ?_;refine af (eX (by decide) rfl (jD _) ?_);refine hY (kb ?_);refine lu (fun h3=>?_) (fun h3=>?_)
      ·
       have e2:cur.first-1≤q.last:=by simpa using h3
       refine nw (dt (by rfl) ?_);refine ay (E1 (bc (ie (d0 aO rfl (aa bZ rfl ?_)))));refine dD (.inl ⟨3,rfl,rfl⟩) (iLl (by assumption)) (n7 (by lia)) (by rw[lMa];exact fj2 (Y0 X0 (.k 100000)) [Y0 X1 (.k 20),Y0 X0 X1] rfl hz hL) ?_;refine af (eX (by decide) rfl (jD _) ?_);refine ie (d0 aO rfl (aa bZ rfl ?_));refine dD (.inl ⟨3,rfl,rfl⟩) (iLl (by assumption)) (n7 (by lia)) (by rw[lMa];exact fj2 (Y0 X0 (.k 100000)) [Y0 X1 (.k 20),Y0 X0 X1] rfl hz hL) ?_;refine af (eX (by decide) rfl (jD _) ?_);refine aQ AK ye (ie (d0 aO rfl (eg bZ rfl (bu ?_))));refine dD (.inl ⟨3,rfl,rfl⟩) (fi1 (Y0 (.k 0) (.s (.i X0) (.k 1))) [Y1 (.k 0) (.i X0)] rfl (dtr h1)) (vv (by lia)) (by rw[lMa];exact fj2 (Y0 X0 (.k 100000)) [Y0 X1 (.k 20),Y0 X0 X1] rfl hz hL) ?_;refine af (eX (by decide) rfl (jD _) ?_);refine ie (d0 aO rfl (aa bZ rfl ?_));refine dD (.inl ⟨3,rfl,rfl⟩) (iLl (by assumption)) (n7 (by lia)) (by rw[lMa];exact fj2 (Y0 X0 (.k 100000)) [Y0 X1 (.k 20),Y0 X0 X1] rfl hz hL) ?_;refine af (eX (by decide) rfl (jD _) ?_);refine Ck (aa aO rfl (eg bZ rfl (bu ?_)));refine⟨3,A.length,_,rfl,congrArg V.int (iAs (fi1 (Y0 (.s (.i X0) (.k 1)) X0) [] rfl) (fi1 (Y0 X0 (.s (.i X0) (.k 1))) [] rfl)),rfl,by simp,by rw[lMa];exact fj2 (Y0 X0 (.k 100000)) [Y0 X1 (.k 20),Y0 X0 X1] rfl hz hL,pszq LX ?_⟩;refine ay (E3 (aa aO rfl (aa bZ rfl ?_)));refine⟨3,A.length+1,_,rfl,congrArg V.int (iAs (fi1 (Y0 (.i X0) (.i X0)) [] rfl) (fi1 (Y0 (.i X0) (.i X0)) [] rfl)),rfl,by simp,by rw[lMa,lAp,lCo,lCo];exact fj4 (Y0 (.a X0 (.i (.a X1 (.k 1)))) (.k 100000)) [Y0 X2 (.k 20),Y0 X3 X2,Y2 (.a (.a X0 (.k 2)) X1) X3] rfl hz hL hlen.symm,pszq Gf ?_⟩;refine ae (ay (iE bZ rfl (af (tB (ag bZ .z4 (ae ?_))))));exact⟨A.length,Int.ofNat_lt.mp (fi2 (Y1 X0 X1) [Y0 (.i X0) X1] rfl (iSt (↑A.length+1))),.mk (A++⟨cur.ver,if cur.first<q.first then cur.first else q.first,cur.last,none⟩::done) ((A.length:Int)+1-1) (by lia) (.inr ⟨A,_,done,rfl,iAs (fi1 (Y0 (.s (.i X0) (.k 1)) X0) [] rfl) (fi1 (Y0 X0 (.s (.i X0) (.k 1))) [] rfl),QP hm e1 e2⟩) (by rw[lAp,lCo];exact fj4 (Y0 (.a X0 (.i X1)) X2) [Y0 X3 X2,Y2 (.a (.a X0 (.k 2)) X1) X3] rfl hL hlen.symm)⟩
      ·
       haveI e2:¬cur.first-1≤q.last:=by simpa using h3
       refine aC (by rfl) ?_;refine ae (ay (iE bZ rfl (af (tB (ag bZ .z4 (ae ?_))))));exact⟨A.length,Int.ofNat_lt.mp (fi2 (Y1 X0 X1) [Y0 (.i X0) X1] rfl (iSt (↑A.length+1))),.mk (A++q::cur::done) ((A.length:Int)+1-1) (by lia) (.inr ⟨A,q,cur::done,rfl,iAs (fi1 (Y0 (.s (.i X0) (.k 1)) X0) [] rfl) (fi1 (Y0 X0 (.s (.i X0) (.k 1))) [] rfl),JX hm fun z=>e2 z.2⟩) (by assumption)⟩
     ·
      have e1:¬cur.ver=q.ver:=by simpa using h2
      refine aC (by rfl) ?_;refine ae (ay (iE bZ rfl (af (tB (ag bZ .z4 (ae ?_))))));exact⟨A.length,Int.ofNat_lt.mp (fi2 (Y1 X0 X1) [Y0 (.i X0) X1] rfl (iSt (↑A.length+1))),.mk (A++q::cur::done) ((A.length:Int)+1-1) (by lia) (.inr ⟨A,q,cur::done,rfl,iAs (fi1 (Y0 (.s (.i X0) (.k 1)) X0) [] rfl) (fi1 (Y0 X0 (.s (.i X0) (.k 1))) [] rfl),JX hm fun z=>e1 z.1⟩) (by assumption)⟩
    ·
     have hi:¬0<i:=by simpa using h1
     have hL2:=hM.stop hi;subst hL2;refine k8 (gu (fB ?_));refine lV (.cons (.cons (.cons (.cons .nil)))) ?_;refine ag gy .z5 (ay (tG (aa aO rfl ?_)));refine⟨_,.inl ⟨3,rfl,rfl⟩,?_⟩;refine qn (g:=ib) (xs:=gh os) (MI3 b0 b2 ts os o1 o2 i) (fun e rest σ hi=>?_) (fun σ hi=>?_) (.mk [] none none none none none rfl)
     ·cases hi with
      |mk done q1 q2 q3 q4 q5 eD=>
       have he:ig S e:=nZ hoo e (eD▸List.mem_append_right done (.head rest));have hdl:(done.flatMap cut).length≤257*done.length:=vu fun z hz=>vt (nZ hoo z (eD▸List.mem_append_left _ hz))
       have hd2:done.length≤ts.length:=by have h1:=r9 os;rw[←eD,lAp,hol]at h1;exact fj3 (Y0 X0 X1) [Y0 (.a X0 X2) X1] rfl h1
       have hcl:=vt he;refine a_n bD .z6 ?_;obtain⟨ver,first,last,orig⟩:=e;cases orig with
       |some o=>
        haveI ho:=(he.org o rfl).1;haveI eo:=(he.org o rfl).2;cases ho with
        |net hx=>
         rename_i x;refine s_i (bz (aQ kt ir (aa bD rfl ?_)));refine qk (blE rfl) ?_;refine af (el (kb ?_));refine dt (by rfl) ?_;refine s_a (d0 bD rfl (af ?_));refine eX (by decide) rfl (blE rfl) ?_;refine ag ed .z7 (s_i (al (aQ c0 ao (aa ed rfl (au ez iq (u9 rfl ?_))))));refine aK (aC (by rfl) ?_);refine s_e (cy gy rfl (bo rfl (aa ed rfl ?_)));refine bw rfl (show _=((done++[(⟨ver,first,last,some (.net x)⟩:Ent Org)]).flatMap cut).map fC.val by rw[qL,lMp];rfl) (by rw[lMa];exact fj3 (Y0 X0 (.k 100000)) [(257,0,X1,.k 20),Y0 X0 (.m 257 X2),(257,0,X2,X1)] rfl hz hdl hd2) ?_;refine ae (ae (ae ?_));exact⟨.inl ⟨3,rfl,rfl⟩,.mk (done++[⟨ver,first,last,some (.net x)⟩]) _ _ _ _ _ (by rw[←eD];simp)⟩
        |rng Mx h1 h2 h3=>
         rename_i m w v2 a b;refine s_i (bz (aQ kt ir (aa bD rfl ?_)));refine qk (blE rfl) ?_;refine af (el (kb ?_));refine dt (by rfl) ?_;refine s_a (d0 bD rfl (af ?_));refine eX (by decide) rfl (blE rfl) ?_;refine ag ed .z7 (s_i (al (aQ c0 ao (aa ed rfl (au ez iq (va rfl ?_))))));refine aK (dt (by rfl) ?_);refine s_e (cy gy rfl (xK rfl (cy ed rfl (AW (.inr rfl) rfl ?_))));refine bL (AO Mx (dd hd rfl) h1 h2 h3) ?_ AF;refine xC rfl (.inr rfl) (by rw[lMa,zl];haveI h9:(bB _ _ _).length≤257:=mM h1.lo h3 h2.hi Mx.le;exact fj4 (Y0 (.a X0 X1) (.k 100000)) [(257,0,X2,.k 20),Y0 X0 (.m 257 X3),(257,0,X3,X2),Y0 X1 (.k 257)] rfl hz hdl hd2 h9) ?_;refine pszq (ws:=((done++[(⟨ver,first,last,some (.rng m w v2 a b)⟩:Ent Org)]).flatMap cut).map fC.val) (by rw[qL,lMp,zm];rfl) ?_;refine ae (ae (ae ?_));exact⟨.inl ⟨3,rfl,rfl⟩,.mk (done++[⟨ver,first,last,some (.rng m w v2 a b)⟩]) _ _ _ _ _ (by rw[←eD];simp)⟩
       |none=>
        haveI ok1:=(Bz he).1;haveI ok2:=(Bz he).2;have Mx:=he.mod;have hle:=he.le;dsimp only at ok1 ok2 Mx hle;refine s_i (bz (aQ kt ir (aa bD rfl ?_)));refine qk (blE rfl) ?_;refine af (el (kb ?_));refine aC (by rfl) ?_;refine s_a (d0 bD rfl (af ?_));refine eX (by decide) rfl (blE rfl) ?_;refine ag jM .z8 (s_a (bH iS cI (d0 bD rfl (af ?_))));refine eX (by decide) rfl (blE rfl) (aa jM rfl ?_);refine bL (Bj Mx (dd hd rfl) ok1) ?_ jx;refine ag jX .z9 (s_a (bH iS cI (d0 bD rfl (af ?_))));refine eX (by decide) rfl (blE rfl) (aa jM rfl ?_);refine bL (Bj Mx (dd hd rfl) ok2) ?_ jx;refine ag kJ .z10 (s_e (cy gy rfl (xK rfl (bH l8 kE (aa jX rfl (aa kJ rfl ?_))))));refine bL (yM Mx (dd hd rfl) ok1 ok2 hle) ?_ yD;refine xC rfl (.inr rfl) (by rw[lMa,zl];haveI h9:(bB first last (wOf ver)).length≤257:=mM ok1.lo hle ok2.hi (IA ver);dsimp only;exact fj4 (Y0 (.a X0 X1) (.k 100000)) [(257,0,X2,.k 20),Y0 X0 (.m 257 X3),(257,0,X3,X2),Y0 X1 (.k 257)] rfl hz hdl hd2 h9) ?_;refine pszq (ws:=((done++[(⟨ver,first,last,none⟩:Ent Org)]).flatMap cut).map fC.val) (by rw[qL,lMp,zm];rfl) ?_;refine ae (ae ?_);exact⟨.inl ⟨3,rfl,rfl⟩,.mk (done++[⟨ver,first,last,none⟩]) _ _ _ _ _ (by rw[←eD];simp)⟩
     ·cases hi with
      |mk done q1 q2 q3 q4 q5 eD=>
       rw[List.append_nil]at eD;subst eD;refine je (aa gy rfl ?_);exact h os hpo hs
end
theorem DQ(vs:List α)(a m:Nat):(List.range m).filterMap (fun i=>vs[a+i]?)=(vs.drop a).take m:=by
 induction m generalizing a with
 |zero=>simp
 |succ m ih=>
  rw[List.range_succ_eq_map,List.filterMap_cons,List.filterMap_map];have e:(fun i=>vs[a+i]?)∘Nat.succ=fun i=>vs[(a+1)+i]?:=by
   funext i;simp only[Function.comp];congr 1;exact nAs (fj2 (Y0 (.a X0 (.i X1)) (.a (.i X0) X1)) [] rfl) (fj2 (Y0 (.a (.i X0) X1) (.a X0 (.i X1))) [] rfl)
  rw[e,ih (a+1),Nat.add_zero];cases h:vs[a]? with
  |none=>
   have hl:=List.getElem?_eq_none_iff.mp h;rw[List.drop_eq_nil_of_le hl,List.drop_eq_nil_of_le (by exact fj2 (Y0 X0 (.i X1)) [Y0 X0 X1] rfl hl)];simp
  |some v=>
   haveI hl:=(lSi h).1;haveI e:=(lSi h).2;rw[List.drop_eq_getElem_cons hl,List.take_succ_cons,e]
theorem pick_run(vs:List V)(a b:Nat):eY vs (some a) (some b) none=(vs.drop a).take (b-a):=by
 unfold eY;haveI e:sliceBounds (some (a:Int)) (some (b:Int)) none vs.length=(((min a vs.length:Nat):Int),((min b vs.length:Nat):Int),(1:Int)):=by
  unfold sliceBounds;simp only[Option.getD_none];rw[if_neg (show ¬(a:Int)<0 by exact fun hz=>fi1 (0,3,.k 0,.k 0) [Y1 X0 (.k 0),Y0 (.k 0) X0] rfl hz (iNn a)),if_neg (show ¬(b:Int)<0 by exact fun hz=>fi1 (0,3,.k 0,.k 0) [Y1 X0 (.k 0),Y0 (.k 0) X0] rfl hz (iNn b))];simp only[show(1:Int)>0 by decide,if_true]
  congr 1
  ·lia
  ·congr 1;lia
 rw[e];dsimp only;rw[PySem.sliceRange_one,List.filterMap_map];haveI e2:((vs[·]?)∘(min a vs.length+·))=fun i=>vs[min a vs.length+i]?:=rfl
 rw[e2,DQ]
 by_cases h:a≤vs.length
 ·rw[Nat.min_eq_left h]
  by_cases h2:b≤vs.length
  ·rw[Nat.min_eq_left h2]
  ·rw[Nat.min_eq_right (by exact fj2 (Y0 X0 X1) [Y1 X0 X1] rfl (Nat.lt_of_not_le h2))];rw[List.take_of_length_le (by rw[List.length_drop];exact nRe _),List.take_of_length_le (by rw[List.length_drop];exact fj5 (Y0 X0 X1) [Y1 X2 X3,Y0 X3 (.a X1 X4),Y2 (.a X0 X4) X2] rfl (Nat.lt_of_not_le h2) (lsa b a) (sac vs.length a h))]
 ·rw[Nat.min_eq_right (show vs.length≤a by exact fj2 (Y0 X0 X1) [Y1 X0 X1] rfl (Nat.lt_of_not_le h)),List.drop_eq_nil_of_le (nRe _),List.drop_eq_nil_of_le (show vs.length≤a by exact fj2 (Y0 X0 X1) [Y1 X0 X1] rfl (Nat.lt_of_not_le h))];simp
theorem vW(vs:List V)(b:Nat):eY vs none (some b) none=vs.take b:=by
 have:=pick_run vs 0 b;haveI e:eY vs none (some (b:Int)) none=eY vs (some ((0:Nat):Int)) (some (b:Int)) none:=by
  unfold eY;have:sliceBounds none (some (b:Int)) none vs.length=sliceBounds (some ((0:Nat):Int)) (some (b:Int)) none vs.length:=by
   unfold sliceBounds;simp;lia
  rw[this]
 rw[e,this];simp
noncomputable def at3(N:List Int)(k:Nat):Int:=N.getD k 0
theorem T7 {N:List Int}{k:Nat}(h:k<N.length):eY (eY (N.map V.int) (some (k:Int)) (some ((k:Int)+3)) none++[.int 0,.int 0]) none (some 3) none=[.int (at3 N k),.int (at3 N (k+1)),.int (at3 N (k+2))]:=by
 haveI e1:eY (N.map V.int) (some (k:Int)) (some ((k:Int)+3)) none=((N.map V.int).drop k).take 3:=by
  have:=pick_run (N.map V.int) k (k+3);rw[show(((k+3:Nat)):Int)=(k:Int)+3 by exact iAs (fi1 (Y0 (.a X0 (.k 3)) (.a X0 (.k 3))) [] rfl) (fi1 (Y0 (.a X0 (.k 3)) (.a X0 (.k 3))) [] rfl)]at this;rw[this];congr 1;exact nAs (fj2 (Y0 X0 (.k 3)) [Y2 (.a X0 X1) (.a X1 (.k 3))] rfl (sac (k+3) k (fj1 (Y0 X0 (.a X0 (.k 3))) [] rfl))) (fj2 (Y0 (.k 3) X0) [Y0 (.a X1 (.k 3)) (.a X0 X1)] rfl (lsa (k+3) k))
 rw[e1];haveI e2:=vW (((N.map V.int).drop k).take 3++[.int 0,.int 0]) 3;rw[show((3:Nat):Int)=3 from rfl]at e2;rw[e2];rw[←List.map_drop];have hd:∀j,at3 N (k+j)=(N.drop k).getD j 0:=fun j=>by
  unfold at3;simp[List.getD_eq_getElem?_getD,List.getElem?_drop]
 haveI h0:=hd 0;rw[Nat.add_zero]at h0;rw[h0,hd 1,hd 2];haveI hl:(N.drop k).length=N.length-k:=List.length_drop;cases hD:N.drop k with
 |nil=>rw[hD]at hl;simp at hl;lia
 |cons x r=>
  cases r with
  |nil=>rfl
  |cons y r=>
   cases r with
   |nil=>rfl
   |cons z r=>rfl
noncomputable def sh6(r:Int):Nat:=([0,0,1,5,12,20]:List Nat).getD r.toNat 0
theorem vX {r:Int}(h0:0≤r)(h1:r<6):r=0∨r=1∨r=2∨r=3∨r=4∨r=5:=by lia
theorem QQ {r:Int}(h0:0≤r)(h1:r<6):([.int 0,.int 0,.int 1,.int 5,.int 12,.int 20]:List V)[r.toNat]?=some (.int (sh6 r)):=by
 rcases vX h0 h1 with rfl|rfl|rfl|rfl|rfl|rfl<;>rfl
theorem Gg {r:Int}(h0:0≤r)(h1:r<6):sh6 r≤20:=by
 rcases vX h0 h1 with rfl|rfl|rfl|rfl|rfl|rfl<;>decide
noncomputable def ID(x y z r:Int):Int:=if r=0 then x else if r=1 then y else z
theorem LY {x y z r:Int}(h0:0≤r)(h1:r<3):([.int x,.int y,.int z]:List V)[r.toNat]?=some (.int (ID x y z r)):=by
 have:r=0∨r=1∨r=2:=by lia
 rcases this with rfl|rfl|rfl<;>rfl
theorem fk {x y:Int}(h:0<y):0≤x.fmod y∧x.fmod y<y:=⟨Int.fmod_nonneg_of_pos _ h,Int.fmod_lt_of_pos _ h⟩
noncomputable def kd(a:Int):Int:=if(a.fdiv 5).fmod 3=2 then 6 else 4
theorem JY(a:Int):kd a=4∨kd a=6:=by unfold kd;split<;>lia
theorem T8(a:Int):aA S (mOf (kd a)) (wOf (kd a)) (kd a):=by
 rcases JY a with h|h<;>rw[h]
 ·exact pb
 ·exact Du
theorem LZ(h:e≤20):(1:Int)≤2^e∧(2:Int)^e≤1048576:=by
 have h1:=aV e;have h2:(2:Int)^e≤2^20:=qC h;have h3:(2:Int)^20=1048576:=by decide
 exact⟨fi1 (Y0 (.k 1) X0) [Y1 (.k 0) X0] rfl h1,fi2 (Y0 X0 (.k 1048576)) [Y0 X0 X1,Y2 X1 (.k 1048576)] rfl h2 h3⟩
noncomputable def uy(k:Int)(c:Int)(r b:Int):Int:=ID 0 (2^wOf k-1+1-48*c) (2^(if k=4 then 31 else 32:Int).toNat-24*c) r+b.fmod 48*c
theorem IE {k c r b:Int}(hk:k=4∨k=6)(hc:1≤c∧c≤1048576):0≤uy k c r b∧uy k c r b+c≤2^wOf k:=by
 haveI hb:=fk (x:=b) (y:=48) (by decide);haveI hm:0≤b.fmod 48*c∧b.fmod 48*c≤47*c:=⟨Int.mul_nonneg hb.1 (fi1 (Y0 (.k 0) X0) [Y0 (.k 1) X0] rfl hc.1),Int.mul_le_mul_of_nonneg_right (fi1 (Y0 X0 (.k 47)) [Y1 X0 (.k 48)] rfl hb.2) (fi1 (Y0 (.k 0) X0) [Y0 (.k 1) X0] rfl hc.1)⟩;haveI e32:(2:Int)^32=4294967296:=by decide
 haveI e31:(2:Int)^31=2147483648:=by decide
 haveI e128:(2:Int)^128=340282366920938463463374607431768211456:=by decide
 unfold uy ID wOf;rcases hk with rfl|rfl
 ·simp only[if_true];rw[show((31:Int)).toNat=31 from rfl,e32,e31];split
  ·exact⟨fi1 (Y0 (.k 0) (.a (.k 0) X0)) [Y0 (.k 0) X0] rfl hm.1,fi2 (Y0 (.a (.a (.k 0) X0) X1) (.k 4294967296)) [(48,0,X1,.k 1048576),Y0 X0 (.m 47 X1)] rfl hc.2 hm.2⟩
  ·split<;>lia
 ·simp only[show ¬(6:Int)=4 by decide,if_false];rw[show((32:Int)).toNat=32 from rfl,e32,e128];split
  ·exact⟨fi1 (Y0 (.k 0) (.a (.k 0) X0)) [Y0 (.k 0) X0] rfl hm.1,fi2 (Y0 (.a (.a (.k 0) X0) X1) (.k 340282366920938463463374607431768211456)) [(48,0,X1,.k 1048576),Y0 X0 (.m 47 X1)] rfl hc.2 hm.2⟩
  ·split<;>lia
theorem rC(h:0≤x):Builtin.bitAnd x 255=x%256:=by
 have:=sK h 8;exact this
theorem VL(h0:0≤low)(h1:low<2^32):B4 (Builtin.bitAnd (low.fdiv (2^((8:Int)*3).toNat)) 255) (Builtin.bitAnd (low.fdiv (2^((8:Int)*2).toNat)) 255) (Builtin.bitAnd (low.fdiv (2^((8:Int)*1).toNat)) 255) (Builtin.bitAnd (low.fdiv (2^((8:Int)*0).toNat)) 255)∧
  (((Builtin.bitAnd (low.fdiv (2^((8:Int)*3).toNat)) 255*256+Builtin.bitAnd (low.fdiv (2^((8:Int)*2).toNat)) 255)*256+Builtin.bitAnd (low.fdiv (2^((8:Int)*1).toNat)) 255)*256+Builtin.bitAnd (low.fdiv (2^((8:Int)*0).toNat)) 255)=low:=by
 haveI e32:(2:Int)^32=4294967296:=by decide
 rw[e32]at h1;haveI f3:low.fdiv (2^((8:Int)*3).toNat)=low / 16777216:=by
  rw[show(2:Int)^((8:Int)*3).toNat=16777216 by decide];exact Int.fdiv_eq_ediv_of_nonneg _ (by decide)
 haveI f2:low.fdiv (2^((8:Int)*2).toNat)=low / 65536:=by
  rw[show(2:Int)^((8:Int)*2).toNat=65536 by decide];exact Int.fdiv_eq_ediv_of_nonneg _ (by decide)
 haveI f1:low.fdiv (2^((8:Int)*1).toNat)=low / 256:=by
  rw[show(2:Int)^((8:Int)*1).toNat=256 by decide];exact Int.fdiv_eq_ediv_of_nonneg _ (by decide)
 haveI f0:low.fdiv (2^((8:Int)*0).toNat)=low:=by
  rw[show(2:Int)^((8:Int)*0).toNat=1 by decide];exact Int.fdiv_one _
 rw[f3,f2,f1,f0,rC (by exact fi3 (16777216,0,.k 0,X0) [Y0 (.k 0) X1,Y2 X1 (.a (.m 16777216 X0) X2),Y1 X2 (.k 16777216)] rfl h0 (Int.mul_ediv_add_emod low 16777216).symm (Int.emod_lt_of_pos low (b:=16777216) (by decide))),rC (by exact fi3 (65536,0,.k 0,X0) [Y0 (.k 0) X1,Y2 X1 (.a (.m 65536 X0) X2),Y1 X2 (.k 65536)] rfl h0 (Int.mul_ediv_add_emod low 65536).symm (Int.emod_lt_of_pos low (b:=65536) (by decide))),rC (by exact fi3 (256,0,.k 0,X0) [Y0 (.k 0) X1,Y2 X1 (.a (.m 256 X0) X2),Y1 X2 (.k 256)] rfl h0 (Int.mul_ediv_add_emod low 256).symm (Int.emod_lt_of_pos low (b:=256) (by decide))),rC h0];refine⟨⟨⟨(Int.emod_nonneg (low / 16777216) (b:=256) (by decide)),(Int.emod_lt_of_pos (low / 16777216) (b:=256) (by decide))⟩,⟨(Int.emod_nonneg (low / 65536) (b:=256) (by decide)),(Int.emod_lt_of_pos (low / 65536) (b:=256) (by decide))⟩,⟨(Int.emod_nonneg (low / 256) (b:=256) (by decide)),(Int.emod_lt_of_pos (low / 256) (b:=256) (by decide))⟩,⟨(Int.emod_nonneg (low) (b:=256) (by decide)),(Int.emod_lt_of_pos (low) (b:=256) (by decide))⟩⟩,by lia⟩
theorem IF(e:Nat):(Builtin.Int.intBits (2^e):Int)=e+1:=yP e
noncomputable def qM(W:Nat)(low c z:Int):Int:=if low+z.fmod 12*c+(if(z.fdiv 12).fmod 3=1 then 0 else c-1)<2^W-1 then low+z.fmod 12*c+(if(z.fdiv 12).fmod 3=1 then 0 else c-1)else 2^W-1
theorem Gh {W:Nat}{low c z:Int}(h0:0≤low)(h1:low+c≤2^W)(hc:1≤c):low≤qM W low c z∧qM W low c z<2^W:=by
 haveI hz:=fk (x:=z) (y:=12) (by decide);haveI hm:0≤z.fmod 12*c:=Int.mul_nonneg hz.1 (iLl (by assumption));unfold qM;generalize z.fmod 12*c=q at *;split<;>split<;>lia
section
variable {S:Sta} {d:Nat}
noncomputable def cj:FC:={Ts with cel:=[("low",0)]}
theorem bt:cj.scope.names=Qi:=by kernel_rfl
theorem pS:ac cj "script" 0 .local:= .of bt (by kernel_rfl) (by kernel_rfl)
theorem gF:ac cj "numbers" 1 .local:= .of bt (by kernel_rfl) (by kernel_rfl)
theorem m7:ac cj "head" 2 .local:= .of bt (by kernel_rfl) (by kernel_rfl)
theorem e9:ac cj "cell" 3 .local:= .of bt (by kernel_rfl) (by kernel_rfl)
theorem ds:ac cj "things" 4 .local:= .of bt (by kernel_rfl) (by kernel_rfl)
theorem ey:ac cj "parts" 5 .local:= .of bt (by kernel_rfl) (by kernel_rfl)
theorem sU:ac cj "k" 6 .local:= .of bt (by kernel_rfl) (by kernel_rfl)
theorem sV:ac cj "a" 7 .local:= .of bt (by kernel_rfl) (by kernel_rfl)
theorem sW:ac cj "b" 8 .local:= .of bt (by kernel_rfl) (by kernel_rfl)
theorem pD:ac cj "c" 9 .local:= .of bt (by kernel_rfl) (by kernel_rfl)
theorem db:ac cj "kind" 10 .local:= .of bt (by kernel_rfl) (by kernel_rfl)
theorem kx:ac cj "bits" 11 .local:= .of bt (by kernel_rfl) (by kernel_rfl)
theorem pE:ac cj "top" 12 .local:= .of bt (by kernel_rfl) (by kernel_rfl)
theorem bE:ac cj "low" 13 .cell:= .of bt (by kernel_rfl) (by kernel_rfl)
theorem hU:ac cj "sort" 14 .local:= .of bt (by kernel_rfl) (by kernel_rfl)
theorem m8:ac cj "high" 15 .local:= .of bt (by kernel_rfl) (by kernel_rfl)
theorem jb:ac cj "prefix" 16 .local:= .of bt (by kernel_rfl) (by kernel_rfl)
theorem gj:ac cj "size" 17 .local:= .of bt (by kernel_rfl) (by kernel_rfl)
theorem zn:ac cj "range" 18 GI:= .of bt (by kernel_rfl) (by kernel_rfl)
theorem DR:ac cj "len" 19 GI:= .of bt (by kernel_rfl) (by kernel_rfl)
theorem jq:ac cj "IPAddress" 20 GI:= .of bt (by kernel_rfl) (by kernel_rfl)
theorem DS:ac cj "min" 21 GI:= .of bt (by kernel_rfl) (by kernel_rfl)
theorem vw:ac cj "IPRange" 22 GI:= .of bt (by kernel_rfl) (by kernel_rfl)
theorem DT:ac cj "str" 23 GI:= .of bt (by kernel_rfl) (by kernel_rfl)
theorem sX:ac cj "IPNetwork" 24 GI:= .of bt (by kernel_rfl) (by kernel_rfl)
theorem sY:ac cj "_law_told" 25 GI:= .of bt (by kernel_rfl) (by kernel_rfl)
theorem rJ:ac cj "cidr_merge" 26 GI:= .of bt (by kernel_rfl) (by kernel_rfl)
theorem rK:ac cj "_law_least" 27 GI:= .of bt (by kernel_rfl) (by kernel_rfl)
theorem zo:cj.cel.lookup ("low":Str)=some 0:=by kernel_rfl
theorem L1:br cj [("script",v0)] [some v0,none,none,none,none,none,none,none,none,none,none,none,none,none,none,none,none,none,none,none,none,none,none,none,none,none,none,none]:= .cons (l:=[none,none,none,none,none,none,none,none,none,none,none,none,none,none,none,none,none,none,none,none,none,none,none,none,none,none,none,none]) (.nil (by kernel_rfl)) pS .zero
theorem QR(hb:Binds S (kL S) vs ks [("script",v0)])(h:WL S (d+1) cj JM (fun o σ'=>P (de o) σ'.hp) no ⟨[some v0,none,none,none,none,none,none,none,none,none,none,none,none,none,none,none,none,none,none,none,none,none,none,none,none,none,none,none],[.cell none]⟩)(hd:d<1000):WFn S d (.ref oR) vs ks P no []:=
 xL (fd:=kL S) (body:=JM) (bl:=[("script",v0)]) (c:=cj) (cns:=["low"]) rfl rfl FE Qh hd rfl hb L1 (fun _=>rfl) (by decide) h
noncomputable def bU(t:ax):Int×Int×Int:=(t.org.ver,t.org.first,t.org.last)
theorem T9:l.map f++[f x]=(l++[x]).map f:=by simp
theorem xa(h:bU t=(x,y,z)):(ts.map bU).map dS++[.tup [.int x,.int y,.int z]]=((ts++[t]).map bU).map dS:=by
 rw[lMp,lMp];show _=_++[dS (bU t)];rw[h];rfl
theorem JZ:(ts.map bU).map dS++[dS (bU t)]=((ts++[t]).map bU).map dS:=by
 rw[lMp,lMp];rfl
theorem Ua:ts.map ax.val++[dj m v]=(ts++[ax.addr m w ver v]).map ax.val:=by rw[lMp];rfl
theorem Ub:ts.map ax.val++[qq m a b]=(ts++[ax.rng m w ver a b]).map ax.val:=by rw[lMp];rfl
theorem Uc {w:Nat}{ver v:Int}{p:Nat}:ts.map ax.val++[aY m v p]=(ts++[ax.net ⟨m,w,ver,v,p⟩]).map ax.val:=by rw[lMp];rfl
theorem Ud:ts.map ax.val++[.str (hJ a b c e p)]=(ts++[ax.txt a b c e p]).map ax.val:=by rw[lMp];rfl
theorem IG:(((ts++[t]).map bU).map dS)[((-1:Int)+((((ts++[t]).map bU).map dS).length:Nat)).toNat]?=some (dS (bU t)):=by
 rw[←JZ,lAp];haveI e:((-1:Int)+((((ts.map bU).map dS).length+[dS (bU t)].length:Nat):Int)).toNat=((ts.map bU).map dS).length:=by show(_+((_+1:Nat):Int)).toNat=_;lia
 rw[e,List.getElem?_append_right (nRe _)];simp
theorem QS(hK:k=4∨k=6)(q:(k==4)=false):(128:Int)=((wOf k:Nat):Int):=by
 rcases hK with rfl|rfl
 ·cases q
 ·rfl
theorem QT(q:(k==4)=true):(32:Int)=((wOf k:Nat):Int):=by
 rw[beq_iff_eq.mp q];rfl
theorem VM(k:Int):32≤wOf k:=by unfold wOf;split<;>decide
theorem n8 {S:Sta}{ts:List ax}{t:ax}(h:∀x∈ts,x.Ok S)(ht:t.Ok S):∀x∈ts++[t],x.Ok S:=fun x hx=>by
 rcases List.mem_append.mp hx with q|q
 ·exact h x q
 ·rw[lMs q];exact ht
theorem IH:bU (.addr m w ver v)=(ver,v,v):=by
 show(ver,v-v%2^(w-w),v-v%2^(w-w)+(2^(w-w)-1))=_;rw[Nat.sub_self,show(2:Int)^0=1 from rfl,Int.emod_one]
 congr 2<;>lia
theorem DU {x:Int}(k:Nat):x.fmod (2^k)=x%2^k:=Int.fmod_eq_emod_of_nonneg _ (iLl (aV k))
theorem zp:bU (.net ⟨mOf k,wOf k,k,low,p⟩)=(k,low-low.fmod (2^(wOf k-p)),low-low.fmod (2^(wOf k-p))+2^(wOf k-p)-1):=by
 show(k,low-low%2^(wOf k-p),low-low%2^(wOf k-p)+(2^(wOf k-p)-1))=_;rw[DU]
 congr 2;exact iAs (fi3 (Y0 (.a (.s X0 X1) (.s X2 (.k 1))) (.s (.a (.s X0 X1) X2) (.k 1))) [] rfl) (fi3 (Y0 (.s (.a (.s X0 X1) X2) (.k 1)) (.a (.s X0 X1) (.s X2 (.k 1)))) [] rfl)
theorem II(hval:((a*256+b)*256+c)*256+e=low)(hk:k=4):bU (.txt a b c e p)=(k,low-low.fmod (2^(wOf k-p)),low-low.fmod (2^(wOf k-p))+2^(wOf k-p)-1):=by
 subst hk;subst hval;rw[←zp];rfl
theorem kU {k:Int}(h0:0≤k)(h1:k<256):k.natAbs.log2<1920:=by
 haveI h:k.natAbs.log2≤8:=by
  by_cases q:k.natAbs=0
  ·rw[q];decide
  ·have:=(Nat.log2_lt q (k:=8)).mpr (by haveI e:2^8=256:=rfl;lia);exact fj1 (Y0 X0 (.k 8)) [Y1 X0 (.k 8)] rfl this
 exact fj1 (Y1 X0 (.k 1920)) [Y0 X0 (.k 8)] rfl h
theorem IJ(h:B4 a b c e):(fH a b c e).length+("/":Str).length≤100000:=by
 have:=jp (cB h.a.1 h.a.2) (cB h.b.1 h.b.2) (cB h.c.1 h.c.2) (cB h.e.1 h.e.2);haveI e1:("/":Str).length=1:=by rw[kh];rfl
 exact fj2 (Y0 (.a X0 X1) (.k 100000)) [Y0 X0 (.k 15),Y2 X1 (.k 1)] rfl this e1
theorem IK(h:B4 a b c e)(hp:0≤p∧p<256):(fH a b c e++"/").length+(oct p).length≤100000:=by
 haveI h1:=jp (cB h.a.1 h.a.2) (cB h.b.1 h.b.2) (cB h.c.1 h.c.2) (cB h.e.1 h.e.2);haveI h2:=(cB hp.1 hp.2).le;rw[len_list]at h1;haveI h3:(fH a b c e++"/").length=(fH a b c e).cps.toList.length+1:=by
  rw[len_list,jT,kh];simp
 exact fj3 (Y0 (.a X0 X1) (.k 100000)) [Y0 X2 (.k 15),Y0 X1 (.k 3),Y2 X0 (.i X2)] rfl h1 h2 h3
theorem IL(h:StrsAre vs ts):∃l:List (Str×Tok),vs=strValues l∧l.map (·.1)=ts:=by
 induction h with
 |nil=>exact⟨[],rfl,rfl⟩
 |cons y t _ ih=>obtain⟨l,e1,e2⟩:=ih;exact⟨(y,t)::l,congrArg (_::·) e1,congrArg (y::·) e2⟩
theorem L2(hv:cO σ.hp v (ys.map .str))(hok:JoinOk x ys=true)(h:P (.str (Txt.join x ys)) σ):aI S d c (.top (.builtin "str.join")) [.str x,v] [] P X σ:=fm dT fun A ρ s vs' ks' hA C r1 r2 Q E hQ=>by
 refine r2.nilE ?_;refine r1.twoE fun _ _ rb rx=>?_
 refine rb.strE fun t=>?_
 refine C.lstE hv rx fun l xs hl hrr hsz rx=>?_
 obtain⟨l2,e1,e2⟩:=IL (Bv hrr);have hl':s.heap.IsList l (strValues l2).toArray:=by rw[←e1,Array.toArray_toList];exact hl.isList
 exact SC.join hl' e2 hok fun t' k=>hQ _ _ s.heap k (fun _ _ e=>e) h (.str _ _)
theorem IM(h:B4 a b c e):JoinOk "." [oct a,oct b,oct c,oct e]=true:=by
 unfold JoinOk;rw[Bool.not_eq_true'];refine StrLaws.joinFits (B:=3) (fun y hy=>?_) (by rw[w9];exact blE rfl);simp only[List.mem_cons,List.not_mem_nil,or_false]at hy;rcases hy with rfl|rfl|rfl|rfl
 ·exact(cB h.a.1 h.a.2).le
 ·exact(cB h.b.1 h.b.2).le
 ·exact(cB h.c.1 h.c.2).le
 ·exact(cB h.e.1 h.e.2).le
noncomputable def rs(n:Nat):Nat:=if 1<n then(n-2) / 3+1 else 0
theorem Ue(n:Nat):Builtin.Range.rangeSize 1 (n:Int) 3=(rs n:Nat):=by
 unfold Builtin.Range.rangeSize rs;rw[if_pos (by decide)]
 by_cases h:1<n
 ·rw[if_pos (by exact fi1 (Y1 (.k 1) X0) [Y1 (.k 1) X0] rfl (iOt h)),if_pos h];lia
 ·rw[if_neg (by exact fun hz=>fi1 (0,3,.k 0,.k 0) [Y0 X0 (.k 1),Y1 (.k 1) X0] rfl (iOl (nNl h)) hz),if_neg h];rfl
theorem Uf(h:x<rs n):1+x*3<n:=by
 unfold rs at h;split at h<;>lia
theorem J0(h:n≤19):rs n≤6:=by
 unfold rs;split<;>lia
theorem IN(m:Nat):jv 1 3 m=(List.range m).map fun k:Nat=>V.int ((1+k*3:Nat):Int):=by
 unfold jv;refine List.map_congr_left fun k _=>congrArg V.int ?_
 exact iAs (fi1 (Y0 (.a (.k 1) (.n X0 3)) (.a (.k 1) (.n X0 3))) [] rfl) (fi1 (Y0 (.a (.k 1) (.n X0 3)) (.a (.k 1) (.n X0 3))) [] rfl)
theorem Ug {N:List Int}(h:(!(N.map V.int).isEmpty)=true):(N.map V.int)[(0:Int).toNat]?=some (.int (N.headD 0)):=by
 cases N with
 |nil=>cases h
 |cons x r=>rfl
theorem QU {N:List Int}(h:(!(N.map V.int).isEmpty)=false):(0:Int)=N.headD 0:=by
 cases N with
 |nil=>rfl
 |cons x r=>cases h
theorem IP {N:List Int}{k:Nat}:(N.map V.int).take k=(N.take k).map V.int:=by rw[List.map_take]
theorem L3 {ns:List Int}:eY (ns.map V.int) none (some 19) none=(ns.take 19).map V.int:=by
 have:=vW (ns.map V.int) 19;rw[show((19:Nat):Int)=19 from rfl]at this;rw[this,IP]
theorem zq {N:List Int}{k:Nat}:(eY (N.map V.int) (some (k:Int)) (some ((k:Int)+3)) none).length≤3:=by
 have:=pick_run (N.map V.int) k (k+3);rw[show(((k+3:Nat)):Int)=(k:Int)+3 by exact iAs (fi1 (Y0 (.a X0 (.k 3)) (.a X0 (.k 3))) [] rfl) (fi1 (Y0 (.a X0 (.k 3)) (.a X0 (.k 3))) [] rfl)]at this;rw[this,List.length_take];lia
theorem jV(x:Int):Builtin.divisionGoesByPylong x 3=false∧Builtin.divisionGoesByPylong x 5=false∧Builtin.divisionGoesByPylong x 6=false∧Builtin.divisionGoesByPylong x 12=false∧Builtin.divisionGoesByPylong x 48=false:=by
 have key:∀y:Int,(decide ((if(y==0)=true then 0 else y.natAbs.log2 / 30+1)>300))=false→Builtin.divisionGoesByPylong x y=false:=fun y h=>by
  unfold Builtin.divisionGoesByPylong;dsimp only;rw[h];rfl
 exact⟨key 3 (by decide+kernel),key 5 (by decide+kernel),key 6 (by decide+kernel),key 12 (by decide+kernel),key 48 (by decide+kernel)⟩
theorem L4(h:(!(l.map ax.val).isEmpty)=true):∃l' t,l=l'++[t]:=by
 cases hl:l.reverse with
 |nil=>
  have:=List.reverse_eq_nil_iff.mp hl;subst this;cases h
 |cons t r=>exact⟨r.reverse,t,by rw[←List.reverse_reverse l,hl];simp⟩
theorem L5:((l++[t]).map f)[((-1:Int)+(((l++[t]).map f).length:Nat)).toNat]?=some (f t):=by
 haveI e:((-1:Int)+(((l++[t]).map f).length:Nat)).toNat=(l.map f).length:=by simp;lia
 rw[e,lMp,List.getElem?_append_right (nRe _)];simp
theorem L6 {n:Nat}(h:n≤19):Builtin.Range.small 1 (n:Int) 3=true:=by
 have key:∀k:Nat,k<20→Builtin.Range.small 1 (k:Int) 3=true:=by decide+kernel
 exact key n (fj1 (Y1 X0 (.k 20)) [Y0 X0 (.k 19)] rfl h)
theorem zr {S:Sta}{os:List Org}{ts:List ax}(hok:∀t∈ts,t.Ok S)(hp:os.Perm (ts.map ax.org)):∀o∈os,o.Ok S:=fun o ho=>by
 obtain⟨t,ht,rfl⟩:=lMm (hp.mem_iff.mp ho);exact ax.org_ok (hok t ht)
theorem L7 {S:Sta}{os:List Org}{ts:List ax}(hok:∀t∈ts,t.Ok S)(hp:os.Perm (ts.map ax.org)):∀z∈(gh os).flatMap cut,z.Ok S:=fun z hz=>by
 obtain⟨e,he,hz⟩:=List.mem_flatMap.mp hz;exact QO (nZ (zr hok hp) e he) z hz
theorem IQ {S:Sta}{os:List Org}{ts:List ax}(hok:∀t∈ts,t.Ok S)(hp:os.Perm (ts.map ax.org))(hz:ts.length≤6):((gh os).flatMap cut).length≤100000:=by
 haveI h1:=vu (f:=cut) (n:=257) (l:=gh os) fun e he=>vt (nZ (zr hok hp) e he)
 haveI h2:=r9 os;haveI h3:=hp.length_eq;rw[lMa]at h3;have:257*(gh os).length≤257*6:=Nat.mul_le_mul_left _ (fj3 (Y0 X0 (.k 6)) [Y0 X1 (.k 6),Y0 X0 X2,Y2 X2 X1] rfl hz h2 h3);exact fj2 (Y0 X0 (.k 100000)) [Y0 X0 (.m 257 X1),Y0 (.m 257 X1) (.m 257 (.k 6))] rfl h1 this
theorem L8(h:t.Ok S):qJ (bU t):=by
 have h1:=lM (ax.org_ok h);have hk:=h1.kind;have hi:=h1.hi;refine⟨h1.lo,h1.le,?_⟩;rcases hk with q|q
 ·left;refine⟨q,?_⟩;rw[q]at hi;exact hi
 ·right;refine⟨q,?_⟩;rw[q]at hi;exact hi
theorem zt {S:Sta}{ts:List ax}(hok:∀t∈ts,t.Ok S):∀x∈ts.map bU,qJ x:=fun x hx=>by
 obtain⟨t,ht,rfl⟩:=lMm hx;exact L8 (hok t ht)
theorem sZ {k:Int}{pszq:List (Int×Int×Int)}{p:Int×Int}:p∈cr k pszq↔∃x∈pszq,x.1=k∧x.2=p:=by
 unfold cr;rw[List.mem_filterMap];constructor
 ·rintro⟨x,hx,e⟩
  by_cases q:x.1=k
  ·rw[if_pos q]at e;cases e;exact⟨x,hx,q,rfl⟩
  ·rw[if_neg q]at e;cases e
 ·rintro⟨x,hx,q,rfl⟩
  exact⟨x,hx,by rw[if_pos q]⟩
theorem zu(k W:Int)(l:List (Int×Int)):∃rows:List (List Int),l.flatMap (jo k W)=rows.map uN:=by
 refine⟨(l.flatMap fun x=>cx W x.1 x.2).map fun y=>[k,y.1,y.2],?_⟩;rw[List.map_map,List.map_flatMap];rfl
theorem Ma:x∈g6 m↔∃p∈m,x=p.1∨x=p.2+1:=by
 unfold g6;rw[List.mem_append,List.mem_map,List.mem_map];constructor
 ·rintro(⟨p,hp,e⟩|⟨p,hp,e⟩)
  ·exact⟨p,hp,.inl e.symm⟩
  ·exact⟨p,hp,.inr e.symm⟩
 ·rintro⟨p,hp,e|e⟩
  ·exact .inl ⟨p,hp,e.symm⟩
  ·exact .inr ⟨p,hp,e.symm⟩
theorem IR {S:Sta}{os:List Org}{ts:List ax}{p4 p6:List Int}(hok:∀t∈ts,t.Ok S)(hp:os.Perm (ts.map ax.org))(hs:os.Pairwise fun a b=>bT (jU a)≤bT (jU b))
  (a1:p4.Perm (g6 (cr 4 (ts.map bU))))(a2:p4.Pairwise (·≤·))(a3:p6.Perm (g6 (cr 6 (ts.map bU))))(a4:p6.Pairwise (·≤·)):
  ∃rows:List (List Int),((gh os).flatMap cut).map mJ=rows.map uN∧(aP (dI (cr 4 (ts.map bU))) p4 none).flatMap (jo 4 32)++(aP (dI (cr 6 (ts.map bU))) p6 none).flatMap (jo 6 128)=rows.map uN:=by
 haveI hpo:=zt hok;have h:=AV (zr hok hp) hs (mine:=fun k=>cr k (ts.map bU)) (pszq:=fun k=>if k=4 then p4 else if k=6 then p6 else(g6 (cr k (ts.map bU))).mergeSort) ?_ ?_ ?_ ?_
 ·obtain⟨r4,e4⟩:=zu 4 32 (aP (dI (cr 4 (ts.map bU))) p4 none);obtain⟨r6,e6⟩:=zu 6 128 (aP (dI (cr 6 (ts.map bU))) p6 none);refine⟨r4++r6,?_,by rw[e4,e6,lMp]⟩;rw[h,lMp,←e4,←e6];rfl
 ·intro k x;constructor
  ·rintro⟨o,ho,e,h1,h2⟩
   obtain⟨t,ht,rfl⟩:=lMm (hp.mem_iff.mp ho);exact⟨(t.org.first,t.org.last),sZ.mpr ⟨bU t,List.mem_map.mpr ⟨t,ht,rfl⟩,e,rfl⟩,h1,h2⟩
  ·rintro⟨p,hm,h1,h2⟩
   obtain⟨y,hy,e,rfl⟩:=sZ.mp hm;obtain⟨t,ht,rfl⟩:=lMm hy;exact⟨t.org,hp.mem_iff.mpr (List.mem_map.mpr ⟨t,ht,rfl⟩),e,h1,h2⟩
 ·intro k;split
  ·exact a2
  ·split
   ·exact a4
   ·exact pR (List.pairwise_mergeSort (le:=fun a b:Int=>decide (a≤b)) (fun a b c h1 h2=>dEt (Int.le_trans (of_decide_eq_true h1) (of_decide_eq_true h2))) (fun a b=>by rcases Int.le_total a b with h|h<;>simp[h]) _) fun a _ b _ h=>of_decide_eq_true h
 ·intro k x;rw[←Ma];split
  ·rename_i q;rw[q];exact a1.mem_iff
  ·split
   ·rename_i q;rw[q];exact a3.mem_iff
   ·exact(List.mergeSort_perm ..).mem_iff
 ·intro k p hm;obtain⟨y,hy,_,rfl⟩:=sZ.mp hm;exact(hpo y hy).le
end
section
variable {S:Sta} {d:Nat}
inductive QV(S:Sta)(ns N:List Int)(hd C:Int):List Nat→St→Prop
 |mk {rest:List Nat} (ts:List ax) (lo q0 q1 q2 q3 q4 q5 q6 q7 q8 q9 q10:Option V) (hok:∀t∈ts,t.Ok S) (hD:∃done,done++rest=List.range (rs N.length)∧ts.length≤done.length):QV S ns N hd C rest ⟨[some (.list (ns.map V.int)),some (.list (N.map V.int)),some (.int hd),some (.int C),some (.obj 1),some (.obj 2),q0,q1,q2,q3,q4,q5,q6,none,q7,q8,q9,q10,none,none,none,none,none,none,none,none,none,none],[.cell lo,.list (ts.map ax.val),.list ((ts.map bU).map dS)]⟩
theorem kd4(hK:kd a=4∨kd a=6)(w3:(decide (a.fmod 5=2)||decide (a.fmod 5=3)&&decide (kd a=6))=false)(w4:a.fmod 5=3):kd a=4:=by
 rcases hK with z|z
 ·exact z
 ·simp[w4,z]at w3
theorem IS {ns:List Int}(hd:d<700)(hz:ns.length≤63):PFn S d (.ref oR) [.list (ns.map V.int)] [] (·= .bool true):=by
 refine PFn.sealed ?_;refine QR HS ?_ (dd0 hd rfl);refine s_a (qX (aa pS rfl (fA (jO (af (fA ?_))))));refine⟨_,none,some 19,none,.inr rfl,(by rw[lMa];exact fj1 (Y0 X0 (.k 100000)) [Y0 X0 (.k 63)] rfl hz),.none,.int 19 (by decide) (by decide),.none,by decide,pv (congrArg V.list L3) ?_⟩;obtain⟨N,hNe⟩:∃N,N=ns.take 19:=⟨_,rfl⟩;rw[←hNe];have hN:N.length≤19:=by rw[hNe,List.length_take];lia
 refine ag gF .z1 (s_a ?_);refine o9 (w:= .int (N.headD 0)) ?_ ?_
 ·
  refine jt (al (aa gF rfl ?_));refine Cj (.inr rfl) (by rw[lMa];exact fj1 (Y0 X0 (.k 100000)) [Y0 X0 (.k 19)] rfl hN) ?_;refine⟨fun q=>?_,fun q=>?_⟩
  ·
   refine d0 gF rfl (af ?_);refine dD (.inr rfl) (by decide) (Ug q) (by rw[lMa];exact fj1 (Y0 X0 (.k 100000)) [Y0 X0 (.k 19)] rfl hN) ?_;exact⟨rfl,rfl⟩
  ·
   refine af ?_;exact⟨congrArg V.int (QU q),rfl⟩
 ·
  refine ag m7 .z2 (s_a (am (af (ie (fS (af (af ?_)))))));refine af (af (af (af (eg m7 rfl ?_))));refine iD (by decide) ?_;refine dD (.inr rfl) (fk (by decide)).1 (QQ (fk (by decide)).1 (fk (by decide)).2) (blE rfl) ?_;refine j1 ((iNn (sh6 ((N.headD 0).fmod 6)))) (by have:=Gg (r:=(N.headD 0).fmod 6) (fk (by decide)).1 (fk (by decide)).2;exact fi1 (Y0 X0 (.k 1000000)) [Y0 X0 (.k 20)] rfl (iOl this)) (by decide) ?_;rw[Int.one_mul,Int.toNat_natCast];haveI he:=Gg (r:=(N.headD 0).fmod 6) (fk (by decide)).1 (fk (by decide)).2;generalize sh6 ((N.headD 0).fmod 6)=e at he⊢;generalize N.headD 0=hd;obtain⟨C,hC⟩:∃C:Int,C=2^e:=⟨_,rfl⟩;rw[←hC];haveI hc:1≤C∧C≤1048576:=hC▸LZ he;haveI hb:(Builtin.Int.intBits C:Int)=e+1:=hC▸IF e;haveI hmul:Builtin.Int.intBits C≤64:=iOm (fi2 (Y0 X0 (.k 64)) [Y0 X1 (.k 20),Y2 X0 (.i X1)] rfl (iOl he) hb);refine ag e9 .z3 (s_a (gu (fB ?_)));refine lV (.cons .nil) ?_;refine ag ds .z4 (s_a (gu (fB ?_)));refine lV (.cons (.cons .nil)) ?_;refine ag ey .z5 (ay (ET (aQ zn Hj (af (aQ DR ir (aa gF rfl ?_))))));refine wU (.inr rfl) (by rw[lMa];exact fj1 (Y0 X0 (.k 100000)) [Y0 X0 (.k 19)] rfl hN) ?_;refine af ?_;refine Hi (by decide) (jV _).1 ?_;refine⟨_,_,_,rs N.length,rfl,by rw[lMa];exact L6 hN,by rw[lMa];exact Ue _,?_⟩;rw[IN];refine qn (g:=fun k:Nat=>V.int ((1+k*3:Nat):Int)) (xs:=List.range (rs N.length)) (QV S ns N hd C) (fun x rest σ hi=>?_) (fun σ hi=>?_) (.mk [] none none none none none none none none none none none none (fun t ht=>by cases ht) ⟨[],rfl,nRe _⟩)
  ·cases hi with
   |mk ts lo q0 q1 q2 q3 q4 q5 q6 q7 q8 q9 q10 hok hDD=>
    obtain⟨done,eD,hlen⟩:=hDD;haveI hx:x<rs N.length:=List.mem_range.mp (eD▸List.mem_append_right done (.head rest));haveI hk:=Uf hx;haveI hts:ts.length<6:=by have h1:=J0 hN;have h2:=congrArg List.length eD;rw[lAp,List.length_range,lCo]at h2;exact fj4 (Y1 X0 (.k 6)) [Y0 X0 X1,Y0 X2 (.k 6),Y2 (.a X1 (.i X3)) X2] rfl hlen h1 h2
    haveI hD1:∃done2,done2++rest=List.range (rs N.length)∧ts.length+1≤done2.length:=⟨done++[x],by rw[←eD];simp,by rw[lAp];show _≤done.length+1;exact fj2 (Y0 (.i X0) (.i X1)) [Y0 X0 X1] rfl hlen⟩;obtain⟨done2,eD2,hlen2⟩:=hD1;refine a_n sU .z6 (ay (eH (qX (am (qX (aa gF rfl (jO ?_)))))));refine aa sU rfl (jO (eg sU rfl (dQ (fA ?_))));refine⟨_,some ((1+x*3:Nat):Int),some (((1+x*3:Nat):Int)+3),none,.inr rfl,(by rw[lMa];exact fj1 (Y0 X0 (.k 100000)) [Y0 X0 (.k 19)] rfl hN),.int _ (by exact fi1 (Y0 (.k (-1000000)) (.a (.k 1) (.n X0 3))) [(3,0,.k 0,X0)] rfl (iNn x)) (fi [↑x,↑N.length] (Y0 (.a (.k 1) (.n X0 3)) (.k 1000000)) [Y0 X1 (.k 19),Y1 (.a (.k 1) (.n X0 3)) X1] rfl (iOl hN) (iOt hk)),.int _ (by exact fi1 (Y0 (.k (-1000000)) (.a (.a (.k 1) (.n X0 3)) (.k 3))) [(3,0,.k 0,X0)] rfl (iNn x)) (fi [↑x,↑N.length] (Y0 (.a (.a (.k 1) (.n X0 3)) (.k 3)) (.k 1000000)) [Y0 X1 (.k 19),Y1 (.a (.k 1) (.n X0 3)) X1] rfl (iOl hN) (iOt hk)),.none,by decide,?_⟩;refine fS (af (af ?_));refine xA (.inr rfl) (.inr rfl) (by have:=zq (N:=N) (k:=1+x*3);show _+2≤_;exact fj1 (Y0 (.a X0 (.k 2)) (.k 100000)) [Y0 X0 (.k 3)] rfl this) ?_;refine fA (jO (af (fA ?_)));refine⟨_,none,some 3,none,.inr rfl,(by rw[lAp];have:=zq (N:=N) (k:=1+x*3);show _+2≤_;exact fj1 (Y0 (.a X0 (.k 2)) (.k 100000)) [Y0 X0 (.k 3)] rfl this),.none,.int 3 (by decide) (by decide),.none,by decide,pv (congrArg V.list (T7 hk)) ?_⟩;generalize at3 N (1+x*3)=a;generalize at3 N (1+x*3+1)=b;generalize at3 N (1+x*3+2)=c;have hK:=JY a;have hM:=T8 (S:=S) a;haveI hW:=IA (kd a);haveI hW2:=VM (kd a);refine dh (by exact .inr (.inr rfl)) rfl ?_;refine a_n sV .z7 (a_n sW .z8 (a_n pD .z9 (s_a ?_)));refine o9 (w:= .int (kd a)) ?_ ?_
    ·
     refine jt (bz (am (eg sV rfl ?_)));refine lq (by decide) (jV _).2.1 ?_;refine af ?_;refine iD (by decide) ?_;refine af (el (kb ?_));refine⟨fun q=>?_,fun q=>?_⟩
     ·
      refine af ?_;exact⟨congrArg V.int (if_pos (beq_iff_eq.mp q)).symm,rfl⟩
     ·
      refine af ?_;exact⟨congrArg V.int (if_neg (fun z=>by rw[z]at q;cases q)).symm,rfl⟩
    ·
     refine ag db .z10 (s_a ?_);refine o9 (w:= .int (wOf (kd a))) ?_ ?_
     ·
      refine jt (dR db rfl (el (kb ?_)));refine⟨fun q=>?_,fun q=>?_⟩
      ·
       refine af ?_;exact⟨congrArg V.int (QT q),rfl⟩
      ·
       refine af ?_;exact⟨congrArg V.int (QS hK q),rfl⟩
     ·
      refine ag kx .z11 (s_a (am (am (af (aa kx rfl ?_)))));refine mq (fi1 (Y0 (.k 0) X0) [Y0 (.k 32) X0] rfl (iOl hW2)) (fi1 (Y0 X0 (.k 1000000)) [Y0 X0 (.k 128)] rfl (iOl hW)) (by decide) ?_;rw[Int.toNat_natCast];refine af (bu (ag pE .z12 (s_a (am (ie (fS (af ?_)))))));refine am (eg pE rfl (dQ (am (af (aa e9 rfl ?_)))));refine mo (.of_left (by decide)) ?_;refine bu (am (am (af ?_)));refine o9 (w:= .int (if kd a=4 then 31 else 32)) ?_ ?_
      ·
       refine jt (dR db rfl (el (kb ?_)));refine⟨fun q=>?_,fun q=>?_⟩
       ·
        refine af ?_;exact⟨congrArg V.int (if_pos (beq_iff_eq.mp q)).symm,rfl⟩
       ·
        refine af ?_;exact⟨congrArg V.int (if_neg (fun z=>by rw[z]at q;cases q)).symm,rfl⟩
      ·
       refine mq (by split<;>decide) (by split<;>decide) (by decide) ?_;refine am (af (aa e9 rfl ?_));refine mo (.of_left (by decide)) ?_;refine bu (am (eg m7 rfl ?_));refine lq (by decide) (jV _).2.2.1 ?_;refine af ?_;refine iD (by decide) ?_;refine dD (.inr rfl) (fk (by decide)).1 (LY (fk (by decide)).1 (fk (by decide)).2) (blE rfl) (am (eg sW rfl ?_));refine iD (by decide) ?_;refine aa e9 rfl (mo (.of_right hmul) (dQ ?_));rw[←uy];have hlow:=IE (k:=kd a) (c:=C) (r:=(hd.fdiv 6).fmod 3) (b:=b) hK hc;generalize uy (kd a) C ((hd.fdiv 6).fmod 3) b=low at hlow⊢;refine qg (i:=0) bE (by kernel_rfl) rfl .zero ?_;refine s_a (eg sV rfl ?_);refine iD (by decide) ?_;refine ag hU .z14 (s_i ?_);refine Qk (w:=decide (a.fmod 5=4)&& !(ts.map ax.val).isEmpty) ?_ ?_
       ·
        refine bK (dR hU rfl (el (kb ?_)));refine lu (fun h1=>?_) (fun h1=>?_)
        ·
         have q1:=h1;refine bK (al (aa ds rfl ?_));refine Cj (.inl ⟨1,rfl,rfl⟩) (by rw[lMa];exact fj1 (Y0 X0 (.k 100000)) [Y1 X0 (.k 6)] rfl hts) ?_;refine lu (fun h2=>?_) (fun h2=>?_)
         ·
          have q2:=h2;refine nw ?_;exact⟨by first|(simp_all;done)|(simp at *;simp_all),rfl⟩
         ·
          have q2:=h2;exact⟨by first|(simp_all;done)|(simp at *;simp_all),rfl⟩
        ·
         have q1:=h1;exact⟨by first|(simp_all;done)|(simp at *;simp_all),rfl⟩
       ·
        refine jd (fun h3=>?_) (fun h3=>?_)
        ·
         have w1:=h3;obtain⟨tz,t,rfl⟩:=L4 (by simp at w1;simpa using w1.2);refine s_e (cy ds rfl (bo rfl (d0 ds rfl (hZ (af (mr ?_))))));refine Ba (.inl ⟨1,rfl,rfl⟩) (by decide) (by rw[lMa,lAp];show _≤_;simp;exact fi1 (Y0 (.k 1) (.i X0)) [Y0 (.k 0) X0] rfl (iNn tz.length)) L5 (by rw[lMa];exact fj1 (Y0 X0 (.k 100000)) [Y1 X0 (.k 6)] rfl hts) ?_;refine bw rfl (T9) (by rw[lMa];exact fj1 (Y0 X0 (.k 100000)) [Y1 X0 (.k 6)] rfl hts) ?_;refine s_e (cy ey rfl (bo rfl (d0 ey rfl (hZ (af (mr ?_))))));refine Ba (.inl ⟨2,rfl,rfl⟩) (by decide) (by rw[lMa,lMa,lAp];show _≤_;simp;exact fi1 (Y0 (.k 1) (.i X0)) [Y0 (.k 0) X0] rfl (iNn tz.length)) IG (by rw[lMa,lMa];exact fj1 (Y0 X0 (.k 100000)) [Y1 X0 (.k 6)] rfl hts) ?_;refine bw rfl (JZ) (by rw[lMa,lMa];exact fj1 (Y0 X0 (.k 100000)) [Y1 X0 (.k 6)] rfl hts) ?_;refine ae (ae ?_);exact⟨trivial,.mk ((tz++[t])++[t]) _ _ _ _ _ _ _ _ _ _ _ _ (n8 hok (hok t (List.mem_append_right _ (.head _)))) ⟨done2,eD2,by rw[lAp];show(tz++[t]).length+1≤_;exact hlen2⟩⟩
        ·
         haveI w1:=h3;refine s_i (dR hU rfl (el (kb ?_)));refine jd (fun h4=>?_) (fun h4=>?_)
         ·
          haveI w2:=h4;refine ay (PA bE zo rfl ?_);refine o9 (w:= .int (if(b.fdiv 48).fmod 2=0 then 0 else C-1)) ?_ ?_
          ·
           refine jt (al (am (eg sW rfl ?_)));refine lq (by decide) (jV _).2.2.2.2 ?_;refine af ?_;refine iD (by decide) ?_
           first|refine aK ?_|refine dB ?_|refine PG ?_|refine Cj (.inr rfl) (by lia) ?_
           refine⟨fun q=>?_,fun q=>?_⟩
           ·
            refine eg e9 rfl (bu ?_);exact⟨congrArg V.int (if_neg (fun z=>by rw[z]at q;cases q)).symm,rfl⟩
           ·
            refine af ?_;exact⟨congrArg V.int (if_pos (by simpa using q)).symm,rfl⟩
          ·
           refine lR ?_;have hlw:bS (wOf (kd a)) (low+(if(b.fdiv 48).fmod 2=0 then 0 else C-1)):=by split<;>exact⟨by lia,by lia⟩
           generalize low+(if(b.fdiv 48).fmod 2=0 then 0 else C-1)=lw at hlw⊢;refine qg (i:=0) bE (by kernel_rfl) rfl .zero ?_;refine s_e (cy ds rfl (bo rfl (bH jq cI ?_)));refine cM (i:=0) bE (by kernel_rfl) rfl ?_;refine aa db rfl ?_;refine bL (yH hM (by lia) hlw) ?_ jx;refine bw rfl (Ua (w:=wOf (kd a)) (ver:=kd a)) (by rw[lMa];exact fj1 (Y0 X0 (.k 100000)) [Y1 X0 (.k 6)] rfl hts) ?_;refine s_e (cy ey rfl (bo rfl (bc (aa db rfl ?_))));refine cM (i:=0) bE (by kernel_rfl) rfl ?_;refine cM (i:=0) bE (by kernel_rfl) rfl ?_;refine bw rfl (xa (t:=(ax.addr (mOf (kd a)) (wOf (kd a)) (kd a) lw)) (x:=kd a) (y:=lw) (z:=lw) IH) (by rw[lMa,lMa];exact fj1 (Y0 X0 (.k 100000)) [Y1 X0 (.k 6)] rfl hts) ?_;refine ae (ae (ae ?_));exact⟨trivial,.mk (ts++[(ax.addr (mOf (kd a)) (wOf (kd a)) (kd a) lw)]) _ _ _ _ _ _ _ _ _ _ _ _ (n8 hok (.addr hM hlw)) ⟨done2,eD2,by rw[lAp];show ts.length+1≤_;exact hlen2⟩⟩
         ·
          haveI w2:=h4;refine s_i ?_;refine Qk (w:=decide (a.fmod 5=2)||(decide (a.fmod 5=3)&&decide (kd a=6))) ?_ ?_
          ·
           refine uK (dR hU rfl (el (kb ?_)));refine Vv (fun h5=>?_) (fun h5=>?_)
           ·
            haveI q1:=h5;refine uK (bK (dR hU rfl (el (kb ?_))));refine lu (fun h6=>?_) (fun h6=>?_)
            ·
             haveI q2:=h6;refine bK (dR db rfl (el (kb ?_)));refine lu (fun h7=>?_) (fun h7=>?_)
             ·
              haveI q3:=h7;refine nw ?_;refine Vu (by rfl) ?_;exact⟨by first|(simp_all;done)|(simp at *;simp_all),rfl⟩
             ·
              haveI q3:=h7;refine so (by rfl) ?_;refine tC ?_;exact⟨by first|(simp_all;done)|(simp at *;simp_all),rfl⟩
            ·
             haveI q2:=h6;refine so (by rfl) ?_;refine tC ?_;exact⟨by first|(simp_all;done)|(simp at *;simp_all),rfl⟩
           ·
            haveI q1:=h5;exact⟨by first|(simp_all;done)|(simp at *;simp_all),rfl⟩
          ·
           refine jd (fun h8=>?_) (fun h8=>?_)
           ·
            haveI w3:=h8;refine s_a (aQ DS ye (aa pE rfl (am (am ?_))));refine cM (i:=0) bE (by kernel_rfl) rfl ?_;refine am (eg pD rfl ?_);refine iD (by decide) ?_;refine aa e9 rfl (mo (.of_right hmul) (dQ ?_));refine o9 (w:= .int (if(c.fdiv 12).fmod 3=1 then 0 else C-1)) ?_ ?_
            ·
             refine jt (bz (am (eg pD rfl ?_)));refine lq (by decide) (jV _).2.2.2.1 ?_;refine af ?_;refine iD (by decide) ?_;refine af (el (kb ?_));refine⟨fun q=>?_,fun q=>?_⟩
             ·
              refine af ?_;exact⟨congrArg V.int (if_pos (beq_iff_eq.mp q)).symm,rfl⟩
             ·
              refine eg e9 rfl (bu ?_);exact⟨congrArg V.int (if_neg (fun z=>by rw[z]at q;cases q)).symm,rfl⟩
            ·
             refine dQ (Ck ?_);rw[←qM];have hh:=Gh (W:=wOf (kd a)) (low:=low) (c:=C) (z:=c) hlow.1 hlow.2 hc.1;generalize qM (wOf (kd a)) low C c=high at hh⊢;refine ag m8 .z15 (s_e (cy ds rfl (bo rfl (bH vw iq (bH jq cI ?_)))));refine cM (i:=0) bE (by kernel_rfl) rfl ?_;refine aa db rfl ?_;refine bL (yH hM (by lia) ⟨hlow.1,fi3 (Y1 X0 X1) [Y0 (.k 1) X2,Y0 (.a X0 X2) X1] rfl hc.1 hlow.2⟩) ?_ jx;refine bH jq cI (aa m8 rfl (aa db rfl ?_));refine bL (yH hM (by lia) ⟨fi2 (Y0 (.k 0) X0) [Y0 (.k 0) X1,Y0 X1 X0] rfl hlow.1 hh.1,hh.2⟩) ?_ jx;refine bL (Qt hM (by lia) hh.1) ?_ Qb;refine bw rfl (Ub (w:=wOf (kd a)) (ver:=kd a)) (by rw[lMa];exact fj1 (Y0 X0 (.k 100000)) [Y1 X0 (.k 6)] rfl hts) ?_;refine s_e (cy ey rfl (bo rfl (bc (aa db rfl ?_))));refine cM (i:=0) bE (by kernel_rfl) rfl ?_;refine aa m8 rfl ?_;refine bw rfl (xa (t:=(ax.rng (mOf (kd a)) (wOf (kd a)) (kd a) low high)) (x:=kd a) (y:=low) (z:=high) rfl) (by rw[lMa,lMa];exact fj1 (Y0 X0 (.k 100000)) [Y1 X0 (.k 6)] rfl hts) ?_;refine ae (ae (ae (ae ?_)));exact⟨trivial,.mk (ts++[(ax.rng (mOf (kd a)) (wOf (kd a)) (kd a) low high)]) _ _ _ _ _ _ _ _ _ _ _ _ (n8 hok (.rng hM ⟨hlow.1,fi3 (Y1 X0 X1) [Y0 (.k 1) X2,Y0 (.a X0 X2) X1] rfl hc.1 hlow.2⟩ ⟨fi2 (Y0 (.k 0) X0) [Y0 (.k 0) X1,Y0 X1 X0] rfl hlow.1 hh.1,hh.2⟩ hh.1)) ⟨done2,eD2,by rw[lAp];show ts.length+1≤_;exact hlen2⟩⟩
           ·
            haveI w3:=h8;refine s_a (am (am (eg kx rfl (dQ (cy e9 rfl (tF (tD ?_)))))));refine bu (eg pD rfl ?_);refine iD (by decide) ?_;haveI hc6:=fk (x:=c) (y:=6) (by decide);refine bu ?_;obtain⟨pw,hpw⟩:∃pw:Nat,((wOf (kd a):Nat):Int)+1-((Builtin.Int.intBits C:Nat):Int)-c.fmod 6=pw:=⟨(((wOf (kd a):Nat):Int)+1-((Builtin.Int.intBits C:Nat):Int)-c.fmod 6).toNat,by lia⟩;rw[hpw];have hpW:pw≤wOf (kd a):=iOm (fi5 (Y0 X0 X1) [Y2 (.i X2) X3,Y0 (.k 0) X4,Y2 X0 (.s (.s (.i X1) X3) X4),Y0 (.k 0) X2] rfl hb.symm hc6.1 hpw.symm (iNn e));refine ag jb .z16 (s_a (am (af (cC kx rfl (aa jb rfl (bu ?_))))));refine j1 (fi2 (Y0 (.k 0) (.s X0 X1)) [Y0 X1 X0] rfl (iOl hpW)) (fi4 (Y0 (.s X0 X1) (.k 1000000)) [Y0 X2 (.k 64),Y1 X3 (.k 6),Y2 (.s (.s (.i X0) X2) X3) X1] rfl (iOl hmul) hc6.2 hpw) (by decide) ?_;rw[yF hpW];refine ag gj .z17 (s_i (dR hU rfl (el (kb ?_))));refine jd (fun h9=>?_) (fun h9=>?_)
            ·
             haveI w4:a.fmod 5=3:=beq_iff_eq.mp h9;have hk4:kd a=4:=kd4 hK w3 w4;refine s_e (cy ds rfl (bo rfl ?_));haveI hl32:low<2^32:=by have h9:=hlow.2;rw[hk4]at h9;have h8:wOf 4=32:=rfl;rw[h8]at h9;exact fi3 (Y1 X0 X1) [Y0 (.k 1) X2,Y0 (.a X0 X2) X1] rfl hc.1 h9
             obtain⟨hB4,hval⟩:=VL hlow.1 hl32;obtain⟨o3,ho3⟩:∃y:Int,y=(Builtin.bitAnd (low.fdiv (2^((8:Int)*3).toNat)) 255):=⟨_,rfl⟩;obtain⟨o2,ho2⟩:∃y:Int,y=(Builtin.bitAnd (low.fdiv (2^((8:Int)*2).toNat)) 255):=⟨_,rfl⟩;obtain⟨o1,ho1⟩:∃y:Int,y=(Builtin.bitAnd (low.fdiv (2^((8:Int)*1).toNat)) 255):=⟨_,rfl⟩;obtain⟨o0,ho0⟩:∃y:Int,y=(Builtin.bitAnd (low.fdiv (2^((8:Int)*0).toNat)) 255):=⟨_,rfl⟩;rw[←ho3,←ho2,←ho1,←ho0]at hB4 hval;refine o9 (w:= .str (hJ o3 o2 o1 o0 pw)) ?_ ?_
             ·
              refine am ?_;refine am ?_;refine qj ?_;refine iC (LB ?_);refine nE (gO.of (cel:=[("low",0)]) rfl) ?_;refine bc (af (af (af (af ?_))));refine⟨_,_,Kh,blE rfl,?_⟩;refine jw ?_;refine a_n (ac.of (i:=1) (k:= .local) (l:=iP)) .z1 ?_;refine jF ?_;refine⟨fun _=>?_,fun q=>by cases q⟩;refine aQ (ac.of (i:=2) (k:=GI) (l:=iP)) gw ?_;refine am (am ?_);refine cM (i:=0) (ac.of (i:=3) (k:= .cell) (l:=iP)) (by kernel_rfl) rfl ?_;refine am (af ?_);refine aa (ac.of (i:=1) (k:= .local) (l:=iP)) rfl ?_;refine mo (.of_left (by decide)) ?_;refine j2 (by decide) ?_;refine af (cU ?_);rw[←ho3];refine kC (kU hB4.a.1 hB4.a.2) ?_;refine⟨trivial,?_⟩;refine jw ?_;refine a_n (ac.of (i:=1) (k:= .local) (l:=iP)) .z1 ?_;refine jF ?_;refine⟨fun _=>?_,fun q=>by cases q⟩;refine aQ (ac.of (i:=2) (k:=GI) (l:=iP)) gw ?_;refine am (am ?_);refine cM (i:=0) (ac.of (i:=3) (k:= .cell) (l:=iP)) (by kernel_rfl) rfl ?_;refine am (af ?_);refine aa (ac.of (i:=1) (k:= .local) (l:=iP)) rfl ?_;refine mo (.of_left (by decide)) ?_;refine j2 (by decide) ?_;refine af (cU ?_);rw[←ho2];refine kC (kU hB4.b.1 hB4.b.2) ?_;refine⟨trivial,?_⟩;refine jw ?_;refine a_n (ac.of (i:=1) (k:= .local) (l:=iP)) .z1 ?_;refine jF ?_;refine⟨fun _=>?_,fun q=>by cases q⟩;refine aQ (ac.of (i:=2) (k:=GI) (l:=iP)) gw ?_;refine am (am ?_);refine cM (i:=0) (ac.of (i:=3) (k:= .cell) (l:=iP)) (by kernel_rfl) rfl ?_;refine am (af ?_);refine aa (ac.of (i:=1) (k:= .local) (l:=iP)) rfl ?_;refine mo (.of_left (by decide)) ?_;refine j2 (by decide) ?_;refine af (cU ?_);rw[←ho1];refine kC (kU hB4.c.1 hB4.c.2) ?_;refine⟨trivial,?_⟩;refine jw ?_;refine a_n (ac.of (i:=1) (k:= .local) (l:=iP)) .z1 ?_;refine jF ?_;refine⟨fun _=>?_,fun q=>by cases q⟩;refine aQ (ac.of (i:=2) (k:=GI) (l:=iP)) gw ?_;refine am (am ?_);refine cM (i:=0) (ac.of (i:=3) (k:= .cell) (l:=iP)) (by kernel_rfl) rfl ?_;refine am (af ?_);refine aa (ac.of (i:=1) (k:= .local) (l:=iP)) rfl ?_;refine mo (.of_left (by decide)) ?_;refine j2 (by decide) ?_;refine af (cU ?_);rw[←ho0];refine kC (kU hB4.e.1 hB4.e.2) ?_;refine⟨trivial,?_⟩;refine tJ (L2 (.inr rfl) (IM hB4) (iC ?_));refine E5 (IJ hB4) ?_;refine aQ DT gw (aa jb rfl ?_);refine kC (kU (iNn _) (fi2 (Y1 X0 (.k 256)) [Y0 X1 (.k 128),Y0 X0 X1] rfl (iOl hW) (iOl hpW))) (E5 (IK hB4 ⟨iNn _,fi2 (Y1 X0 (.k 256)) [Y0 X1 (.k 128),Y0 X0 X1] rfl (iOl hW) (iOl hpW)⟩) ?_);exact⟨rfl,rfl⟩
             ·
              refine bw rfl (Ud) (by rw[lMa];exact fj1 (Y0 X0 (.k 100000)) [Y1 X0 (.k 6)] rfl hts) ?_;refine ae (s_e (cy ey rfl (bo rfl (bc (aa db rfl (am ?_))))));refine cM (i:=0) bE (by kernel_rfl) rfl ?_;refine am ?_;refine cM (i:=0) bE (by kernel_rfl) rfl ?_;refine aa gj rfl (iD (Int.ne_of_gt (aV _)) ?_);refine bu (am (am (am ?_)));refine cM (i:=0) bE (by kernel_rfl) rfl ?_;refine am ?_;refine cM (i:=0) bE (by kernel_rfl) rfl ?_;refine aa gj rfl (iD (Int.ne_of_gt (aV _)) ?_);refine bu (aa gj rfl (dQ (af (bu ?_))));refine bw rfl (xa (t:=(ax.txt o3 o2 o1 o0 pw)) (x:=kd a) (II hval hk4)) (by rw[lMa,lMa];exact fj1 (Y0 X0 (.k 100000)) [Y1 X0 (.k 6)] rfl hts) ?_;refine ae (ae (ae (ae ?_)));exact⟨trivial,.mk (ts++[(ax.txt o3 o2 o1 o0 pw)]) _ _ _ _ _ _ _ _ _ _ _ _ (n8 hok (.txt hB4 (by haveI h8:wOf 4=32:=rfl;rw[hk4,h8]at hpW;exact hpW))) ⟨done2,eD2,by rw[lAp];show ts.length+1≤_;exact hlen2⟩⟩
            ·
             haveI w4:=h9;refine s_e (cy ds rfl (bo rfl (bH sX aD (bc ?_))));refine cM (i:=0) bE (by kernel_rfl) rfl ?_;refine aa jb rfl (aa db rfl ?_);refine bL (Qr hM (by lia) ⟨hlow.1,fi3 (Y1 X0 X1) [Y0 (.k 1) X2,Y0 (.a X0 X2) X1] rfl hc.1 hlow.2,hpW⟩) ?_ dw;refine bw rfl (Uc (w:=wOf (kd a)) (ver:=kd a)) (by rw[lMa];exact fj1 (Y0 X0 (.k 100000)) [Y1 X0 (.k 6)] rfl hts) ?_;refine ae (s_e (cy ey rfl (bo rfl (bc (aa db rfl (am ?_))))));refine cM (i:=0) bE (by kernel_rfl) rfl ?_;refine am ?_;refine cM (i:=0) bE (by kernel_rfl) rfl ?_;refine aa gj rfl (iD (Int.ne_of_gt (aV _)) ?_);refine bu (am (am (am ?_)));refine cM (i:=0) bE (by kernel_rfl) rfl ?_;refine am ?_;refine cM (i:=0) bE (by kernel_rfl) rfl ?_;refine aa gj rfl (iD (Int.ne_of_gt (aV _)) ?_);refine bu (aa gj rfl (dQ (af (bu ?_))));refine bw rfl (xa (t:=(ax.net ⟨mOf (kd a),wOf (kd a),kd a,low,pw⟩)) (x:=kd a) zp) (by rw[lMa,lMa];exact fj1 (Y0 X0 (.k 100000)) [Y1 X0 (.k 6)] rfl hts) ?_;refine ae (ae (ae (ae ?_)));exact⟨trivial,.mk (ts++[(ax.net ⟨mOf (kd a),wOf (kd a),kd a,low,pw⟩)]) _ _ _ _ _ _ _ _ _ _ _ _ (n8 hok (.net ⟨hM,hlow.1,by show low<2^wOf (kd a);exact fi3 (Y1 X0 X1) [Y0 (.k 1) X2,Y0 (.a X0 X2) X1] rfl hc.1 hlow.2,hpW⟩)) ⟨done2,eD2,by rw[lAp];show ts.length+1≤_;exact hlen2⟩⟩
  ·cases hi with
   |mk ts lo q0 q1 q2 q3 q4 q5 q6 q7 q8 q9 q10 hok hDD=>
    obtain⟨done,eD,hlen⟩:=hDD;haveI hts:ts.length≤6:=by haveI h1:=J0 hN;haveI h2:=congrArg List.length eD;rw[lAp,List.length_range]at h2;simp at h2;exact fj3 (Y0 X0 (.k 6)) [Y0 X0 X1,Y0 X2 (.k 6),Y2 X1 X2] rfl hlen h1 h2
    refine je (Cg (bH sY zV (bH rJ yc (aa ds rfl ?_))));refine xt (IC (by lia) hok (fj1 (Y0 X0 (.k 20)) [Y0 X0 (.k 6)] rfl hts) (fun os hpo hs=>?_)) HD;refine xt (H9 (by lia) (fun z hz=>L7 hok hpo z hz) (IQ hok hpo hts) ?_) KZ;refine bH rK yd (aa ey rfl ?_);refine xt (H6 (pszq:=ts.map bU) (by lia) (zt hok) (by rw[lMa];exact fj1 (Y0 X0 (.k 15)) [Y0 X0 (.k 6)] rfl hts) (fun p4 p6 hp9 a1 a2 a3 a4=>?_)) HP;obtain⟨rows,hE,hR⟩:=IR hok hpo hs a1 a2 a3 a4;rw[hE,hR];refine Hg (.inr rfl) (.inr rfl) (by lia) ?_;exact⟨_,.nob rfl,rfl⟩
end
theorem DV(X:(K1 P τ).In h):(K0 P τ).In h:=fun a o e=>X a o (by
 show(K0 P τ++T0).lookup a=some o;rw[List.lookup_append,e];rfl)
theorem VN(X:(K1 P τ).In h):h.get? 1524=some (tabObj #[])∧h.get? 2950=some (tabObj #[]):=by
 have a1:(K1 P τ).lookup 1524=some Ez:=by kernel_rfl
 have a2:(K1 P τ).lookup 2950=some EA:=by kernel_rfl
 exact⟨X _ _ a1,X _ _ a2⟩
theorem QW:(K0 P τ).lookup 1524=none∧(K0 P τ).lookup 2950=none:=⟨by kernel_rfl,by kernel_rfl⟩
noncomputable abbrev hid(h:Heap):Heap:=hideAll h [1524,2950]
theorem QX(X:(K0 P τ).In h):(K0 P τ).In (hid h):=fun a o e=>hideAll_get _ (X a o e) fun hm=>by
 obtain⟨n1,n2⟩:=QW (P:=P) (τ:=τ);simp only[List.mem_cons,List.not_mem_nil,or_false]at hm;rcases hm with rfl|rfl
 ·rw[n1]at e;cases e
 ·rw[n2]at e;cases e
theorem Mb(n1:b≠1524)(n2:b≠2950):(hid h).get? b=h.get? b:=by
 cases e:h.get? b with
 |some o=>exact hideAll_get _ e (by simp[n1,n2])
 |none=>
  cases e2:(hid h).get? b with
  |none=>rfl
  |some o=>rw[of_hideAll _ e2]at e;cases e
theorem vx {h:Heap}{a:Addr}{o:Obj}(e:h.get? a=some o)(k:(match o.data with| .dict es _=>es.all (fun e=>match e.key with| .str _ _=>true|_=>false)|_=>false)=true):h.isNs a=true:=by
 unfold Heap.isNs;rw[e];exact k
noncomputable def QY:Option Value→Bool
 |some (.ref b)=>Nat.beq b 0
 |_=>false
theorem IT(P:Params):QY (globalOf (boot_heap P) "__annotations__")=false:=by kernel_rfl
theorem Gi {v:World}{os:OsState}{s₁:Shared}(B:Behind v os s₁){C:Prop}(k:∀S:Sta,S.w=v→S.H=hid s₁.heap→S.os=s₁.os→S.mg=(hid s₁.heap).nsMap 3→(K1 S.w.params S.τ).In s₁.heap→C):C:=by
 obtain⟨τ,X1⟩:=B.stat;haveI X0:=DV X1;have X:=QX X0;haveI e3:(K0 v.params τ).lookup 3=some (o_3 v.params τ):=by kernel_rfl
 haveI e2:(K0 v.params τ).lookup 2=some (o_2 v.params):=by kernel_rfl
 haveI n3:(hid s₁.heap).isNs 3=true:=vx (X _ _ e3) (by kernel_rfl);haveI n2:(hid s₁.heap).isNs 2=true:=vx (X _ _ e2) (by kernel_rfl);have h0:(S0 v os).abs.heap=boot_heap v.params:=congrArg Shared.heap (boot_abs v.params os);haveI b0:(S0 v os).abs.heap.get? 0=s₁.heap.get? 0:=by
  have q:=nq v.params;rw[←h0]at q;unfold Heap.isNs at q;cases e:(S0 v os).abs.heap.get? builtinsNs with
  |none=>rw[e]at q;cases q
  |some o=>
   refine(e:(S0 v os).abs.heap.get? 0=some o).trans (Eq.symm ?_);refine B.ran.2.2.2.1 0 o e fun z=>?_
   rcases z with z|z|z
   ·cases z
   ·cases z
   ·rw[h0]at z;haveI q:=IT v.params;rw[z]at q;cases q
 have g0:(hid s₁.heap).get? builtinsNs=(S0 v os).abs.heap.get? builtinsNs:=(Mb (by decide) (by decide)).trans b0.symm;have n0:(hid s₁.heap).isNs builtinsNs=true:=(lp g0).trans (by rw[h0];exact nq _);refine k ⟨v,τ,hid s₁.heap,s₁.os,(hid s₁.heap).nsMap 3,(hid s₁.heap).nsMap 0,X,.of_isNs n3,.of_isNs n0,⟨_,.of_isNs n2,?_⟩,fun x hx=>?_,fun t ht=>?_⟩ rfl rfl rfl rfl X1
 ·unfold Heap.nsMap;rw[show(hid s₁.heap).get? cStatics=some (o_2 v.params)from X _ _ e2];kernel_rfl
 ·rw[show(hid s₁.heap).nsMap 0 x=_ from congrFun (mP g0) x,h0];exact Heap.of_bltView (nq _) (xp _) x hx
 ·refine hideAll_none _ ?_;unfold eV at ht;simp only[List.mem_cons,List.not_mem_nil,or_false]at ht;rcases ht with rfl|rfl<;>simp
theorem IU(r:IntsAre vs ns):aj ρ n h (ns.map .int) vs:=by
 induction r with
 |nil=>exact .nil
 |cons _ _ _ ih=>exact .cons (.int _ _) ih
theorem BA(X:(K0 P τ).In h):isCodeTable h 1524∧isCodeTable h 2950:=by
 haveI a1:(K0 P τ).lookup 1526=some (D7 τ):=by kernel_rfl
 haveI a2:(K0 P τ).lookup 2954=some (Eo τ):=by kernel_rfl
 exact⟨⟨1526,_,_,X _ _ a1,by kernel_rfl,rfl,by kernel_rfl⟩,⟨2954,_,_,X _ _ a2,by kernel_rfl,rfl,by kernel_rfl⟩⟩
theorem IV {S:Sta}{s:Shared}(X:(K0 S.w.params S.τ).In s.heap)(t1:s.heap.get? 1524=some (tabObj #[]))(t2:s.heap.get? 2950=some (tabObj #[]))(hk:∀b o,S.H.get? b=some o→s.heap.get? b=some o)(hos:s.os=S.os)(hg:s.gens= #[])
  {l:Addr}{xs:List Value}{ns:List Int}(hl:s.heap.get? l=some {cls:= .type "list",data:= .seq xs.toArray})(hI:IntsAre xs ns)(hn:ns.length≤63)(h1:l≠1524)(h2:l≠2950){R:PR}
  (h:∀s',OldK s.heap s'.heap→s'.os=s.os→AllBare s'.gens→R (.ok (.ret (.bool true))) s'):codeAny S.M callerA (.call (.ref oR) ⟨[.ref l],[]⟩) R s:=by
 have tk:∀t∈eV,s.heap.get? t.1=some (tabObj #[]):=fun t ht=>by
  unfold eV at ht;simp only[List.mem_cons,List.not_mem_nil,or_false]at ht;rcases ht with rfl|rfl
  ·exact t2
  ·exact t1
 have C:CorrH S ⟨fun _=>(0,0),fun b=>b=l⟩ [] s:=by
  refine⟨hk,fun i o e=>by simp at e,fun i hi=>absurd hi (nNz _),fun i j hi=>absurd hi (nNz _),by rw[hg];exact fun y hy=>by simp at hy,hos,fun b hb=>?_,fun t ht=>⟨#[],tk t ht,trivial,fun pos vg e=>by cases e⟩⟩;obtain rfl:=(hb:b=l);refine⟨⟨fun t ht=>?_,fun i hi=>absurd hi (nNz _)⟩,by rw[hl];rfl⟩;unfold eV at ht;simp only[List.mem_cons,List.not_mem_nil,or_false]at ht;rcases ht with rfl|rfl
  ·exact h2
  ·exact h1
 refine IS (d:=301) (ns:=ns) (by decide) hn callerA _ s ⟨rfl,nRe _,by decide⟩ C [.ref l] [] (.cons (.list (xs:=xs.toArray) rfl ⟨_,hl⟩ (by rw[List.toList_toArray];exact IU hI)) .nil) .nil R (fun v v' hp' ρ' s' p T C' r=>?_) fun _ _ _ _ _ x=>x.elim
 obtain⟨rfl,rfl⟩:=p;obtain rfl:=r.bool_inv;haveI c1:=(BA X).1;haveI c2:=(BA X).2;refine h s' ⟨fun b o e=>?_,fun b o e=>?_⟩ (C'.os.trans hos.symm) C'.gens
 ·by_cases q:∃t∈eV,b=t.1
  ·obtain⟨t,ht,rfl⟩:=q;obtain⟨pszq,e2,_⟩:=C'.tab t ht;rw[tk t ht]at e;cases e;refine .inr (.inl ⟨?_,rfl,#[],pszq,rfl,?_⟩)
   ·unfold eV at ht;simp only[List.mem_cons,List.not_mem_nil,or_false]at ht;rcases ht with rfl|rfl
    ·exact c2
    ·exact c1
   ·rw[e2];simp
  ·exact .inl (T.frame b o e (by simp) ⟨fun t ht z=>q ⟨t,ht,z⟩,fun i hi=>absurd hi (nNz _)⟩)
 ·exact oSm (T.live b (by rw[e];rfl))
noncomputable abbrev rw1:OpenLaw:=PySem.Challenge.rw_az0026_01
theorem Mc(hi:WShape.hasItems R xs .int=true)(w:WellAll P h vs xs):∃ns:List Int,IntsAre vs ns∧ns.length=xs.length:=by
 induction xs generalizing vs with
 |nil=>cases w;exact⟨[],.nil,rfl⟩
 |cons x xs ih=>
  simp only[WShape.hasItems,Bool.and_eq_true]at hi;obtain⟨i,rfl⟩:=hasW_int hi.1;cases w with
  |cons a b=>
   obtain⟨ns,h1,h2⟩:=ih hi.2 b;cases a;exact⟨i::ns,.cons _ _ h1,congrArg (·+1) h2⟩
theorem Md(h:rw1.row.pre.holds [] {args:=[.list xs]}=true):xs.length≤63:=by
 have e:rw1.row.pre= .and (.not (.lt (.lit (.int 63)) (.len (.arg 0)))) (.lit (.bool true)):=rfl;rw[e]at h;have h1:=(holds_andW h).1;simp[WTm.holds,WTm.value]at h1;have e2:less? (WData.int 63) (WData.int (xs.length:Nat))=some (decide ((63:Int)<(xs.length:Nat))):=rfl;rw[e2]at h1
 by_cases q:(63:Int)<(xs.length:Nat)
 ·rw[dEt q]at h1;cases h1
 ·omega
theorem Me:pw.theDef "law" =some (ll (an pw.main.body 89),ce (an pw.main.body 89),bb (an pw.main.body 89)):=by kernel_rfl
theorem BB:(ll (an pw.main.body 89)).defaults=[]∧kwWritten? (ll (an pw.main.body 89)).kwonlyargs (ll (an pw.main.body 89)).kw_defaults=some []:=⟨by kernel_rfl,by kernel_rfl⟩
theorem zv(X:(K0 P τ).In h):h.nsMap 3 "law" =some (.ref oR)∧h.isNs 3=true:=by
 have e3:(K0 P τ).lookup 3=some (o_3 P τ):=by kernel_rfl
 refine⟨?_,vx (X _ _ e3) (by kernel_rfl)⟩;unfold Heap.nsMap;rw[X _ _ e3];kernel_rfl
theorem QZ {S:Sta}{h:Heap}(X:(K0 S.w.params S.τ).In h):isTheDefsW pw h "law":=by
 obtain⟨g1,g2⟩:=zv X;exact⟨oR,_,kL S,_,_,_,(Pin.globalOf_eq g2 _).trans g1,X _ _ FE,rfl,Me,rfl,rfl,rfl,rfl,rfl,rfl,rfl,rfl,.inl ⟨BB.1,rfl⟩,[],BB.2,.inl ⟨rfl,rfl⟩⟩
theorem Uh(xs:List WData):rw1.row.claim.post [.list xs] (.bool true) [.list xs]=true:=by wrow_post
theorem fr1:frees rw1.row.toRowW=true:=by rfl
theorem Gj(r:ReadsAllW R cl h [.ref l] [.list xs] as):l∈as:=by
 cases r with
 |cons r1 r2=>cases r1 with
  |list q1 q2 q3 q4=>exact List.mem_append_left _ (.head _)
theorem IW(w:WellAll P h vs [.list xs]):∃l ys,vs=[.ref l]∧h.get? l=some {cls:=Value.type "list",data:=Data.seq ys.toArray}∧WellAll P h ys xs:=by
 obtain⟨lv,vs',rfl,w1,w2⟩:=wellAll_cons_inv w;cases w2;cases w1 with
 |list hl hw=>exact⟨_,_,rfl,hl,hw⟩
theorem VO {v:World}{os:OsState}{s₀:Shared}(B:Behind v os s₀){free:Addr→Prop}{gens:Prop}{kept:Heap→Prop}(hkept:∀h,kept h):rw1.row.claim.CallFrom (callStub "law") v free gens kept s₀:=by
 refine Gi B fun S hw hH hos hm X1=>?_
 subst hw;obtain⟨hsame,hu,ha,hap,hmk⟩:=frees_parts fr1;refine ClaimW.callFrom_of_specG (c:=rw1.row.claim) (tree:=fun vs=>do match←nsGet mainNs "law" with
   |some f=>do ret (←PySem.call f vs)
   |none=>unsupported "claim.caller:no-such-global") B.asleep B.gens fun args hpre hlay ord hord=>?_
 obtain⟨xs,rfl,hit,hlen⟩:∃xs,args=[.list xs]∧WShape.hasItems [] xs .int=true∧xs.length≤63:=by
  obtain⟨d,r,rfl,hd,hr⟩:=hasAllW_cons (pre_splitW hpre).1;obtain rfl:=hasAllW_nil hr;obtain⟨xs,rfl,hit⟩:=hasW_list hd;exact⟨xs,rfl,hit,Md (pre_splitW hpre).2⟩
 refine byG fun G0 kG=>?_
 obtain⟨⟨vs,s₁⟩,hlaid⟩:=oSm (layAllW_isSome (R:=[]) (cl:=classAt s₀.heap) (P:=S.w.params) (ord:=ord) (fun c hc=>by cases hc) [.list xs] rw1.row.args s₀ (pre_splitW hpre).1);have keeps:=layAllW_keeps _ _ _ hlaid;have hal:=layAllW_rest _ _ _ hlaid;obtain⟨as,hrd,hin,hold⟩:=reads_layAllW hord _ _ _ hlaid hlay s₁.heap (fun _ _ e=>e);have L:Laid rw1.row.records S.w s₀ s₁ [.list xs] vs as:=⟨⟨ord,hord,hlaid⟩,hrd,hin,hold,keeps,hal.1.trans B.gens,hal.2.2.1⟩;obtain⟨l,xs',rfl,hl,hw⟩:=IW L.well;obtain⟨ns,hI,hn⟩:=Mc hit hw;have hX:=(DV X1).keeps keeps;obtain⟨t1,t2⟩:=VN X1;have hge:3005≤l:=by
  have:=(hin.2.2 l (Gj hrd)).1;rw[B.size]at this;exact this
 refine kG ⟨_,s₁,hlaid,?_⟩;obtain⟨g1,g2⟩:=zv hX;refine wpAny_bind (wpAny_nsGet (.of_isNs g2) ?_);rw[show s₁.heap.nsMap mainNs "law" =some (.ref oR)from g1];refine wpAny_bind (wpAny_call (IV hX (keeps _ _ t1) (keeps _ _ t2) (fun b o e=>keeps _ _ (of_hideAll _ (hH▸e))) (hal.2.2.1.trans hos.symm) (hal.1.trans B.gens) hl hI (by omega) (fun z=>by rw[z]at hge;exact absurd hge (by decide)) (fun z=>by rw[z]at hge;exact absurd hge (by decide)) fun s' hK ho hG=>wpAny_pure ⟨_,rfl,?_⟩));have g:GoodWG rw1.row.claim (classAt s₀.heap) (ExcName.means s₀.heap) [.list xs] s₁ (.ok (.ret (.bool true))) s':=
  ⟨.inl ⟨_,.bool true,[],rfl,fun _=>rfl,.bool true,Uh xs,fun _=>⟨.nil,fun a ha=>by cases ha⟩⟩,hK,ho,hG⟩
 have z:=g.laid (c:=rw1.row.claim) hsame rfl (ident_freeW hu ha hap) L;exact⟨z.1,z.2.1,z.2.2,hkept _⟩
theorem row_holds(said:rw1.row.wellSaid=true):rw1.row.Holds:=by
 refine⟨said,⟨[.list [.int 3]],by decide+kernel,by decide+kernel⟩,⟨⟨rfl,rfl,rfl,rfl,rfl,by decide+kernel⟩,by decide+kernel,rfl⟩,⟨[.list [.int 3]],by decide+kernel,by decide+kernel⟩,fun w=>⟨(EG w).1,fun s hs=>?_⟩⟩;obtain⟨s₀,h1,h2,os,s₁,rfl,B⟩:=(EG w).2 s hs;refine⟨_,h1,h2,s₁,B.ran,fun n hn=>?_,fun x hx=>(nomatch hx),fun x hx=>(nomatch hx),VO B fun _ q=>(nomatch q)⟩;have e:n="law":=lMs hn;subst e;exact Gi B fun S hw _ _ _ X1=>QZ (DV X1)
noncomputable def WS(l:OpenLaw):Bool:=l.wellSaid
theorem WS_self:WS=WS:=rfl
name_quick WSQ for Az.WS by Az.WS_self
theorem and2(x:a=true)(y:b=true):(a&&b)=true:=by rw[x,y];rfl
theorem said1:rw1.wellSaid=true:=by
 show WS rw1=true;rw[show WS=PySem.W.Fast.WSQ from PySem.W.Fast.WSQ_eq];unfold PySem.W.Fast.WSQ
 delta PySem.W.Fast.tw9984128071170026413 PySem.W.Fast.tw9446332074065402090
 repeat' with_reducible refine and2 ?_ ?_
 ·delta PySem.W.Fast.tw17960256430627541270 PySem.W.Fast.tw2436336058641802641 PySem.W.Fast.tw12908688711261696721
  repeat' with_reducible refine and2 ?_ ?_
  all_goals decide+kernel
 all_goals decide+kernel
end Az
theorem PySem.Challenge.cw_az0026_01_holds : PySem.Challenge.rw_az0026_01.Holds :=
 PySem.W.holds_law Az.said1 Az.row_holds
end
